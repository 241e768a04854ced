import JvmDerived
import JvmDerived.Pilot.@@N@@Statement
import JvmDerived.Pilot.@@N@@Code
set_option linter.unusedVariables false
set_option linter.unusedSimpArgs false
/- laws to paste: Road.backV, Road.eqW, Road.codOf (cut by pick.py; bodies as the Statement names them) -/
namespace Jvm.Pilot.@@N@@
namespace StrChars
open Jvm Sem ClassFile Op Lib Jvm.Stand Jvm.Free.XT Jvm.Free.ALB Jvm.Free.JM Jvm.Free
open Jvm.Lib.Cold (StaticIs)
/-- a char array whose places are chars -/
def Ch (a : Addr) (A : Cell) (U : State) : Prop := Arr .char a A U ∧ Typed .char A
theorem Ch.mv {a : Addr} {A : Cell} {U U' : State} (h : Ch a A U) (hal : U.vm.Alike U'.vm) (hh : U'.heap = U.heap) : Ch a A U' := ⟨h.1.mv hal hh, h.2⟩
theorem Ch.keep {a : Addr} {A : Cell} {U U' : State} (h : Ch a A U) (hal : U.vm.Alike U'.vm) (hk : U'.heap[a]? = some A) : Ch a A U' := ⟨h.1.keep hal hk, h.2⟩
/-- what place i of a char[]'s cell holds -/
def cv (A : Cell) (i : Nat) : Int32 := match A.slots[i]? with | some (.int x) => x | _ => 0
theorem Ch.get {a : Addr} {A : Cell} {U : State} (h : Ch a A U) {i : Nat} (hi : i < A.slots.size) : A.slots[i]? = some (.int (cv A i)) := by
  have e := Array.getElem?_eq_getElem hi
  have f := h.2 i _ e
  unfold cv; rw [e]
  generalize A.slots[i] = v at f
  cases v <;> simp [fits] at f ⊢
/-- the byte that i2b leaves of a char -/
def lo8 (x : Int32) : Int32 := x.toInt8.toInt32
theorem fits_lo8 (y : Int32) : fits .byte (.int (lo8 y)) = true := by
  have h1 := y.toInt8.le_toInt
  have h2 := y.toInt8.toInt_lt
  simp only [lo8, fits, Bool.and_eq_true, decide_eq_true_eq, Int32.le_iff_toInt_le, Int8.toInt_toInt32, show (-128 : Int32).toInt = -128 from by decide, show (127 : Int32).toInt = 127 from by decide]
  omega
/-- A' is A but that each place j of lo .. hi - 1 holds f j -/
def Laid (A A' : Cell) (lo hi : Nat) (f : Nat → Value) : Prop := A'.cls = A.cls ∧ A'.vm = A.vm ∧ A'.slots.size = A.slots.size ∧ ∀ i, A'.slots[i]? = if lo ≤ i ∧ i < hi then some (f i) else A.slots[i]?
theorem Laid.zero (A : Cell) (lo : Nat) (f : Nat → Value) : Laid A A lo (lo + 0) f := ⟨rfl, rfl, rfl, fun i => by rw [if_neg (by omega)]⟩
theorem Laid.step {A Ak : Cell} {lo k : Nat} {f : Nat → Value} {v : Value} (h : Laid A Ak lo k f) (hlo : lo ≤ k) (hk : k < Ak.slots.size) (hv : v = f k) : Laid A (Ak.setSlot k v) lo (k + 1) f := by
  refine ⟨h.1, h.2.1, by simpa [Cell.setSlot] using h.2.2.1, fun i => ?_⟩
  by_cases e : k = i
  · subst e; rw [Cell.slots_setSlot_self v hk, if_pos (by omega), hv]
  · rw [Cell.slots_setSlot_ne v e, h.2.2.2 i]
    by_cases q : lo ≤ i ∧ i < k
    · rw [if_pos q, if_pos (by omega)]
    · rw [if_neg q, if_neg (by omega)]
def U16 : String := "java/lang/StringUTF16"
namespace Cmp5
def yN : MethodName := ⟨"java/lang/StringUTF16", "compress", "([CI[BII)I"⟩
abbrev yB : ByteArray := jdk_52_method_21_code
theorem d0 : decode yB 0 = .ok (.iconst 0, 1) := by decide +kernel
theorem d1 : decode yB 1 = .ok (.istore 5, 2) := by decide +kernel
theorem d3 : decode yB 3 = .ok (.iload 5, 2) := by decide +kernel
theorem d5 : decode yB 5 = .ok (.iload 4, 2) := by decide +kernel
theorem d7 : decode yB 7 = .ok (.if_icmp (.ge) 37, 3) := by decide +kernel
theorem d10 : decode yB 10 = .ok (.aload_n 0, 1) := by decide +kernel
theorem d11 : decode yB 11 = .ok (.iload_n 1, 1) := by decide +kernel
theorem d12 : decode yB 12 = .ok (.caload, 1) := by decide +kernel
theorem d13 : decode yB 13 = .ok (.istore 6, 2) := by decide +kernel
theorem d15 : decode yB 15 = .ok (.iload 6, 2) := by decide +kernel
theorem d17 : decode yB 17 = .ok (.sipush 255, 3) := by decide +kernel
theorem d20 : decode yB 20 = .ok (.if_icmp (.le) 6, 3) := by decide +kernel
theorem d26 : decode yB 26 = .ok (.aload_n 2, 1) := by decide +kernel
theorem d27 : decode yB 27 = .ok (.iload_n 3, 1) := by decide +kernel
theorem d28 : decode yB 28 = .ok (.iload 6, 2) := by decide +kernel
theorem d30 : decode yB 30 = .ok (.i2b, 1) := by decide +kernel
theorem d31 : decode yB 31 = .ok (.bastore, 1) := by decide +kernel
theorem d32 : decode yB 32 = .ok (.iinc 1 1, 3) := by decide +kernel
theorem d35 : decode yB 35 = .ok (.iinc 3 1, 3) := by decide +kernel
theorem d38 : decode yB 38 = .ok (.iinc 5 1, 3) := by decide +kernel
theorem d41 : decode yB 41 = .ok (.goto (-38), 3) := by decide +kernel
theorem d44 : decode yB 44 = .ok (.iload 4, 2) := by decide +kernel
theorem d46 : decode yB 46 = .ok (.ireturn, 1) := by decide +kernel
def site : List Cond := []
def tab : Cond := tabOf yN yB 7 (some .int) site
def P (b : Addr) (A : Cell) (d : Addr) (B : Cell) (o q len : Nat) (args : Array Value) (s : State) : Prop := args = #[.ref b, .int (Int32.ofNat o), .ref d, .int (Int32.ofNat q), .int (Int32.ofNat len)] ∧ Ch b A s ∧ Arr .byte d B s ∧ b ≠ d ∧ o + len ≤ A.slots.size ∧ q + len ≤ B.slots.size ∧ ∀ i, i < len → ¬ 255 < cv A (o + i)
def E (b : Addr) (A : Cell) (d : Addr) (B : Cell) (o q len : Nat) (r : Option Value) (s u : State) : Prop := r = some (.int (Int32.ofNat len)) ∧ ∃ B', Put d B' s u ∧ Laid B B' q (q + len) (fun j => Value.int (lo8 (cv A (o + (j - q)))))
/-- no char of the range above 255: len; the places written hold each char's low byte -/
theorem law (l : Launch) (b : Addr) (A : Cell) (d : Addr) (B : Cell) (o q len : Nat) : Law l yN 5 5 0 0 yB 7 (some .int) site (P b A d B o q len) (E b A d B o q len) (copyLocs d q len) 0 0 := by
  refine Law.of_walk (plainFor_of_name (by decide +kernel)) (by decide +kernel) (by decide +kernel) (by decide) (fun _ _ h => by rw [h.1]; rfl) (fun _ U U' hal hh h => ⟨h.1, h.2.1.mv hal hh, h.2.2.1.mv hal hh, h.2.2.2⟩) (fun r U U' V V' h1 hal h2 h => ⟨h.1, h.2.elim fun B' q => ⟨B', q.1.mv h1 h2, q.2⟩⟩) ?_
  intro p e s m args below meth c s₁ X0 hexec hbytes hml hret hlk hnm hown hh0 W hP
  obtain ⟨rfl, hA, hB, hne, l1, l2, hp⟩ := hP
  have c1 : Steps p.tables e below (s₁.setTop (entryFrame m #[.ref b, .int (Int32.ofNat o), .ref d, .int (Int32.ofNat q), .int (Int32.ofNat len)] 7)) (s₁.setTop (mkF m 0 #[.val (.ref b), .val (.int (Int32.ofNat o)), .val (.ref d), .val (.int (Int32.ofNat q)), .val (.int (Int32.ofNat len)), .unset, .unset] [])) := entry rfl
  have hA0 := hA.1.mv X0.warmed.alike hh0
  have hB0 := hB.mv X0.warmed.alike hh0
  have a31 := hA.1.2.2.2
  have c2 : Steps p.tables e below (s₁.setTop (entryFrame m #[.ref b, .int (Int32.ofNat o), .ref d, .int (Int32.ofNat q), .int (Int32.ofNat len)] 7)) (s₁.setTop (mkF m 3 #[.val (.ref b), .val (.int (Int32.ofNat o)), .val (.ref d), .val (.int (Int32.ofNat q)), .val (.int (Int32.ofNat len)), .val (.int 0), .unset] [])) := c1.trans (by
    refine iconstV X0.here hexec rfl 0 (hb hbytes d0) (by decide) ?_
    refine XS.istore X0.here hexec rfl (hb hbytes d1) rfl rfl ?_
    exact Steps.refl _)
  have loop : ∀ (r i : Nat), i + r = len → ∀ (z : Slot), (z = .unset ∨ ∃ w, z = .val w ∧ w.category = 1) → ∀ (Tl : State) (Bk : Cell), Stand p l e { frames := 0, locals := 0, cells := 0, slots := 0 } s m #[.ref b, .int (Int32.ofNat o), .ref d, .int (Int32.ofNat q), .int (Int32.ofNat len)] below meth c Tl ([] ++ copyLocs d q i) 0 0 → Put d Bk s₁ Tl → Laid B Bk q (q + i) (fun j => Value.int (lo8 (cv A (o + (j - q))))) →
      Steps p.tables e below (s₁.setTop (entryFrame m #[.ref b, .int (Int32.ofNat o), .ref d, .int (Int32.ofNat q), .int (Int32.ofNat len)] 7)) (Tl.setTop (mkF m 3 #[.val (.ref b), .val (.int (Int32.ofNat (o + i))), .val (.ref d), .val (.int (Int32.ofNat (q + i))), .val (.int (Int32.ofNat len)), .val (.int (Int32.ofNat i)), z] [])) → ∃ (T' : State) (B' : Cell) (z' : Slot), Stand p l e { frames := 0, locals := 0, cells := 0, slots := 0 } s m #[.ref b, .int (Int32.ofNat o), .ref d, .int (Int32.ofNat q), .int (Int32.ofNat len)] below meth c T' ([] ++ copyLocs d q len) 0 0 ∧ Put d B' s₁ T' ∧ Laid B B' q (q + len) (fun j => Value.int (lo8 (cv A (o + (j - q))))) ∧
      Steps p.tables e below (s₁.setTop (entryFrame m #[.ref b, .int (Int32.ofNat o), .ref d, .int (Int32.ofNat q), .int (Int32.ofNat len)] 7)) (T'.setTop (mkF m 3 #[.val (.ref b), .val (.int (Int32.ofNat (o + len))), .val (.ref d), .val (.int (Int32.ofNat (q + len))), .val (.int (Int32.ofNat len)), .val (.int (Int32.ofNat len)), z'] [])) := by
    intro r
    induction r with
    | zero =>
      intro i hi z hz Tl Bk Xl pl fl cl
      have hil : i = len := by omega
      rw [hil] at Xl fl cl
      exact ⟨Tl, Bk, z, Xl, pl, fl, cl⟩
    | succ r ih =>
      intro i hi z hz Tl Bk Xl pl fl cl
      have all := X0.warmed.alike.symm.trans Xl.warmed.alike
      have hAl := hA0.keep all (pl.other hne hA0.1)
      have hBk := hB0.like all pl.1 fl.1 fl.2.1 fl.2.2.1
      have hlt : q + i < Bk.slots.size := by rw [fl.2.2.1]; omega
      have c3 : Steps p.tables e below (s₁.setTop (entryFrame m #[.ref b, .int (Int32.ofNat o), .ref d, .int (Int32.ofNat q), .int (Int32.ofNat len)] 7)) (Tl.setTop (mkF m 12 #[.val (.ref b), .val (.int (Int32.ofNat (o + i))), .val (.ref d), .val (.int (Int32.ofNat (q + i))), .val (.int (Int32.ofNat len)), .val (.int (Int32.ofNat i)), z] [.int (Int32.ofNat (o + i)), .ref b])) := cl.trans (by
        refine XS.iload Xl.here hexec rfl (hb hbytes d3) rfl ?_
        refine XS.iload Xl.here hexec rfl (hb hbytes d5) rfl ?_
        refine XS.icmpNo Xl.here hexec rfl (hb hbytes d7) rfl (ii_ge_f (lt32 (by omega) (by omega))) ?_
        refine XS.aloadN Xl.here hexec rfl (hb hbytes d10) rfl rfl ?_
        refine XS.iloadN Xl.here hexec rfl (hb hbytes d11) rfl ?_
        exact Steps.refl _)
      have c4 : Steps p.tables e below (s₁.setTop (entryFrame m #[.ref b, .int (Int32.ofNat o), .ref d, .int (Int32.ofNat q), .int (Int32.ofNat len)] 7)) (Tl.setTop (mkF m 13 #[.val (.ref b), .val (.int (Int32.ofNat (o + i))), .val (.ref d), .val (.int (Int32.ofNat (q + i))), .val (.int (Int32.ofNat len)), .val (.int (Int32.ofNat i)), z] [.int (cv A (o + i))])) := c3.trans (by
        refine Xl.aget hexec hAl rfl (hA.get (i := o + i) (by omega)) rfl rfl (hb hbytes d12) ?_
        exact Steps.refl _)
      have c5 : Steps p.tables e below (s₁.setTop (entryFrame m #[.ref b, .int (Int32.ofNat o), .ref d, .int (Int32.ofNat q), .int (Int32.ofNat len)] 7)) (Tl.setTop (mkF m 15 #[.val (.ref b), .val (.int (Int32.ofNat (o + i))), .val (.ref d), .val (.int (Int32.ofNat (q + i))), .val (.int (Int32.ofNat len)), .val (.int (Int32.ofNat i)), .val (.int (cv A (o + i)))] [])) := c4.trans (by
        refine XS.istoreS Xl.here hexec rfl (hb hbytes d13) rfl rfl hz ?_
        exact Steps.refl _)
      have c6 : Steps p.tables e below (s₁.setTop (entryFrame m #[.ref b, .int (Int32.ofNat o), .ref d, .int (Int32.ofNat q), .int (Int32.ofNat len)] 7)) (Tl.setTop (mkF m 31 #[.val (.ref b), .val (.int (Int32.ofNat (o + i))), .val (.ref d), .val (.int (Int32.ofNat (q + i))), .val (.int (Int32.ofNat len)), .val (.int (Int32.ofNat i)), .val (.int (cv A (o + i)))] [.int (lo8 (cv A (o + i))), .int (Int32.ofNat (q + i)), .ref d])) := c5.trans (by
        refine XS.iload Xl.here hexec rfl (hb hbytes d15) rfl ?_
        refine sipushV Xl.here hexec rfl 255 (hb hbytes d17) (by decide) ?_
        refine XS.icmpYes Xl.here hexec rfl (pc0 := 20) rfl (hb hbytes d20) rfl (ii_le_t (hp i (by omega))) (by decide) rfl ?_
        refine XS.aloadN Xl.here hexec rfl (hb hbytes d26) rfl rfl ?_
        refine XS.iloadN Xl.here hexec rfl (hb hbytes d27) rfl ?_
        refine XS.iload Xl.here hexec rfl (hb hbytes d28) rfl ?_
        refine i2b Xl.here hexec rfl (hb hbytes d30) rfl ?_
        exact Steps.refl _)
      obtain ⟨T7, X7, p7, st7⟩ := Xl.aput hexec hBk rfl hlt rfl (fits_lo8 (cv A (o + i))) (g := (mkF m 31 #[.val (.ref b), .val (.int (Int32.ofNat (o + i))), .val (.ref d), .val (.int (Int32.ofNat (q + i))), .val (.int (Int32.ofNat len)), .val (.int (Int32.ofNat i)), .val (.int (cv A (o + i)))] [.int (lo8 (cv A (o + i))), .int (Int32.ofNat (q + i)), .ref d])) rfl (rest := []) rfl (hb hbytes d31)
      have c8 : Steps p.tables e below (s₁.setTop (entryFrame m #[.ref b, .int (Int32.ofNat o), .ref d, .int (Int32.ofNat q), .int (Int32.ofNat len)] 7)) (T7.setTop (mkF m 32 #[.val (.ref b), .val (.int (Int32.ofNat (o + i))), .val (.ref d), .val (.int (Int32.ofNat (q + i))), .val (.int (Int32.ofNat len)), .val (.int (Int32.ofNat i)), .val (.int (cv A (o + i)))] [])) := c6.trans (st7 _ (Steps.refl _))
      have c9 : Steps p.tables e below (s₁.setTop (entryFrame m #[.ref b, .int (Int32.ofNat o), .ref d, .int (Int32.ofNat q), .int (Int32.ofNat len)] 7)) (T7.setTop (mkF m 3 #[.val (.ref b), .val (.int (Int32.ofNat (o + i) + 1)), .val (.ref d), .val (.int (Int32.ofNat (q + i) + 1)), .val (.int (Int32.ofNat len)), .val (.int (Int32.ofNat i + 1)), .val (.int (cv A (o + i)))] [])) := c8.trans (by
        refine iincV X7.here hexec rfl 1 (hb hbytes d32) (by decide) rfl rfl ?_
        refine iincV X7.here hexec rfl 1 (hb hbytes d35) (by decide) rfl rfl ?_
        refine iincV X7.here hexec rfl 1 (hb hbytes d38) (by decide) rfl rfl ?_
        refine XS.goto X7.here hexec rfl (pc0 := 41) rfl (hb hbytes d41) (by decide) rfl ?_
        exact Steps.refl _)
      have c10 : Steps p.tables e below (s₁.setTop (entryFrame m #[.ref b, .int (Int32.ofNat o), .ref d, .int (Int32.ofNat q), .int (Int32.ofNat len)] 7)) (T7.setTop (mkF m 3 #[.val (.ref b), .val (.int (Int32.ofNat (o + (i + 1)))), .val (.ref d), .val (.int (Int32.ofNat (q + (i + 1)))), .val (.int (Int32.ofNat len)), .val (.int (Int32.ofNat (i + 1))), .val (.int (cv A (o + i)))] [])) := by
        have := c9
        rw [succ32, succ32, succ32] at this
        exact this
      exact ih (i + 1) (by omega) _ (Or.inr ⟨_, rfl, rfl⟩) T7 _ (by rw [copyLocs_step, ← List.append_assoc]; exact X7) (pl.trans p7) (fl.step (by omega) hlt (by simp)) c10
  obtain ⟨T9, B9, z9, X9, p9, f9, g9⟩ := loop len 0 (by omega) .unset (Or.inl rfl) s₁ B (by simpa [copyLocs] using X0) ⟨hB0.1, fun _ _ => rfl, rfl⟩ (Laid.zero _ _ _) c2
  have c11 : Steps p.tables e below (s₁.setTop (entryFrame m #[.ref b, .int (Int32.ofNat o), .ref d, .int (Int32.ofNat q), .int (Int32.ofNat len)] 7)) (T9.setTop (mkF m 46 #[.val (.ref b), .val (.int (Int32.ofNat (o + len))), .val (.ref d), .val (.int (Int32.ofNat (q + len))), .val (.int (Int32.ofNat len)), .val (.int (Int32.ofNat len)), z9] [.int (Int32.ofNat len)])) := g9.trans (by
    refine XS.iload X9.here hexec rfl (hb hbytes d3) rfl ?_
    refine XS.iload X9.here hexec rfl (hb hbytes d5) rfl ?_
    refine XS.icmpYes X9.here hexec rfl (pc0 := 7) rfl (hb hbytes d7) rfl (ii_ge_t (nlt32 (by omega) (Nat.le_refl _))) (by decide) rfl ?_
    refine XS.iload X9.here hexec rfl (hb hbytes d44) rfl ?_
    exact Steps.refl _)
  exact ⟨T9, some (.int (Int32.ofNat len)), _, _, _, X9, by simp, rfl, rfl, (fun h => by cases h), ⟨rfl, B9, p9.from hh0, f9⟩, fun fs hl => c11.trans (X9.ireturnOut hexec hret rfl (Or.inl rfl) (hb hbytes d46) hl)⟩
end Cmp5
namespace Cmp3
def yN : MethodName := ⟨"java/lang/StringUTF16", "compress", "([CII)[B"⟩
abbrev yB : ByteArray := jdk_52_method_16_code
theorem d0 : decode yB 0 = .ok (.iload_n 2, 1) := by decide +kernel
theorem d1 : decode yB 1 = .ok (.newarray .byte, 2) := by decide +kernel
theorem d3 : decode yB 3 = .ok (.astore_n 3, 1) := by decide +kernel
theorem d4 : decode yB 4 = .ok (.aload_n 0, 1) := by decide +kernel
theorem d5 : decode yB 5 = .ok (.iload_n 1, 1) := by decide +kernel
theorem d6 : decode yB 6 = .ok (.aload_n 3, 1) := by decide +kernel
theorem d7 : decode yB 7 = .ok (.iconst 0, 1) := by decide +kernel
theorem d8 : decode yB 8 = .ok (.iload_n 2, 1) := by decide +kernel
theorem d9 : decode yB 9 = .ok (.invokestatic 115, 3) := by decide +kernel
theorem d12 : decode yB 12 = .ok (.istore 4, 2) := by decide +kernel
theorem d14 : decode yB 14 = .ok (.iload 4, 2) := by decide +kernel
theorem d16 : decode yB 16 = .ok (.iload_n 2, 1) := by decide +kernel
theorem d17 : decode yB 17 = .ok (.if_icmp (.eq) 40, 3) := by decide +kernel
theorem d57 : decode yB 57 = .ok (.aload_n 3, 1) := by decide +kernel
theorem d58 : decode yB 58 = .ok (.areturn, 1) := by decide +kernel
def site : List Cond := [.arrayClass .byte, Cmp5.tab] ++ staticW U16 115 Cmp5.yN
def tab : Cond := tabOf yN yB 6 (some (.array .byte)) site
def P (b : Addr) (A : Cell) (o len : Nat) (args : Array Value) (s : State) : Prop := args = #[.ref b, .int (Int32.ofNat o), .int (Int32.ofNat len)] ∧ Ch b A s ∧ o + len ≤ A.slots.size ∧ len ≤ 536870912 ∧ ∀ i, i < len → ¬ 255 < cv A (o + i)
def E (b : Addr) (A : Cell) (o len : Nat) (r : Option Value) (s u : State) : Prop := NewArr .byte "[B" len (fun j => .int (lo8 (cv A (o + j)))) r s u ∧ u.heap.size = s.heap.size + 1
/-- no char of the range above 255: a new byte[] of their low bytes -/
theorem law (l : Launch) (b : Addr) (A : Cell) (o len : Nat) : Law l yN 3 3 1 18 yB 6 (some (.array .byte)) site (P b A o len) (E b A o len) [] 1 len := by
  refine Law.of_walk (plainFor_of_name (by decide +kernel)) (by decide +kernel) (by decide +kernel) (by decide) (fun _ _ h => by rw [h.1]; rfl) (fun _ U U' hal hh h => ⟨h.1, h.2.1.mv hal hh, h.2.2⟩) (fun r U U' V V' h1 hal h2 h => ⟨NewArr.mv r U U' V V' h1 hal h2 h.1, by rw [h1, h2]; exact h.2⟩) ?_
  intro p e s m args below meth c s₁ X0 hexec hbytes hml hret hlk hnm hown hh0 W hP
  obtain ⟨rfl, hA, l1, l2, hp⟩ := hP
  have a31 := hA.1.2.2.2
  have c1 : Steps p.tables e below (s₁.setTop (entryFrame m #[.ref b, .int (Int32.ofNat o), .int (Int32.ofNat len)] 6)) (s₁.setTop (mkF m 0 #[.val (.ref b), .val (.int (Int32.ofNat o)), .val (.int (Int32.ofNat len)), .unset, .unset, .unset] [])) := entry rfl
  have c2 : Steps p.tables e below (s₁.setTop (entryFrame m #[.ref b, .int (Int32.ofNat o), .int (Int32.ofNat len)] 6)) (s₁.setTop (mkF m 1 #[.val (.ref b), .val (.int (Int32.ofNat o)), .val (.int (Int32.ofNat len)), .unset, .unset, .unset] [.int (Int32.ofNat len)])) := c1.trans (by
    refine XS.iloadN X0.here hexec rfl (hb hbytes d0) rfl ?_
    exact Steps.refl _)
  obtain ⟨T3, B3, X3, ba3, bs3, bv3, bh3, bf3, st3⟩ := X0.anew hexec (atype := .byte) (wk W (.arrayClass .byte)) rfl (by show len * 1 ≤ _; omega) (by omega) (g := (mkF m 1 #[.val (.ref b), .val (.int (Int32.ofNat o)), .val (.int (Int32.ofNat len)), .unset, .unset, .unset] [.int (Int32.ofNat len)])) rfl (hb hbytes d1) (rest := []) rfl (Nat.le_refl _) (by show 0 + len ≤ len; omega)
  rw [hh0] at ba3 st3
  have kp3 : XT.Kept s T3 := (XT.Kept.of_eq hh0).push bh3
  have hA3 := hA.keep X3.warmed.alike (kp3 _ _ hA.1.1)
  have hne : b ≠ s.heap.size := hA.1.ne
  have c4 : Steps p.tables e below (s₁.setTop (entryFrame m #[.ref b, .int (Int32.ofNat o), .int (Int32.ofNat len)] 6)) (T3.setTop (mkF m 3 #[.val (.ref b), .val (.int (Int32.ofNat o)), .val (.int (Int32.ofNat len)), .unset, .unset, .unset] [.ref s.heap.size])) := c2.trans (st3 _ (Steps.refl _))
  have c5 : Steps p.tables e below (s₁.setTop (entryFrame m #[.ref b, .int (Int32.ofNat o), .int (Int32.ofNat len)] 6)) (T3.setTop (mkF m 9 #[.val (.ref b), .val (.int (Int32.ofNat o)), .val (.int (Int32.ofNat len)), .val (.ref s.heap.size), .unset, .unset] [.int (Int32.ofNat len), .int 0, .ref s.heap.size, .int (Int32.ofNat o), .ref b])) := c4.trans (by
    refine XS.astoreN X3.here hexec rfl (hb hbytes d3) rfl rfl rfl ?_
    refine XS.aloadN X3.here hexec rfl (hb hbytes d4) rfl rfl ?_
    refine XS.iloadN X3.here hexec rfl (hb hbytes d5) rfl ?_
    refine XS.aloadN X3.here hexec rfl (hb hbytes d6) rfl rfl ?_
    refine iconstV X3.here hexec rfl 0 (hb hbytes d7) (by decide) ?_
    refine XS.iloadN X3.here hexec rfl (hb hbytes d8) rfl ?_
    exact Steps.refl _)
  obtain ⟨v6, T6, X6, E6, g6⟩ := X3.callS hexec (Cmp5.law l b A s.heap.size B3 o 0 len) hown (wks W (staticW U16 115 Cmp5.yN)) (wk W Cmp5.tab) (W := 0) (Nat.le_of_ble_eq_true rfl) (Nat.le_of_ble_eq_true rfl) (Nat.le_refl _) (by show 0 + len + 0 ≤ len; omega) (g := (mkF m 9 #[.val (.ref b), .val (.int (Int32.ofNat o)), .val (.int (Int32.ofNat len)), .val (.ref s.heap.size), .unset, .unset] [.int (Int32.ofNat len), .int (Int32.ofNat 0), .ref s.heap.size, .int (Int32.ofNat o), .ref b])) rfl (by rw [hml]; rfl) c5 (argsL := [.ref b, .int (Int32.ofNat o), .ref s.heap.size, .int (Int32.ofNat 0), .int (Int32.ofNat len)]) (rest := []) rfl rfl (by show 2 * 0 + 0 ≤ _; decide) (hb hbytes d9) (⟨rfl, hA3, ba3, hne, l1, by rw [bs3]; simp, hp⟩)
  obtain ⟨rfl, B6, p6, f6⟩ := E6
  have c7 : Steps p.tables e below (s₁.setTop (entryFrame m #[.ref b, .int (Int32.ofNat o), .int (Int32.ofNat len)] 6)) (T6.setTop (mkF m 12 #[.val (.ref b), .val (.int (Int32.ofNat o)), .val (.int (Int32.ofNat len)), .val (.ref s.heap.size), .unset, .unset] [.int (Int32.ofNat len)])) := g6
  have c8 : Steps p.tables e below (s₁.setTop (entryFrame m #[.ref b, .int (Int32.ofNat o), .int (Int32.ofNat len)] 6)) (T6.setTop (mkF m 58 #[.val (.ref b), .val (.int (Int32.ofNat o)), .val (.int (Int32.ofNat len)), .val (.ref s.heap.size), .val (.int (Int32.ofNat len)), .unset] [.ref s.heap.size])) := c7.trans (by
    refine XS.istore X6.here hexec rfl (hb hbytes d12) rfl rfl ?_
    refine XS.iload X6.here hexec rfl (hb hbytes d14) rfl ?_
    refine XS.iloadN X6.here hexec rfl (hb hbytes d16) rfl ?_
    refine XS.icmpYes X6.here hexec rfl (pc0 := 17) rfl (hb hbytes d17) rfl (ii_eq_t rfl) (by decide) rfl ?_
    refine XS.aloadN X6.here hexec rfl (hb hbytes d57) rfl rfl ?_
    exact Steps.refl _)
  have X8 := X6.wide (L' := []) (cells' := 1) (slots' := len) (fun x hx hlt => by
    simp only [List.nil_append, copyLocs, List.mem_map, List.mem_range] at hx
    obtain ⟨i, -, rfl⟩ := hx
    exact absurd hlt (Nat.lt_irrefl _)) (Nat.le_refl _) (by omega)
  exact ⟨T6, some (.ref s.heap.size), _, _, _, X8, rfl, rfl, rfl, (fun h => by cases h), ⟨⟨rfl, B6, ba3.like (X3.warmed.alike.symm.trans X6.warmed.alike) p6.1 f6.1 f6.2.1 f6.2.2.1, f6.2.1.trans bv3, by rw [X6.warmed.alike.findClass, f6.1]; exact bf3, by rw [f6.2.2.1, bs3]; simp, fun j hj => by rw [f6.2.2.2 j, if_pos (by omega)]; rfl, kp3.put p6 (Nat.le_refl _)⟩, by rw [p6.2.2, bh3, hh0]; simp⟩, fun fs hl => c8.trans (X8.areturnOut hexec rfl hret rfl (hb hbytes d58) hl)⟩
end Cmp3
namespace CodL
def yN : MethodName := ⟨"java/lang/StringUTF16", "coderFromArrayLen", "([BI)B"⟩
abbrev yB : ByteArray := jdk_52_method_15_code
theorem d0 : decode yB 0 = .ok (.iload_n 1, 1) := by decide +kernel
theorem d1 : decode yB 1 = .ok (.aload_n 0, 1) := by decide +kernel
theorem d2 : decode yB 2 = .ok (.arraylength, 1) := by decide +kernel
theorem d3 : decode yB 3 = .ok (.isub, 1) := by decide +kernel
theorem d4 : decode yB 4 = .ok (.bipush 31, 2) := by decide +kernel
theorem d6 : decode yB 6 = .ok (.iushr, 1) := by decide +kernel
theorem d7 : decode yB 7 = .ok (.i2b, 1) := by decide +kernel
theorem d8 : decode yB 8 = .ok (.ireturn, 1) := by decide +kernel
def site : List Cond := []
def tab : Cond := tabOf yN yB 2 (some .byte) site
def P (d : Addr) (B : Cell) (args : Array Value) (s : State) : Prop := args = #[.ref d, .int (Int32.ofNat B.slots.size)] ∧ Arr .byte d B s
def E (r : Option Value) (s u : State) : Prop := XT.PureE (some (.int 0)) r s u
/-- an array as long as the number of chars: LATIN1 -/
theorem law (l : Launch) (d : Addr) (B : Cell) : Law l yN 2 2 0 0 yB 2 (some .byte) site (P d B) E [] 0 0 := by
  refine Law.of_walk (plainFor_of_name (by decide +kernel)) (by decide +kernel) (by decide +kernel) (by decide) (fun _ _ h => by rw [h.1]; rfl) (fun _ U U' hal hh h => ⟨h.1, h.2.mv hal hh⟩) (fun r U U' V V' h1 hal h2 h => XT.PureE.mv r U U' V V' h1 hal h2 h) ?_
  intro p e s m args below meth c s₁ X0 hexec hbytes hml hret hlk hnm hown hh0 W hP
  obtain ⟨rfl, hB⟩ := hP
  have hB0 := hB.mv X0.warmed.alike hh0
  have c1 : Steps p.tables e below (s₁.setTop (entryFrame m #[.ref d, .int (Int32.ofNat B.slots.size)] 2)) (s₁.setTop (mkF m 0 #[.val (.ref d), .val (.int (Int32.ofNat B.slots.size))] [])) := entry rfl
  have c2 : Steps p.tables e below (s₁.setTop (entryFrame m #[.ref d, .int (Int32.ofNat B.slots.size)] 2)) (s₁.setTop (mkF m 2 #[.val (.ref d), .val (.int (Int32.ofNat B.slots.size))] [.ref d, .int (Int32.ofNat B.slots.size)])) := c1.trans (by
    refine XS.iloadN X0.here hexec rfl (hb hbytes d0) rfl ?_
    refine XS.aloadN X0.here hexec rfl (hb hbytes d1) rfl rfl ?_
    exact Steps.refl _)
  have c3 : Steps p.tables e below (s₁.setTop (entryFrame m #[.ref d, .int (Int32.ofNat B.slots.size)] 2)) (s₁.setTop (mkF m 8 #[.val (.ref d), .val (.int (Int32.ofNat B.slots.size))] [.int (lo8 (ushr (Int32.ofNat B.slots.size - Int32.ofNat B.slots.size) 31))])) := c2.trans (by
    refine X0.alen hexec hB0 rfl rfl (hb hbytes d2) ?_
    refine XS.isub X0.here hexec rfl (hb hbytes d3) rfl ?_
    refine bipushV X0.here hexec rfl 31 (hb hbytes d4) (by decide) ?_
    refine iushr X0.here hexec rfl (hb hbytes d6) rfl ?_
    refine i2b X0.here hexec rfl (hb hbytes d7) rfl ?_
    exact Steps.refl _)
  have e0 : lo8 (ushr (Int32.ofNat B.slots.size - Int32.ofNat B.slots.size) 31) = 0 := by rw [Int32.sub_self]; decide
  rw [e0] at c3
  exact ⟨s₁, some (.int 0), _, _, _, X0, rfl, rfl, rfl, (fun h => by cases h), ⟨rfl, hh0⟩, fun fs hl => c3.trans (X0.ireturnOut hexec hret rfl (Or.inr (Or.inr (Or.inl rfl))) (hb hbytes d8) hl)⟩
end CodL
/-- the String at a is Latin-1 over a new byte[] (the heap's one new cell): the low bytes of the len chars of A from o on; every cell but a is kept -/
def Got (a : Addr) (D : Cell) (fV fC : Field) (A : Cell) (o len : Nat) (r : Option Value) (s u : State) : Prop := r = none ∧ ∃ D' V : Cell, Blank "java/lang/String" a D' u ∧ Same D D' [fV.slot, fC.slot] ∧ D'.slots[fV.slot]? = some (.ref s.heap.size) ∧ D'.slots[fC.slot]? = some (.int 0) ∧ Arr .byte s.heap.size V u ∧ V.vm = .none ∧ u.vm.findClass "[B" = some V.cls ∧ V.slots.size = len ∧ (∀ j, j < len → V.slots[j]? = some (.int (lo8 (cv A (o + j))))) ∧ (∀ (y : Addr) (c : Cell), y ≠ a → s.heap[y]? = some c → u.heap[y]? = some c) ∧ u.heap.size = s.heap.size + 1
theorem Got.mv {a : Addr} {D A : Cell} {fV fC : Field} {o len : Nat} : ∀ r (U U' V V' : State), U'.heap = U.heap → V.vm.Alike V'.vm → V'.heap = V.heap → Got a D fV fC A o len r U V → Got a D fV fC A o len r U' V' :=
  fun r U U' V V' h1 hal h2 ⟨e0, D', X, a1, a2, a3, a4, a5, a6, a7, a8, a9, a10, a11⟩ => ⟨e0, D', X, a1.mv hal h2, a2, by rw [h1]; exact a3, a4, by rw [h1]; exact a5.mv hal h2, a6, by rw [hal.findClass]; exact a7, a8, a9, by rw [h1, h2]; exact a10, by rw [h1, h2]; exact a11⟩
namespace New4
def yN : MethodName := ⟨"java/lang/String", "<init>", "([CIILjava/lang/Void;)V"⟩
abbrev yB : ByteArray := jdk_42_method_149_code
theorem d0 : decode yB 0 = .ok (.aload_n 0, 1) := by decide +kernel
theorem d1 : decode yB 1 = .ok (.invokespecial 1, 3) := by decide +kernel
theorem d4 : decode yB 4 = .ok (.iload_n 3, 1) := by decide +kernel
theorem d5 : decode yB 5 = .ok (.ifCond (.ne) 22, 3) := by decide +kernel
theorem d27 : decode yB 27 = .ok (.getstatic 38, 3) := by decide +kernel
theorem d30 : decode yB 30 = .ok (.ifCond (.eq) 28, 3) := by decide +kernel
theorem d33 : decode yB 33 = .ok (.aload_n 1, 1) := by decide +kernel
theorem d34 : decode yB 34 = .ok (.iload_n 2, 1) := by decide +kernel
theorem d35 : decode yB 35 = .ok (.iload_n 3, 1) := by decide +kernel
theorem d36 : decode yB 36 = .ok (.invokestatic 177, 3) := by decide +kernel
theorem d39 : decode yB 39 = .ok (.astore 5, 2) := by decide +kernel
theorem d41 : decode yB 41 = .ok (.aload_n 0, 1) := by decide +kernel
theorem d42 : decode yB 42 = .ok (.aload 5, 2) := by decide +kernel
theorem d44 : decode yB 44 = .ok (.iload_n 3, 1) := by decide +kernel
theorem d45 : decode yB 45 = .ok (.invokestatic 47, 3) := by decide +kernel
theorem d48 : decode yB 48 = .ok (.putfield 15, 3) := by decide +kernel
theorem d51 : decode yB 51 = .ok (.aload_n 0, 1) := by decide +kernel
theorem d52 : decode yB 52 = .ok (.aload 5, 2) := by decide +kernel
theorem d54 : decode yB 54 = .ok (.putfield 9, 3) := by decide +kernel
theorem d57 : decode yB 57 = .ok (.return_, 1) := by decide +kernel
def site : List Cond := [.fieldLink "java/lang/String" 38 "java/lang/String" "COMPACT_STRINGS" "Z", Cmp3.tab, CodL.tab, .laysFinal "java/lang/String" "java/lang/String" "value" "[B", .fieldLink "java/lang/String" 9 "java/lang/String" "value" "[B", .laysFinal "java/lang/String" "java/lang/String" "coder" "B", .fieldLink "java/lang/String" 15 "java/lang/String" "coder" "B"] ++ objW "java/lang/String" 1 ++ staticW "java/lang/String" 177 Cmp3.yN ++ staticW "java/lang/String" 47 CodL.yN
def tab : Cond := tabOf yN yB 6 none site
def P (a : Addr) (D : Cell) (fV fC : Field) (b : Addr) (A : Cell) (z : Int32) (o len : Nat) (args : Array Value) (s : State) : Prop := args = #[.ref a, .ref b, .int (Int32.ofNat o), .int (Int32.ofNat len), .null] ∧ Blank "java/lang/String" a D s ∧ Found "java/lang/String" "value" "[B" fV s ∧ Found "java/lang/String" "coder" "B" fC s ∧ Ch b A s ∧ StaticIs s "java/lang/String" "COMPACT_STRINGS" "Z" (.int z) ∧ ¬ z = 0 ∧ 0 < len ∧ o + len ≤ A.slots.size ∧ len ≤ 536870912 ∧ ∀ i, i < len → ¬ 255 < cv A (o + i)
def E (a : Addr) (D : Cell) (fV fC : Field) (A : Cell) (o len : Nat) (r : Option Value) (s u : State) : Prop := Got a D fV fC A o len r s u
/-- len > 0, no char of the range above 255: a Latin-1 String of their low bytes -/
theorem law (l : Launch) (a : Addr) (D : Cell) (fV fC : Field) (b : Addr) (A : Cell) (z : Int32) (o len : Nat) : Law l yN 5 4 2 35 yB 6 none site (P a D fV fC b A z o len) (E a D fV fC A o len) [⟨a, fC.slot⟩, ⟨a, fV.slot⟩] 1 len := by
  refine Law.of_walk (plainFor_of_name (by decide +kernel)) (by decide +kernel) (by decide +kernel) (by decide) (fun _ _ h => by rw [h.1]; rfl) (fun _ U U' hal hh h => ⟨h.1, h.2.1.mv hal hh, h.2.2.1.al hal, h.2.2.2.1.al hal, h.2.2.2.2.1.mv hal hh, h.2.2.2.2.2.1.there hal hh, h.2.2.2.2.2.2⟩) (fun r U U' V V' h1 hal h2 h => Got.mv r U U' V V' h1 hal h2 h) ?_
  intro p e s m args below meth c s₁ X0 hexec hbytes hml hret hlk hnm hown hh0 W hP
  obtain ⟨rfl, hB, f1, f2, hA, s1, hz, l0, l1, l2, hp⟩ := hP
  have a31 := hA.1.2.2.2
  have c1 : Steps p.tables e below (s₁.setTop (entryFrame m #[.ref a, .ref b, .int (Int32.ofNat o), .int (Int32.ofNat len), .null] 6)) (s₁.setTop (mkF m 0 #[.val (.ref a), .val (.ref b), .val (.int (Int32.ofNat o)), .val (.int (Int32.ofNat len)), .val .null, .unset] [])) := entry rfl
  have c2 : Steps p.tables e below (s₁.setTop (entryFrame m #[.ref a, .ref b, .int (Int32.ofNat o), .int (Int32.ofNat len), .null] 6)) (s₁.setTop (mkF m 1 #[.val (.ref a), .val (.ref b), .val (.int (Int32.ofNat o)), .val (.int (Int32.ofNat len)), .val .null, .unset] [.ref a])) := c1.trans (by
    refine XS.aloadN X0.here hexec rfl (hb hbytes d0) rfl rfl ?_
    exact Steps.refl _)
  obtain ⟨T3, X3, q3, st3⟩ := X0.oinit hexec hown (wks W (objW "java/lang/String" 1)) (g := (mkF m 1 #[.val (.ref a), .val (.ref b), .val (.int (Int32.ofNat o)), .val (.int (Int32.ofNat len)), .val .null, .unset] [.ref a])) rfl (by rw [hml]; rfl) (rest := []) rfl (hb hbytes d1) (W := 0) (by show 2 * 0 + 0 ≤ _; decide) (Nat.le_of_ble_eq_true rfl) (Nat.le_of_ble_eq_true rfl)
  have hh3 := q3.trans hh0
  have c4 : Steps p.tables e below (s₁.setTop (entryFrame m #[.ref a, .ref b, .int (Int32.ofNat o), .int (Int32.ofNat len), .null] 6)) (T3.setTop (mkF m 27 #[.val (.ref a), .val (.ref b), .val (.int (Int32.ofNat o)), .val (.int (Int32.ofNat len)), .val .null, .unset] [])) := (c2.trans (st3 _ (Steps.refl _))).trans (by
    refine XS.iloadN X3.here hexec rfl (hb hbytes d4) rfl ?_
    refine XS.ifYes X3.here hexec rfl (pc0 := 5) rfl (hb hbytes d5) rfl (i0_ne_t (nz32 (by omega) l0)) (by decide) rfl ?_
    exact Steps.refl _)
  obtain ⟨T5, X5, q5, st5⟩ := X3.sget hexec hown (wk W (.fieldLink "java/lang/String" 38 "java/lang/String" "COMPACT_STRINGS" "Z")) s1 (fun _ _ h => by rw [hh3]; exact h) (g := (mkF m 27 #[.val (.ref a), .val (.ref b), .val (.int (Int32.ofNat o)), .val (.int (Int32.ofNat len)), .val .null, .unset] [])) rfl (hb hbytes d27)
  have hh5 := q5.trans hh3
  have c6 : Steps p.tables e below (s₁.setTop (entryFrame m #[.ref a, .ref b, .int (Int32.ofNat o), .int (Int32.ofNat len), .null] 6)) (T5.setTop (mkF m 30 #[.val (.ref a), .val (.ref b), .val (.int (Int32.ofNat o)), .val (.int (Int32.ofNat len)), .val .null, .unset] [.int z])) := c4.trans (st5 _ (Steps.refl _))
  have c7 : Steps p.tables e below (s₁.setTop (entryFrame m #[.ref a, .ref b, .int (Int32.ofNat o), .int (Int32.ofNat len), .null] 6)) (T5.setTop (mkF m 36 #[.val (.ref a), .val (.ref b), .val (.int (Int32.ofNat o)), .val (.int (Int32.ofNat len)), .val .null, .unset] [.int (Int32.ofNat len), .int (Int32.ofNat o), .ref b])) := c6.trans (by
    refine XS.ifNo X5.here hexec rfl (hb hbytes d30) rfl (i0_eq_f hz) ?_
    refine XS.aloadN X5.here hexec rfl (hb hbytes d33) rfl rfl ?_
    refine XS.iloadN X5.here hexec rfl (hb hbytes d34) rfl ?_
    refine XS.iloadN X5.here hexec rfl (hb hbytes d35) rfl ?_
    exact Steps.refl _)
  obtain ⟨v8, T8, X8, E8, g8⟩ := X5.callS hexec (Cmp3.law l b A o len) hown (wks W (staticW "java/lang/String" 177 Cmp3.yN)) (wk W Cmp3.tab) (W := 0) (Nat.le_of_ble_eq_true rfl) (Nat.le_of_ble_eq_true rfl) (Nat.le_refl _) (by show 0 + len ≤ len; omega) (g := (mkF m 36 #[.val (.ref a), .val (.ref b), .val (.int (Int32.ofNat o)), .val (.int (Int32.ofNat len)), .val .null, .unset] [.int (Int32.ofNat len), .int (Int32.ofNat o), .ref b])) rfl (by rw [hml]; rfl) c7 (argsL := [.ref b, .int (Int32.ofNat o), .int (Int32.ofNat len)]) (rest := []) rfl rfl (by show 2 * 0 + 0 ≤ _; decide) (hb hbytes d36) (⟨rfl, hA.mv X5.warmed.alike hh5, l1, l2, hp⟩)
  obtain ⟨e8, z8⟩ := E8
  obtain ⟨rfl, N, n1, n2, n3, n4, n5, n6⟩ := NewArr.mv _ T5 s _ _ hh5.symm (Vm.Alike.refl _) rfl e8
  rw [hh5] at z8
  have hB1 := hB.keep X8.warmed.alike (n6 _ _ hB.1)
  have hne : s.heap.size ≠ a := (Nat.ne_of_lt (Array.getElem?_eq_some_iff.mp hB.1).1).symm
  have c9 : Steps p.tables e below (s₁.setTop (entryFrame m #[.ref a, .ref b, .int (Int32.ofNat o), .int (Int32.ofNat len), .null] 6)) (T8.setTop (mkF m 39 #[.val (.ref a), .val (.ref b), .val (.int (Int32.ofNat o)), .val (.int (Int32.ofNat len)), .val .null, .unset] [.ref s.heap.size])) := g8
  have c10 : Steps p.tables e below (s₁.setTop (entryFrame m #[.ref a, .ref b, .int (Int32.ofNat o), .int (Int32.ofNat len), .null] 6)) (T8.setTop (mkF m 45 #[.val (.ref a), .val (.ref b), .val (.int (Int32.ofNat o)), .val (.int (Int32.ofNat len)), .val .null, .val (.ref s.heap.size)] [.int (Int32.ofNat N.slots.size), .ref s.heap.size, .ref a])) := by
    have hc : Steps p.tables e below (s₁.setTop (entryFrame m #[.ref a, .ref b, .int (Int32.ofNat o), .int (Int32.ofNat len), .null] 6)) (T8.setTop (mkF m 45 #[.val (.ref a), .val (.ref b), .val (.int (Int32.ofNat o)), .val (.int (Int32.ofNat len)), .val .null, .val (.ref s.heap.size)] [.int (Int32.ofNat len), .ref s.heap.size, .ref a])) := c9.trans (by
      refine XS.astore X8.here hexec rfl (hb hbytes d39) rfl rfl rfl ?_
      refine XS.aloadN X8.here hexec rfl (hb hbytes d41) rfl rfl ?_
      refine XS.aload X8.here hexec rfl (hb hbytes d42) rfl rfl ?_
      refine XS.iloadN X8.here hexec rfl (hb hbytes d44) rfl ?_
      exact Steps.refl _)
    rw [n4]; exact hc
  obtain ⟨v11, T11, X11, E11, g11⟩ := X8.callS hexec (CodL.law l s.heap.size N) hown (wks W (staticW "java/lang/String" 47 CodL.yN)) (wk W CodL.tab) (W := 1) (Nat.le_of_ble_eq_true rfl) (Nat.le_of_ble_eq_true rfl) (Nat.le_refl _) (by show 0 + len + 0 ≤ len; omega) (g := (mkF m 45 #[.val (.ref a), .val (.ref b), .val (.int (Int32.ofNat o)), .val (.int (Int32.ofNat len)), .val .null, .val (.ref s.heap.size)] [.int (Int32.ofNat N.slots.size), .ref s.heap.size, .ref a])) rfl (by rw [hml]; rfl) c10 (argsL := [.ref s.heap.size, .int (Int32.ofNat N.slots.size)]) (rest := [.ref a]) rfl rfl (by show 2 * 0 + (1 + 0) ≤ _; decide) (hb hbytes d45) (⟨rfl, n1⟩)
  obtain ⟨rfl, q11⟩ := E11
  have hB11 := hB1.mv (X8.warmed.alike.symm.trans X11.warmed.alike) q11
  have c12 : Steps p.tables e below (s₁.setTop (entryFrame m #[.ref a, .ref b, .int (Int32.ofNat o), .int (Int32.ofNat len), .null] 6)) (T11.setTop (mkF m 48 #[.val (.ref a), .val (.ref b), .val (.int (Int32.ofNat o)), .val (.int (Int32.ofNat len)), .val .null, .val (.ref s.heap.size)] [.int 0, .ref a])) := g11
  obtain ⟨T13, X13, p13, bl13, sl13, st13⟩ := X11.finit hexec hown (wk W (.fieldLink "java/lang/String" 15 "java/lang/String" "coder" "B")) (Or.inr ⟨_, (wk W (.laysFinal "java/lang/String" "java/lang/String" "coder" "B"))⟩) (Or.inl ⟨rfl, hnm⟩) f2 (Or.inl rfl) hB11 (t := .byte) (by decide +kernel) rfl (g := (mkF m 48 #[.val (.ref a), .val (.ref b), .val (.int (Int32.ofNat o)), .val (.int (Int32.ofNat len)), .val .null, .val (.ref s.heap.size)] [.int 0, .ref a])) rfl (rest := []) rfl (hb hbytes d48)
  have c14 : Steps p.tables e below (s₁.setTop (entryFrame m #[.ref a, .ref b, .int (Int32.ofNat o), .int (Int32.ofNat len), .null] 6)) (T13.setTop (mkF m 54 #[.val (.ref a), .val (.ref b), .val (.int (Int32.ofNat o)), .val (.int (Int32.ofNat len)), .val .null, .val (.ref s.heap.size)] [.ref s.heap.size, .ref a])) := (c12.trans (st13 _ (Steps.refl _))).trans (by
    refine XS.aloadN X13.here hexec rfl (hb hbytes d51) rfl rfl ?_
    refine XS.aload X13.here hexec rfl (hb hbytes d52) rfl rfl ?_
    exact Steps.refl _)
  obtain ⟨T15, X15, p15, bl15, sl15, st15⟩ := X13.finit hexec hown (wk W (.fieldLink "java/lang/String" 9 "java/lang/String" "value" "[B")) (Or.inr ⟨_, (wk W (.laysFinal "java/lang/String" "java/lang/String" "value" "[B"))⟩) (Or.inl ⟨rfl, hnm⟩) f1 (Or.inl rfl) bl13 (t := (.array .byte)) (by decide +kernel) rfl (g := (mkF m 54 #[.val (.ref a), .val (.ref b), .val (.int (Int32.ofNat o)), .val (.int (Int32.ofNat len)), .val .null, .val (.ref s.heap.size)] [.ref s.heap.size, .ref a])) rfl (rest := []) rfl (hb hbytes d54)
  have c16 : Steps p.tables e below (s₁.setTop (entryFrame m #[.ref a, .ref b, .int (Int32.ofNat o), .int (Int32.ofNat len), .null] 6)) (T15.setTop (mkF m 57 #[.val (.ref a), .val (.ref b), .val (.int (Int32.ofNat o)), .val (.int (Int32.ofNat len)), .val .null, .val (.ref s.heap.size)] [])) := c14.trans (st15 _ (Steps.refl _))
  have ap := apart (Or.inr ⟨_, (wk W (.laysFinal "java/lang/String" "java/lang/String" "value" "[B"))⟩) (Or.inr ⟨_, (wk W (.laysFinal "java/lang/String" "java/lang/String" "coder" "B"))⟩) f1 f2 (t₁ := .array .byte) (t₂ := .byte) (by decide +kernel) (by decide +kernel) (by decide)
  have al := X8.warmed.alike.symm.trans X15.warmed.alike
  have n7 : T11.heap[s.heap.size]? = some N := by rw [q11]; exact n1.1
  exact ⟨T15, none, _, _, _, X15, by simp, rfl, by omega, (fun _ => rfl), ⟨rfl, _, N, bl15, ((Same.refl D _).set _ (by simp)).set _ (by simp), sl15, (Cell.slots_setSlot_ne _ ap).trans sl13, n1.keep al (p15.other hne (p13.other hne n7)), n2, by rw [al.findClass]; exact n3, n4, n5, fun y c h1 h2 => p15.other h1 (p13.other h1 (by rw [q11]; exact n6 y c h2)), by rw [p15.2.2, p13.2.2, q11]; exact z8⟩, fun fs hl => c16.trans (X15.returnOut hexec hret (hb hbytes d57) hl)⟩
end New4
namespace New1
def yN : MethodName := ⟨"java/lang/String", "<init>", "([C)V"⟩
abbrev yB : ByteArray := jdk_42_method_3_code
theorem d0 : decode yB 0 = .ok (.aload_n 0, 1) := by decide +kernel
theorem d1 : decode yB 1 = .ok (.aload_n 1, 1) := by decide +kernel
theorem d2 : decode yB 2 = .ok (.iconst 0, 1) := by decide +kernel
theorem d3 : decode yB 3 = .ok (.aload_n 1, 1) := by decide +kernel
theorem d4 : decode yB 4 = .ok (.arraylength, 1) := by decide +kernel
theorem d5 : decode yB 5 = .ok (.aconst_null, 1) := by decide +kernel
theorem d6 : decode yB 6 = .ok (.invokespecial 27, 3) := by decide +kernel
theorem d9 : decode yB 9 = .ok (.return_, 1) := by decide +kernel
def site : List Cond := [New4.tab] ++ initW "java/lang/String" 27 New4.yN
def tab : Cond := tabOf yN yB 2 none site
def P (a : Addr) (D : Cell) (fV fC : Field) (b : Addr) (A : Cell) (z : Int32) (args : Array Value) (s : State) : Prop := args = #[.ref a, .ref b] ∧ Blank "java/lang/String" a D s ∧ Found "java/lang/String" "value" "[B" fV s ∧ Found "java/lang/String" "coder" "B" fC s ∧ Ch b A s ∧ StaticIs s "java/lang/String" "COMPACT_STRINGS" "Z" (.int z) ∧ ¬ z = 0 ∧ 0 < A.slots.size ∧ A.slots.size ≤ 536870912 ∧ ∀ i, i < A.slots.size → ¬ 255 < cv A i
def E (a : Addr) (D : Cell) (fV fC : Field) (A : Cell) (r : Option Value) (s u : State) : Prop := Got a D fV fC A 0 A.slots.size r s u
/-- new String(chars), not empty, no char above 255: a Latin-1 String of their low bytes -/
theorem law (l : Launch) (a : Addr) (D : Cell) (fV fC : Field) (b : Addr) (A : Cell) (z : Int32) : Law l yN 2 1 3 52 yB 2 none site (P a D fV fC b A z) (E a D fV fC A) [⟨a, fC.slot⟩, ⟨a, fV.slot⟩] 1 A.slots.size := by
  refine Law.of_walk (plainFor_of_name (by decide +kernel)) (by decide +kernel) (by decide +kernel) (by decide) (fun _ _ h => by rw [h.1]; rfl) (fun _ U U' hal hh h => ⟨h.1, h.2.1.mv hal hh, h.2.2.1.al hal, h.2.2.2.1.al hal, h.2.2.2.2.1.mv hal hh, h.2.2.2.2.2.1.there hal hh, h.2.2.2.2.2.2⟩) (fun r U U' V V' h1 hal h2 h => Got.mv r U U' V V' h1 hal h2 h) ?_
  intro p e s m args below meth c s₁ X0 hexec hbytes hml hret hlk hnm hown hh0 W hP
  obtain ⟨rfl, hB, f1, f2, hA, s1, hz, l0, l2, hp⟩ := hP
  have c1 : Steps p.tables e below (s₁.setTop (entryFrame m #[.ref a, .ref b] 2)) (s₁.setTop (mkF m 0 #[.val (.ref a), .val (.ref b)] [])) := entry rfl
  have c2 : Steps p.tables e below (s₁.setTop (entryFrame m #[.ref a, .ref b] 2)) (s₁.setTop (mkF m 6 #[.val (.ref a), .val (.ref b)] [.null, .int (Int32.ofNat A.slots.size), .int 0, .ref b, .ref a])) := c1.trans (by
    refine XS.aloadN X0.here hexec rfl (hb hbytes d0) rfl rfl ?_
    refine XS.aloadN X0.here hexec rfl (hb hbytes d1) rfl rfl ?_
    refine iconstV X0.here hexec rfl 0 (hb hbytes d2) (by decide) ?_
    refine XS.aloadN X0.here hexec rfl (hb hbytes d3) rfl rfl ?_
    refine X0.alen hexec (hA.1.mv X0.warmed.alike hh0) rfl rfl (hb hbytes d4) ?_
    refine XS.aconstNull X0.here hexec rfl (hb hbytes d5) ?_
    exact Steps.refl _)
  obtain ⟨v3, T3, X3, E3, g3⟩ := X0.callN hexec (New4.law l a D fV fC b A z 0 A.slots.size) rfl hown (wks W (initW "java/lang/String" 27 New4.yN)) (W New4.tab (by simp only [site, List.mem_cons, List.mem_append, true_or, or_true])) (W := 0) (Nat.le_of_ble_eq_true rfl) (Nat.le_of_ble_eq_true rfl) (Nat.le_refl _) (by show 0 + A.slots.size ≤ A.slots.size; omega) (g := (mkF m 6 #[.val (.ref a), .val (.ref b)] [.null, .int (Int32.ofNat A.slots.size), .int (Int32.ofNat 0), .ref b, .ref a])) rfl (by rw [hml]; rfl) c2 (argsL := [.ref b, .int (Int32.ofNat 0), .int (Int32.ofNat A.slots.size), .null]) (rest := []) rfl rfl (by show 2 * 0 + 0 ≤ _; decide) (hb hbytes d6) (⟨rfl, hB.mv X0.warmed.alike hh0, f1.al X0.warmed.alike, f2.al X0.warmed.alike, hA.mv X0.warmed.alike hh0, s1.there X0.warmed.alike hh0, hz, l0, by omega, l2, fun i hi => by rw [Nat.zero_add]; exact hp i hi⟩)
  have e0 := Got.mv _ s₁ s _ _ hh0.symm (Vm.Alike.refl _) rfl E3
  obtain rfl := e0.1
  have c4 : Steps p.tables e below (s₁.setTop (entryFrame m #[.ref a, .ref b] 2)) (T3.setTop (mkF m 9 #[.val (.ref a), .val (.ref b)] [])) := g3
  exact ⟨T3, none, _, _, _, X3, by simp, rfl, by omega, (fun _ => rfl), e0, fun fs hl => c4.trans (X3.returnOut hexec hret (hb hbytes d9) hl)⟩
theorem pays {l : Launch} {R : Room} {p : Program} {e : Env} {below : List Frame} {s : State} {sargs : Array Value} {len W : Nat} (a : Addr) (D : Cell) (fV fC : Field) (b : Addr) (A : Cell) (z : Int32) (htab : tab.before sargs s = true) (hfr : 4 ≤ R.frames) (hlo : W + 65 ≤ R.locals) :
    Back l R p e below s sargs yN len W (fun A₁ a₁ => A₁.cells + 1 ≤ R.cells ∧ A₁.slots + A.slots.size ≤ R.slots ∧ P a D fV fC b A z a₁ A₁.U) (fun A₁ _ v₁ B₁ => E a D fV fC A v₁ A₁.U B₁.U ∧ B₁.locs = A₁.locs ++ [⟨a, fC.slot⟩, ⟨a, fV.slot⟩] ∧ B₁.cells = A₁.cells + 1 ∧ B₁.slots = A₁.slots + A.slots.size) :=
  (law l a D fV fC b A z).pays htab hfr (by omega)
end New1
/-- the byte, read back as charAt reads it, is the char -/
theorem lo8_mask {x : Int32} (h0 : ¬ x < 0) (h1 : ¬ 255 < x) : lo8 x &&& 255 = x := by
  have t : ∀ k : Fin 256, lo8 (Int32.ofNat k.val) &&& 255 = Int32.ofNat k.val := by decide +kernel
  rw [Int32.lt_iff_toInt_lt] at h0 h1
  have e0 : (0 : Int32).toInt = 0 := rfl
  have e1 : (255 : Int32).toInt = 255 := rfl
  obtain ⟨k, hk⟩ : ∃ k : Nat, x.toInt = k := ⟨x.toInt.toNat, by omega⟩
  have hx : x = Int32.ofNat k := Int32.toInt_inj.mp (by rw [hk, Int32.toInt_ofNat_small (by omega)])
  rw [hx]
  exact t ⟨k, by omega⟩
end StrChars
namespace StrChars.Road
open Jvm Sem ClassFile Op Lib Jvm.Stand Jvm.Free Jvm.Free.XT
open Jvm.Lib.Cold (StaticIs)
abbrev ST : String := "java/lang/String"
/-- every table word that New1's law asks, flat -/
abbrev words : List Jvm.Cond := [.code New1.yN New1.yB 2 none, .initialized ST, .methodLink ST 27 New4.yN, .instanceMethod New4.yN,
  .code New4.yN New4.yB 6 none, .fieldLink ST 38 ST "COMPACT_STRINGS" "Z", .laysFinal ST ST "value" "[B", .fieldLink ST 9 ST "value" "[B", .laysFinal ST ST "coder" "B", .fieldLink ST 15 ST "coder" "B",
  .methodLink ST 1 Lib.objectInit, .instanceMethod Lib.objectInit, .code Lib.objectInit ⟨#[0xb1]⟩ 1 none, .methodLink ST 177 Cmp3.yN, .static Cmp3.yN, .methodLink ST 47 CodL.yN, .static CodL.yN,
  .code Cmp3.yN Cmp3.yB 6 (some (.array .byte)), .initialized U16, .arrayClass .byte, .methodLink U16 115 Cmp5.yN, .static Cmp5.yN, .code Cmp5.yN Cmp5.yB 7 (some .int), .code CodL.yN CodL.yB 2 (some .byte)]
theorem tab_of {a : Array Value} {s : State} (h : ∀ w ∈ words, w.before a s = true) : New1.tab.before a s = true := by
  have h5 : Cmp5.tab.before a s = true := unparts (wk h (.code Cmp5.yN Cmp5.yB 7 (some .int))) (wks h (.initialized Cmp5.yN.cls :: Cmp5.site))
  have hc : CodL.tab.before a s = true := unparts (wk h (.code CodL.yN CodL.yB 2 (some .byte))) (wks h (.initialized CodL.yN.cls :: CodL.site))
  have q5 : ∀ w ∈ Cmp5.tab :: words, w.before a s = true := fun w hw => (List.mem_cons.mp hw).elim (fun e => e ▸ h5) (h w)
  have h3 : Cmp3.tab.before a s = true := unparts (wk q5 (.code Cmp3.yN Cmp3.yB 6 (some (.array .byte)))) (wks q5 (.initialized Cmp3.yN.cls :: Cmp3.site))
  have q3 : ∀ w ∈ Cmp3.tab :: CodL.tab :: words, w.before a s = true := fun w hw => (List.mem_cons.mp hw).elim (fun e => e ▸ h3) fun hw => (List.mem_cons.mp hw).elim (fun e => e ▸ hc) (h w)
  have h4 : New4.tab.before a s = true := unparts (wk q3 (.code New4.yN New4.yB 6 none)) (wks q3 (.initialized New4.yN.cls :: New4.site))
  have q4 : ∀ w ∈ New4.tab :: words, w.before a s = true := fun w hw => (List.mem_cons.mp hw).elim (fun e => e ▸ h4) (h w)
  exact unparts (wk q4 (.code New1.yN New1.yB 2 none)) (wks q4 (.initialized New1.yN.cls :: New1.site))
/-- the words ride from the start Z to the walk's own state -/
theorem moved {Z s : State} {a0 args : Array Value} (hZ : Z.Warmed39 s.vm) (hw : ∀ d ∈ words, d.before a0 Z = true) : ∀ d ∈ words, d.before args s = true := fun d hd => by
  have q := hw d hd
  have t : ∀ d ∈ words, d = .arrayClass .byte ∨ (d.onTables && d.keepsFace) = true := by decide +kernel
  rcases t d hd with rfl | t
  · exact RoadKit.mvA hZ q
  · exact RoadKit.mv hZ q t
/-- WHAT COMES BACK, over the tables of the start Z: h the heap at the call, h' behind it -/
def Q (Z : State) (x : Addr) (A : Cell) (h : Heap) (v : Option Value) (h' : Heap) (L : List Loc) : Prop := v = none ∧ (∀ y ∈ L, y.base = x) ∧ RoadKit.Keep h h' [x] ∧ h'.size = h.size + 1 ∧ RoadKit.Exa Z h' x ST ∧ RoadKit.Fld Z h' x ST "value" "[B" (.ref h.size) ∧ RoadKit.Fld Z h' x ST "coder" "B" (.int 0) ∧
  (∃ V : Cell, RoadKit.Arr Z h' h.size V .byte ∧ V.vm = .none ∧ Z.vm.findClass "[B" = some V.cls ∧ V.slots.size = A.slots.size ∧ ∀ j, j < A.slots.size → V.slots[j]? = some (.int (lo8 (cv A j)))) ∧
  ∀ (O n d : String) (w : Value), RoadKit.Fld Z h x O n d w → RoadKit.slotOf Z O n d ≠ RoadKit.slotOf Z ST "value" "[B" → RoadKit.slotOf Z O n d ≠ RoadKit.slotOf Z ST "coder" "B" → RoadKit.Fld Z h' x O n d w
/-- **new String(chars) AT A CALL, IN THE ROAD'S FORM**: for specialBack behind newO: x the fresh String, b the char[] with the cell A -/
theorem back {p : Program} {l : Launch} {e : Env} {R : Room} {s : State} {args : Array Value} {below : List Frame} {len W : Nat} {Z : State} {a0 : Array Value} {h : Heap} (hZ : Z.Warmed39 s.vm) (hw : ∀ d ∈ words, d.before a0 Z = true) {kI : Nat} (wi : (Jvm.Cond.instantiable ST kI).before a0 Z = true)
    {x b : Addr} {A : Cell} {z : Int32} {v0 c0 : Value} (E : RoadKit.Exa Z h x ST) (V : RoadKit.Fld Z h x ST "value" "[B" v0) (C : RoadKit.Fld Z h x ST "coder" "B" c0) (K : RoadKit.Arr Z h b A .char) (hty : Typed .char A) (S : RoadKit.Sta Z h ST "COMPACT_STRINGS" "Z" (.int z)) (hz : ¬ z = 0)
    (l0 : 0 < A.slots.size) (l2 : A.slots.size ≤ 536870912) (hp : ∀ i, i < A.slots.size → ¬ 255 < cv A i) (hfr : 4 ≤ R.frames) (hlo : W + 65 ≤ R.locals) :
    Back l R p e below s args New1.yN len W (fun P a => a = #[.ref x, .ref b] ∧ P.U.heap = h ∧ P.cells + 1 ≤ R.cells ∧ P.slots + A.slots.size ≤ R.slots)
      (fun P _ v B => ∃ L, Q Z x A h v B.U.heap L ∧ B.locs = P.locs ++ L ∧ B.cells = P.cells + 1 ∧ B.slots = P.slots + A.slots.size) := by
  intro m meth c P g ig mk a X hg hsize hdg hW hn hp'
  obtain ⟨rfl, rfl, r1, r2⟩ := hp'
  have al : Z.vm.Alike P.U.vm := hZ.alike.trans X.warmed.alike
  obtain ⟨D, cfV, kV, iV, fV, hD, gV, stV, knV, obV, asV, slV⟩ := id V
  obtain ⟨D', cfC, kC, iC, fC, hD', gC, stC, -, -, asC, slC⟩ := id C
  cases hD.symm.trans hD'
  obtain ⟨D2, kD, e1, e2, e3, e4, e5⟩ := id E
  cases hD.symm.trans e1
  obtain ⟨c2, k2, i1, i2, i3, -⟩ := Cond.instantiable_spec wi
  cases e2.symm.trans i1
  cases e3.symm.trans i2
  obtain ⟨kU, u1, u2⟩ := al.2.2 _ _ e3
  have hB : Blank ST x D P.U := ⟨hD, ⟨knV, fun q hq => by rw [hq] at obV; cases obV⟩, by rw [al.findClass]; exact e2, kU, u1, by rw [u2]; exact i3, by rw [u2]; exact e5 i3⟩
  have F1 : Found ST "value" "[B" fV P.U := ⟨SBG.found_only al ⟨cfV, kV, iV, gV⟩, stV⟩
  have F2 : Found ST "coder" "B" fC P.U := ⟨SBG.found_only al ⟨cfC, kC, iC, gC⟩, stC⟩
  have hA : Ch b A P.U := ⟨⟨K.1, State.isArrayOf_alike al K.2.1, K.2.2, by omega⟩, hty⟩
  have hS : StaticIs P.U ST "COMPACT_STRINGS" "Z" (.int z) := by
    obtain ⟨cfS, iS, kS, fS, st, cS, t1, t2, t3, t4, t5, t6, t7⟩ := S
    exact StaticIs.there (s := { Z with heap := P.U.heap }) ⟨cfS, iS, kS, fS, st, cS, t1, t2, t3, t4, t5, (fun q => by rw [q] at t6; cases t6), t7⟩ al rfl
  obtain ⟨v, B, X', ⟨⟨hv, E', V', q1, q2, q3, q4, q5, q6, q7, q8, q9, q10, q11⟩, hl, hc, hs⟩, st⟩ := New1.pays x D fV fC b A z (tab_of (moved hZ hw)) hfr hlo m meth c P g ig mk _ X hg hsize hdg hW hn ⟨r1, r2, rfl, hB, F1, F2, hA, hS, hz, l0, l2, hp⟩
  have al' : Z.vm.Alike B.U.vm := hZ.alike.trans X'.warmed.alike
  have hsz : E'.slots.size = D.slots.size := by
    obtain ⟨-, -, -, kB, w1, w2, w3⟩ := q1
    obtain ⟨kB', y1, y2⟩ := al'.2.2 _ _ e3
    rw [q2.2.1] at w1
    cases w1.symm.trans y1
    rw [w3, e5 i3, y2]
  refine ⟨v, B, X', ⟨_, ⟨hv, ?_, ⟨by omega, fun y cy hy hn' => q10 y cy (by simpa using hn') hy, fun y cy hy => ?_⟩, q11, ⟨E', _, q1.1, by rw [q2.2.1]; exact e2, by rw [q2.2.1]; exact e3, by rw [q2.1]; exact obV, fun _ => by rw [hsz]; exact e5 i3⟩,
    ⟨E', cfV, kV, iV, fV, q1.1, gV, stV, by rw [q2.1]; exact knV, by rw [q2.1]; exact obV, by rw [q2.2.1]; exact asV, q3⟩, ⟨E', cfC, kC, iC, fC, q1.1, gC, stC, by rw [q2.1]; exact knV, by rw [q2.1]; exact obV, by rw [q2.2.1]; exact asC, q4⟩,
    ⟨V', ⟨q5.1, State.isArrayOf_alike al'.symm q5.2.1, q5.2.2.1⟩, q6, by rw [← al'.findClass]; exact q7, q8, fun j hj => by have := q9 j hj; rwa [Nat.zero_add] at this⟩, fun O n d w F n1 n2 => ?_⟩, hl, hc, hs⟩, st⟩
  · intro y hy
    simp only [List.mem_cons, List.not_mem_nil, or_false] at hy
    rcases hy with rfl | rfl <;> rfl
  · by_cases q : y = x
    · subst q
      cases hD.symm.trans hy
      exact ⟨E', q1.1, q2.2.1, q2.1, hsz⟩
    · exact ⟨cy, q10 y cy q hy, rfl, rfl, rfl⟩
  · obtain ⟨D3, cf, k, i, f, g1, g2, g3, g4, g5, g6, g7⟩ := F
    cases hD.symm.trans g1
    simp only [RoadKit.slotOf, g2, gV, gC, Option.map_some, Option.getD_some] at n1 n2
    exact ⟨E', cf, k, i, f, q1.1, g2, g3, by rw [q2.1]; exact g4, by rw [q2.1]; exact g5, by rw [q2.2.1]; exact g6, by rw [q2.2.2 f.slot (by simp [n1, n2])]; exact g7⟩
end StrChars.Road
namespace StrChars.Road
open Jvm Sem ClassFile Op Lib Jvm.Stand Jvm.Free Jvm.Free.XT
/-- WHAT COMES BACK, the byte[] as a list of values -/
def QA (Z : State) (x : Addr) (zn : Int32) (cs : List Int32) (h : Heap) (v : Option Value) (h' : Heap) (L : List Loc) : Prop := v = none ∧ (∀ y ∈ L, y.base = x) ∧ RoadKit.Keep h h' [x] ∧ h'.size = h.size + 1 ∧ RoadKit.Exa Z h' x ST ∧ RoadKit.Fld Z h' x ST "value" "[B" (.ref h.size) ∧ RoadKit.Fld Z h' x ST "coder" "B" (.int 0) ∧
  (∃ kb, Z.vm.findClass "[B" = some kb ∧ RoadKit.Arv Z h' h.size kb .byte zn (cs.map fun c => .int (lo8 c)) (.int 0)) ∧
  ∀ (O n d : String) (w : Value), RoadKit.Fld Z h x O n d w → RoadKit.slotOf Z O n d ≠ RoadKit.slotOf Z ST "value" "[B" → RoadKit.slotOf Z O n d ≠ RoadKit.slotOf Z ST "coder" "B" → RoadKit.Fld Z h' x O n d w
/-- **new String(chars) AT A CALL, THE ARRAYS AS LISTS**: the char[] at b holds cs, not empty, no char above 255 -/
theorem backArv {p : Program} {l : Launch} {e : Env} {R : Room} {s : State} {args : Array Value} {below : List Frame} {len W : Nat} {Z : State} {a0 : Array Value} {h : Heap} (hZ : Z.Warmed39 s.vm) (hw : ∀ d ∈ words, d.before a0 Z = true) {kI : Nat} (wi : (Jvm.Cond.instantiable ST kI).before a0 Z = true)
    {x b : Addr} {k : ClassId} {zn z : Int32} {cs : List Int32} {dv v0 c0 : Value} (E : RoadKit.Exa Z h x ST) (V : RoadKit.Fld Z h x ST "value" "[B" v0) (C : RoadKit.Fld Z h x ST "coder" "B" c0) (K : RoadKit.Arv Z h b k .char zn (cs.map Value.int) dv) (S : RoadKit.Sta Z h ST "COMPACT_STRINGS" "Z" (.int z)) (hz : ¬ z = 0)
    (hlen : zn.toNatClampNeg = cs.length) (h0 : 0 < cs.length) (hbig : cs.length ≤ 536870912) (hall : ∀ c ∈ cs, ¬ 255 < c) (hfr : 4 ≤ R.frames) (hlo : W + 65 ≤ R.locals) :
    Back l R p e below s args New1.yN len W (fun P a => a = #[.ref x, .ref b] ∧ P.U.heap = h ∧ P.cells + 1 ≤ R.cells ∧ P.slots + cs.length ≤ R.slots)
      (fun P _ v B => ∃ L, QA Z x zn cs h v B.U.heap L ∧ B.locs = P.locs ++ L ∧ B.cells = P.cells + 1 ∧ B.slots = P.slots + cs.length) := by
  obtain ⟨A, K1, K2, K3, K4, K5, K6⟩ := K
  have e : A.slots.size = cs.length := K3.trans hlen
  have hat : ∀ (i : Nat) (hi : i < cs.length), A.slots[i]? = some (.int cs[i]) := fun i hi => by rw [K5 i (by omega)]; simp [List.getD_eq_getElem?_getD, hi]
  have hcv : ∀ (i : Nat) (hi : i < cs.length), cv A i = cs[i] := fun i hi => by unfold cv; rw [hat i hi]
  have hty : Typed .char A := fun i v hv => by
    have hi : i < A.slots.size := (Array.getElem?_eq_some_iff.mp hv).1
    have q := K5 i hi
    rw [hv] at q
    rw [Option.some.inj q]
    exact K6 i hi
  refine Back.mono (back hZ hw wi E V C K1 hty S hz (by omega) (by omega) (fun i hi => by rw [hcv i (by omega)]; exact hall _ (List.getElem_mem _)) hfr hlo) (fun P a hp => ⟨hp.1, hp.2.1, hp.2.2.1, by rw [e]; exact hp.2.2.2⟩) (fun P a v B hp hq => ?_)
  obtain ⟨L, ⟨q1, q2, q3, q4, q5, q6, q7, ⟨V', v1, v2, v3, v4, v5⟩, q9⟩, hl, hc, hs⟩ := hq
  refine ⟨L, ⟨q1, q2, q3, q4, q5, q6, q7, ⟨V'.cls, v3, V', v1, rfl, by rw [v4, e, hlen], K4, fun i hi => ?_, fun i hi => ?_⟩, q9⟩, hl, hc, by rw [hs, e]⟩
  · have hi' : i < cs.length := by omega
    rw [v5 i (by omega), hcv i hi']; simp [List.getD_eq_getElem?_getD, hi']
  · have hi' : i < cs.length := by omega
    simp only [List.getD_eq_getElem?_getD, List.getElem?_map, List.getElem?_eq_getElem hi', Option.map_some, Option.getD_some]
    exact fits_lo8 _
end StrChars.Road
namespace StrChars.Road
open Jvm Sem ClassFile Op Lib Jvm.Stand Jvm.Free Jvm.Free.XT
/-- WHAT COMES BACK, in the writer's own shape -/
def QV (Z : State) (x : Addr) (N : Int32) (bs : List Int32) (h : Heap) (n0 : Nat) (v : Option Value) (h' : Heap) (L : List Loc) : Prop := v = none ∧ RoadKit.Fr n0 L ∧ RoadKit.Keep h h' [x] ∧ RoadKit.Exa Z h' x ST ∧ RoadKit.Fld Z h' x ST "coder" "B" (.int 0) ∧
  ∃ (t : Addr) (kb : ClassId), n0 ≤ t ∧ h.size ≤ t ∧ ¬ t = x ∧ RoadKit.Fld Z h' x ST "value" "[B" (.ref t) ∧ RoadKit.Arv Z h' t kb .byte N (bs.map Value.int) (.int 0)
/-- **new String(chars) AT A CALL, FOR THE WRITER**: a char[] of n known ints, each 0 to 255 -/
theorem backV {p : Program} {l : Launch} {e : Env} {R : Room} {s : State} {args : Array Value} {below : List Frame} {len W : Nat} {Z : State} {a0 : Array Value} {h : Heap} (hZ : Z.Warmed39 s.vm) (hw : ∀ d ∈ words, d.before a0 Z = true) {kI : Nat} (wi : (Jvm.Cond.instantiable ST kI).before a0 Z = true)
    {x b : Addr} {kC : ClassId} {cs bs : List Int32} {d v0 c0 : Value} {z N : Int32} {n n0 : Nat} (hx0 : n0 ≤ x) (hh0 : n0 ≤ h.size) (E : RoadKit.Exa Z h x ST) (V : RoadKit.Fld Z h x ST "value" "[B" v0) (C : RoadKit.Fld Z h x ST "coder" "B" c0) (K : RoadKit.Arv Z h b kC .char N (cs.map Value.int) d) (S : RoadKit.Sta Z h ST "COMPACT_STRINGS" "Z" (.int z)) (hz : ¬ z = 0)
    (hn : cs.length = n) (hN : N = Int32.ofNat n) (l0 : 0 < n) (l2 : n ≤ 4000) (hp : ∀ c ∈ cs, ¬ c < 0 ∧ ¬ (255 : Int32) < c) (hb : bs = cs.map (fun c => c.toInt8.toInt32)) (hfr : 4 ≤ R.frames) (hlo : W + 65 ≤ R.locals) :
    Back l R p e below s args (⟨"java/lang/String", "<init>", "([C)V"⟩ : MethodName) len W (fun P a => a = #[.ref x, .ref b] ∧ P.U.heap = h ∧ P.cells + 1 ≤ R.cells ∧ P.slots + n ≤ R.slots)
      (fun P _ v B => ∃ L, QV Z x N bs h n0 v B.U.heap L ∧ B.locs = P.locs ++ L ∧ B.cells = P.cells + 1 ∧ B.slots = P.slots + n) := by
  subst hn hN hb
  refine Back.mono (backArv hZ hw wi E V C K S hz (n32 (by omega)) l0 (by omega) (fun c hc => (hp c hc).2) hfr hlo) (fun P a hp => hp) (fun P a v B hp hq => ?_)
  obtain ⟨L, ⟨q1, q2, q3, q4, q5, q6, q7, ⟨kb, v1, v2⟩, q9⟩, hl, hc, hs⟩ := hq
  exact ⟨L, ⟨q1, fun y hy => by rw [q2 y hy]; exact hx0, q3, q5, q7, h.size, kb, hh0, Nat.le_refl _, Nat.ne_of_gt E.lt, q6, by rw [List.map_map]; exact v2⟩, hl, hc, hs⟩
end StrChars.Road
namespace StrChars
open Jvm Sem ClassFile Op Lib Jvm.Stand Jvm.Free.XT Jvm.Free.ALB Jvm.Free.JM Jvm.Free
open Jvm.Lib.Cold (StaticIs)
def hi8 (x : Int32) : Int32 := lo8 (x >>> ((8 : Int32) &&& 31))
/-- what StringUTF16.getChar makes of two bytes -/
def pairCh (u v : Int32) : Int32 := (((u &&& 255) <<< ((0 : Int32) &&& 31)) ||| ((v &&& 255) <<< ((8 : Int32) &&& 31))).toUInt32.toUInt16.toUInt32.toInt32
theorem lo8_and (x : Int32) : (lo8 x &&& 255).toBitVec.toNat = x.toBitVec.toNat % 256 := by
  have h : (lo8 x).toBitVec = (x.toBitVec.signExtend 8).signExtend 32 := by rw [lo8, Int8.toBitVec_toInt32, Int32.toBitVec_toInt8]
  rw [Int32.toBitVec_and, BitVec.toNat_and, h]
  have e : ((x.toBitVec.signExtend 8).signExtend 32).toNat % 256 = x.toBitVec.toNat % 256 := by
    rw [BitVec.toNat_signExtend]
    have hlt := x.toBitVec.isLt
    simp only [BitVec.toNat_setWidth, BitVec.toNat_signExtend]
    split <;> split <;> omega
  rw [← e]
  exact Nat.and_two_pow_sub_one_eq_mod _ 8
theorem pair_says {c : Int32} (h0 : ¬ c < 0) (h1 : ¬ 65535 < c) : pairCh (lo8 c) (hi8 c) = c := by
  rw [Int32.lt_iff_toInt_lt] at h0 h1
  have e0 : (0 : Int32).toInt = 0 := rfl
  have e1 : (65535 : Int32).toInt = 65535 := rfl
  have hc : c.toInt = c.toBitVec.toNat := by
    have := c.toBitVec.isLt
    have e : c.toInt = c.toBitVec.toInt := rfl
    rw [e] at h0 h1
    rw [e]
    rw [BitVec.toInt_eq_toNat_cond] at h0 h1 ⊢
    split at h0 <;> split <;> omega
  have hn : c.toBitVec.toNat < 65536 := by omega
  have a1 := lo8_and c
  have a2 : (hi8 c &&& 255).toBitVec.toNat = c.toBitVec.toNat / 256 := by
    rw [hi8, lo8_and]
    have e : ((8 : Int32) &&& 31) = 8 := by decide
    rw [e, Int32.toBitVec_shiftRight]
    have e2 : ((8 : Int32).toBitVec.smod 32) = 8#32 := by decide
    rw [e2, BitVec.sshiftRight_eq', BitVec.toNat_sshiftRight_of_msb_false (by rw [BitVec.msb_eq_false_iff_two_mul_lt]; omega)]
    show c.toBitVec.toNat >>> 8 % 256 = _
    rw [Nat.shiftRight_eq_div_pow]
    omega
  unfold pairCh
  apply Int32.toBitVec_inj.mp
  apply BitVec.eq_of_toNat_eq
  have f0 : ((0 : Int32) &&& 31) = 0 := by decide
  have f8 : ((8 : Int32) &&& 31) = 8 := by decide
  rw [f0, f8]
  have g : (((lo8 c &&& 255) <<< (0 : Int32)) ||| ((hi8 c &&& 255) <<< (8 : Int32))).toBitVec.toNat = c.toBitVec.toNat := by
    rw [Int32.toBitVec_or, Int32.toBitVec_shiftLeft, Int32.toBitVec_shiftLeft]
    have s0 : ((0 : Int32).toBitVec.smod 32) = 0#32 := by decide
    have s8 : ((8 : Int32).toBitVec.smod 32) = 8#32 := by decide
    rw [s0, s8, BitVec.toNat_or]
    simp only [BitVec.shiftLeft_eq', BitVec.toNat_shiftLeft, a1, a2]
    show (c.toBitVec.toNat % 256) <<< 0 % 2 ^ 32 ||| (c.toBitVec.toNat / 256) <<< 8 % 2 ^ 32 = _
    rw [Nat.shiftLeft_zero, Nat.mod_eq_of_lt (show c.toBitVec.toNat % 256 < 2 ^ 32 by omega), Nat.mod_eq_of_lt (show (c.toBitVec.toNat / 256) <<< 8 < 2 ^ 32 by rw [Nat.shiftLeft_eq]; omega), Nat.or_comm, ← Nat.shiftLeft_add_eq_or_of_lt (by omega), Nat.shiftLeft_eq]
    omega
  show BitVec.toNat (((((lo8 c &&& 255) <<< (0 : Int32)) ||| ((hi8 c &&& 255) <<< (8 : Int32))).toBitVec.setWidth 16).setWidth 32) = _
  rw [BitVec.toNat_setWidth, BitVec.toNat_setWidth, g]
  omega
end StrChars
namespace StrChars
open Jvm Sem ClassFile Op Lib Jvm.Stand Jvm.Free.XT Jvm.Free.ALB Jvm.Free.JM Jvm.Free
open Jvm.Lib.Cold (StaticIs)
/-- the array's cell V codes the n chars f 0 .. f (n - 1) by the coder cd, as the JDK does: coder 1 just where some char is above 255 -/
def Cod (cd : Int32) (n : Nat) (f : Nat → Int32) (V : Cell) : Prop := (cd = 0 ∧ V.slots.size = n ∧ ∀ j, j < n → V.slots[j]? = some (.int (lo8 (f j))) ∧ ¬ 255 < f j) ∨ (cd = 1 ∧ V.slots.size = 2 * n ∧ (∀ j, j < n → V.slots[2 * j]? = some (.int (lo8 (f j))) ∧ V.slots[2 * j + 1]? = some (.int (hi8 (f j)))) ∧ ∃ j, j < n ∧ 255 < f j)
/-- **x is a String of the n chars f 0 .. f (n - 1)**, Latin-1 or UTF-16; its array at t has the cell V -/
def Txt (x t : Addr) (V : Cell) (cd : Int32) (n : Nat) (f : Nat → Int32) (U : State) : Prop := Exact "java/lang/String" x U ∧ Has x "java/lang/String" "value" "[B" (.ref t) U ∧ Has x "java/lang/String" "coder" "B" (.int cd) U ∧ XT.Arr .byte t V U ∧ Cod cd n f V ∧ ∀ j, j < n → ¬ f j < 0 ∧ ¬ 65535 < f j
theorem Txt.mv {x t : Addr} {V : Cell} {cd : Int32} {n : Nat} {f : Nat → Int32} {U U' : State} (h : Txt x t V cd n f U) (hal : U.vm.Alike U'.vm) (hh : U'.heap = U.heap) : Txt x t V cd n f U' := ⟨h.1.mv hal hh, h.2.1.mv hal hh, h.2.2.1.mv hal hh, h.2.2.2.1.mv hal hh, h.2.2.2.2⟩
end StrChars
namespace StrChars.Road
open Jvm Sem ClassFile Op Lib Jvm.Stand Jvm.Free Jvm.Free.XT
open Jvm.Lib.Cold (StaticIs)
theorem consq {a : Array Value} {s : State} {c : Jvm.Cond} {L : List Jvm.Cond} (h0 : c.before a s = true) (h : ∀ w ∈ L, w.before a s = true) : ∀ w ∈ c :: L, w.before a s = true := fun w hw => (List.mem_cons.mp hw).elim (fun e => e ▸ h0) (h w)
/-- the bytes of the chars cs, low before high -/
def wideBytes : List Int32 → List Value
  | [] => []
  | c :: cs => .int (lo8 c) :: .int (hi8 c) :: wideBytes cs
theorem wide_lo (d : Value) : ∀ (cs : List Int32) (j : Nat), j < cs.length → (wideBytes cs).getD (2 * j) d = .int (lo8 (cs.getD j 0))
  | [], j, h => absurd h (Nat.not_lt_zero j)
  | c :: cs, 0, _ => rfl
  | c :: cs, j + 1, h => by
    have q := wide_lo d cs j (by simpa using h)
    rw [show 2 * (j + 1) = 2 * j + 1 + 1 from by omega]
    simpa [wideBytes] using q
theorem wide_hi (d : Value) : ∀ (cs : List Int32) (j : Nat), j < cs.length → (wideBytes cs).getD (2 * j + 1) d = .int (hi8 (cs.getD j 0))
  | [], j, h => absurd h (Nat.not_lt_zero j)
  | c :: cs, 0, _ => rfl
  | c :: cs, j + 1, h => by
    have q := wide_hi d cs j (by simpa using h)
    rw [show 2 * (j + 1) + 1 = 2 * j + 1 + 1 + 1 from by omega]
    simpa [wideBytes] using q
theorem low_at (d : Value) (cs : List Int32) (j : Nat) (h : j < cs.length) : (cs.map fun c => Value.int (lo8 c)).getD j d = .int (lo8 (cs.getD j 0)) := by
  simp [List.getD_eq_getElem?_getD, h]
/-- an array of N2 bytes vs codes the chars cs by the coder cd -/
def CodA (cs : List Int32) (cd N2 : Int32) (vs : List Value) : Prop := (cd = 0 ∧ N2 = Int32.ofNat cs.length ∧ vs = (cs.map fun c => Value.int (lo8 c)) ∧ ∀ c ∈ cs, ¬ 255 < c) ∨ (cd = 1 ∧ N2 = Int32.ofNat (2 * cs.length) ∧ vs = wideBytes cs ∧ ∃ c ∈ cs, 255 < c)
theorem CodA.cod {cs : List Int32} {cd N2 : Int32} {vs : List Value} {V : Cell} (h : CodA cs cd N2 vs) (hn : 2 * cs.length < 2 ^ 31) (hs : V.slots.size = N2.toNatClampNeg) (hv : RoadKit.Has V vs (.int 0)) : Cod cd cs.length (fun j => cs.getD j 0) V := by
  rcases h with ⟨rfl, rfl, rfl, h⟩ | ⟨rfl, rfl, rfl, c, hc, hw⟩
  · rw [n32 (by omega)] at hs
    exact Or.inl ⟨rfl, hs, fun j hj => ⟨by rw [hv j (by omega), low_at _ _ _ hj], by
      have e : cs.getD j 0 = cs[j] := by simp [List.getD_eq_getElem?_getD, hj]
      show ¬ 255 < cs.getD j 0
      rw [e]; exact h _ (List.getElem_mem _)⟩⟩
  · rw [n32 (by omega)] at hs
    obtain ⟨j, hj, rfl⟩ := List.getElem_of_mem hc
    exact Or.inr ⟨rfl, hs, fun j hj => ⟨by rw [hv _ (by omega), wide_lo _ _ _ hj], by rw [hv _ (by omega), wide_hi _ _ _ hj]⟩, j, hj, by
      have e : cs.getD j 0 = cs[j] := by simp [List.getD_eq_getElem?_getD, hj]
      show 255 < cs.getD j 0
      rw [e]; exact hw⟩
/-- an object of exactly java/lang/String, its two fields found: as the laws ask it -/
theorem strObj {Z U : State} {a0 : Array Value} {kI : Nat} (wi : (Jvm.Cond.instantiable ST kI).before a0 Z = true) (al : Z.vm.Alike U.vm) {x : Addr} {v0 c0 : Value} (E : RoadKit.Exa Z U.heap x ST) (V : RoadKit.Fld Z U.heap x ST "value" "[B" v0) (C : RoadKit.Fld Z U.heap x ST "coder" "B" c0) :
    ∃ (D : Cell) (fV fC : Field), Blank ST x D U ∧ Found ST "value" "[B" fV U ∧ Found ST "coder" "B" fC U ∧ D.slots[fV.slot]? = some v0 ∧ D.slots[fC.slot]? = some c0 ∧ RoadKit.slotOf Z ST "value" "[B" = fV.slot ∧ RoadKit.slotOf Z ST "coder" "B" = fC.slot := by
  obtain ⟨D, cfV, kV, iV, fV, hD, gV, stV, knV, obV, asV, slV⟩ := V
  obtain ⟨D', cfC, kC, iC, fC, hD', gC, stC, -, -, asC, slC⟩ := C
  cases hD.symm.trans hD'
  obtain ⟨D2, kD, e1, e2, e3, e4, e5⟩ := E
  cases hD.symm.trans e1
  obtain ⟨c2, k2, i1, i2, i3, -⟩ := Cond.instantiable_spec wi
  cases e2.symm.trans i1
  cases e3.symm.trans i2
  obtain ⟨kU, u1, u2⟩ := al.2.2 _ _ e3
  exact ⟨D, fV, fC, ⟨hD, ⟨knV, fun q hq => by rw [hq] at obV; cases obV⟩, by rw [al.findClass]; exact e2, kU, u1, by rw [u2]; exact i3, by rw [u2]; exact e5 i3⟩, ⟨SBG.found_only al ⟨cfV, kV, iV, gV⟩, stV⟩, ⟨SBG.found_only al ⟨cfC, kC, iC, gC⟩, stC⟩, slV, slC, by simp [RoadKit.slotOf, gV], by simp [RoadKit.slotOf, gC]⟩
theorem sta_is {Z U : State} (al : Z.vm.Alike U.vm) {C n d : String} {v : Value} (S : RoadKit.Sta Z U.heap C n d v) : StaticIs U C n d v := by
  obtain ⟨cfS, iS, kS, fS, st, cS, t1, t2, t3, t4, t5, t6, t7⟩ := S
  exact StaticIs.there (s := { Z with heap := U.heap }) ⟨cfS, iS, kS, fS, st, cS, t1, t2, t3, t4, t5, (fun q => by rw [q] at t6; cases t6), t7⟩ al rfl
end StrChars.Road
namespace StrChars
open Jvm Sem ClassFile Op Lib Jvm.Stand Jvm.Free.XT Jvm.Free.ALB Jvm.Free.JM Jvm.Free
open Jvm.Lib.Cold (StaticIs)
/-- what place i of a byte[]'s cell holds -/
def yv (A : Cell) (i : Nat) : Int32 := match A.slots[i]? with | some (.int x) => x | _ => 0
theorem yv_get {a : Addr} {A : Cell} {U : State} (h : XT.Arr .byte a A U) (ht : Typed .byte A) {i : Nat} (hi : i < A.slots.size) : A.slots[i]? = some (.int (yv A i)) := by
  have e := Array.getElem?_eq_getElem hi
  have f := ht i _ e
  unfold yv; rw [e]
  generalize A.slots[i] = v at f
  cases v <;> simp [fits] at f ⊢
/-- the two arrays are equal, place for place -/
def EqC (A B : Cell) : Prop := A.slots.size = B.slots.size ∧ ∀ i, i < A.slots.size → yv A i = yv B i
/-- a boolean that says whether p -/
def Says01 (q : Prop) (r : Option Value) (s u : State) : Prop := ∃ v : Int32, r = some (.int v) ∧ u.heap = s.heap ∧ ((v = 1 ∧ q) ∨ (v = 0 ∧ ¬ q))
theorem Says01.mv {q : Prop} : ∀ r (U U' V V' : State), U'.heap = U.heap → V.vm.Alike V'.vm → V'.heap = V.heap → Says01 q r U V → Says01 q r U' V' :=
  fun r U U' V V' h1 _ h2 ⟨v, a, b, c⟩ => ⟨v, a, by rw [h1, h2]; exact b, c⟩
namespace LEq
def yN : MethodName := ⟨"java/lang/StringLatin1", "equals", "([B[B)Z"⟩
abbrev yB : ByteArray := jdk_43_method_13_code
theorem d0 : decode yB 0 = .ok (.aload_n 0, 1) := by decide +kernel
theorem d1 : decode yB 1 = .ok (.arraylength, 1) := by decide +kernel
theorem d2 : decode yB 2 = .ok (.aload_n 1, 1) := by decide +kernel
theorem d3 : decode yB 3 = .ok (.arraylength, 1) := by decide +kernel
theorem d4 : decode yB 4 = .ok (.if_icmp (.ne) 30, 3) := by decide +kernel
theorem d7 : decode yB 7 = .ok (.iconst 0, 1) := by decide +kernel
theorem d8 : decode yB 8 = .ok (.istore_n 2, 1) := by decide +kernel
theorem d9 : decode yB 9 = .ok (.iload_n 2, 1) := by decide +kernel
theorem d10 : decode yB 10 = .ok (.aload_n 0, 1) := by decide +kernel
theorem d11 : decode yB 11 = .ok (.arraylength, 1) := by decide +kernel
theorem d12 : decode yB 12 = .ok (.if_icmp (.ge) 20, 3) := by decide +kernel
theorem d15 : decode yB 15 = .ok (.aload_n 0, 1) := by decide +kernel
theorem d16 : decode yB 16 = .ok (.iload_n 2, 1) := by decide +kernel
theorem d17 : decode yB 17 = .ok (.baload, 1) := by decide +kernel
theorem d18 : decode yB 18 = .ok (.aload_n 1, 1) := by decide +kernel
theorem d19 : decode yB 19 = .ok (.iload_n 2, 1) := by decide +kernel
theorem d20 : decode yB 20 = .ok (.baload, 1) := by decide +kernel
theorem d21 : decode yB 21 = .ok (.if_icmp (.eq) 5, 3) := by decide +kernel
theorem d24 : decode yB 24 = .ok (.iconst 0, 1) := by decide +kernel
theorem d25 : decode yB 25 = .ok (.ireturn, 1) := by decide +kernel
theorem d26 : decode yB 26 = .ok (.iinc 2 1, 3) := by decide +kernel
theorem d29 : decode yB 29 = .ok (.goto (-20), 3) := by decide +kernel
theorem d32 : decode yB 32 = .ok (.iconst 1, 1) := by decide +kernel
theorem d33 : decode yB 33 = .ok (.ireturn, 1) := by decide +kernel
theorem d34 : decode yB 34 = .ok (.iconst 0, 1) := by decide +kernel
theorem d35 : decode yB 35 = .ok (.ireturn, 1) := by decide +kernel
def site : List Cond := []
def tab : Cond := tabOf yN yB 3 (some .boolean) site
def P (a : Addr) (A : Cell) (b : Addr) (B : Cell) (args : Array Value) (s : State) : Prop := args = #[.ref a, .ref b] ∧ XT.Arr .byte a A s ∧ Typed .byte A ∧ XT.Arr .byte b B s ∧ Typed .byte B
/-- whether two byte[] are equal, place for place -/
theorem law (l : Launch) (a : Addr) (A : Cell) (b : Addr) (B : Cell) : Law l yN 2 2 0 0 yB 3 (some .boolean) site (P a A b B) (Says01 (EqC A B)) [] 0 0 := by
  refine Law.of_walk (plainFor_of_name (by decide +kernel)) (by decide +kernel) (by decide +kernel) (by decide) (fun _ _ h => by rw [h.1]; rfl) (fun _ U U' hal hh h => ⟨h.1, h.2.1.mv hal hh, h.2.2.1, h.2.2.2.1.mv hal hh, h.2.2.2.2⟩) (fun r U U' V V' h1 hal h2 h => Says01.mv r U U' V V' h1 hal h2 h) ?_
  intro p e s m args below meth c s₁ X0 hexec hbytes hml hret hlk hnm hown hh0 W hP
  obtain ⟨rfl, hA, tA, hB, tB⟩ := hP
  have a31 := hA.2.2.2
  have b31 := hB.2.2.2
  have hA0 := hA.mv X0.warmed.alike hh0
  have hB0 := hB.mv X0.warmed.alike hh0
  have c1 : Steps p.tables e below (s₁.setTop (entryFrame m #[.ref a, .ref b] 3)) (s₁.setTop (mkF m 0 #[.val (.ref a), .val (.ref b), .unset] [])) := entry rfl
  have c2 : Steps p.tables e below (s₁.setTop (entryFrame m #[.ref a, .ref b] 3)) (s₁.setTop (mkF m 4 #[.val (.ref a), .val (.ref b), .unset] [.int (Int32.ofNat B.slots.size), .int (Int32.ofNat A.slots.size)])) := c1.trans (by
    refine XS.aloadN X0.here hexec rfl (hb hbytes d0) rfl rfl ?_
    refine X0.alen hexec hA0 rfl rfl (hb hbytes d1) ?_
    refine XS.aloadN X0.here hexec rfl (hb hbytes d2) rfl rfl ?_
    refine X0.alen hexec hB0 rfl rfl (hb hbytes d3) ?_
    exact Steps.refl _)
  by_cases hs : A.slots.size = B.slots.size
  · have c3 : Steps p.tables e below (s₁.setTop (entryFrame m #[.ref a, .ref b] 3)) (s₁.setTop (mkF m 9 #[.val (.ref a), .val (.ref b), .val (.int 0)] [])) := c2.trans (by
      refine XS.icmpNo X0.here hexec rfl (hb hbytes d4) rfl (ii_ne_f (by rw [hs])) ?_
      refine iconstV X0.here hexec rfl 0 (hb hbytes d7) (by decide) ?_
      refine XS.istoreN X0.here hexec rfl (hb hbytes d8) rfl rfl ?_
      exact Steps.refl _)
    have loop : ∀ (r i : Nat), i + r = A.slots.size → (∀ j, j < i → yv A j = yv B j) → Steps p.tables e below (s₁.setTop (entryFrame m #[.ref a, .ref b] 3)) (s₁.setTop (mkF m 9 #[.val (.ref a), .val (.ref b), .val (.int (Int32.ofNat i))] [])) → ∃ (pc : Nat) (Ls : Array Slot) (v : Int32), (pc = 25 ∨ pc = 33) ∧ ((v = 1 ∧ EqC A B) ∨ (v = 0 ∧ ¬ EqC A B)) ∧ Steps p.tables e below (s₁.setTop (entryFrame m #[.ref a, .ref b] 3)) (s₁.setTop (mkF m pc Ls [.int v])) := by
      intro r
      induction r with
      | zero =>
        intro i hi he cl
        exact ⟨33, _, 1, Or.inr rfl, Or.inl ⟨rfl, hs, fun j hj => he j (by omega)⟩, cl.trans (by
          refine XS.iloadN X0.here hexec rfl (hb hbytes d9) rfl ?_
          refine XS.aloadN X0.here hexec rfl (hb hbytes d10) rfl rfl ?_
          refine X0.alen hexec hA0 rfl rfl (hb hbytes d11) ?_
          refine XS.icmpYes X0.here hexec rfl (pc0 := 12) rfl (hb hbytes d12) rfl (ii_ge_t (nlt32 (by omega) (by omega))) (by decide) rfl ?_
          refine iconstV X0.here hexec rfl 1 (hb hbytes d32) (by decide) ?_
          exact Steps.refl _)⟩
      | succ r ih =>
        intro i hi he cl
        have c4 : Steps p.tables e below (s₁.setTop (entryFrame m #[.ref a, .ref b] 3)) (s₁.setTop (mkF m 21 #[.val (.ref a), .val (.ref b), .val (.int (Int32.ofNat i))] [.int (yv B i), .int (yv A i)])) := cl.trans (by
          refine XS.iloadN X0.here hexec rfl (hb hbytes d9) rfl ?_
          refine XS.aloadN X0.here hexec rfl (hb hbytes d10) rfl rfl ?_
          refine X0.alen hexec hA0 rfl rfl (hb hbytes d11) ?_
          refine XS.icmpNo X0.here hexec rfl (hb hbytes d12) rfl (ii_ge_f (lt32 (by omega) (by omega))) ?_
          refine XS.aloadN X0.here hexec rfl (hb hbytes d15) rfl rfl ?_
          refine XS.iloadN X0.here hexec rfl (hb hbytes d16) rfl ?_
          refine X0.aget hexec hA0 rfl (yv_get hA tA (i := i) (by omega)) rfl rfl (hb hbytes d17) ?_
          refine XS.aloadN X0.here hexec rfl (hb hbytes d18) rfl rfl ?_
          refine XS.iloadN X0.here hexec rfl (hb hbytes d19) rfl ?_
          refine X0.aget hexec hB0 rfl (yv_get hB tB (i := i) (by omega)) rfl rfl (hb hbytes d20) ?_
          exact Steps.refl _)
        by_cases hv : yv A i = yv B i
        · have c5 : Steps p.tables e below (s₁.setTop (entryFrame m #[.ref a, .ref b] 3)) (s₁.setTop (mkF m 9 #[.val (.ref a), .val (.ref b), .val (.int (Int32.ofNat i + 1))] [])) := c4.trans (by
            refine XS.icmpYes X0.here hexec rfl (pc0 := 21) rfl (hb hbytes d21) rfl (ii_eq_t hv) (by decide) rfl ?_
            refine iincV X0.here hexec rfl 1 (hb hbytes d26) (by decide) rfl rfl ?_
            refine XS.goto X0.here hexec rfl (pc0 := 29) rfl (hb hbytes d29) (by decide) rfl ?_
            exact Steps.refl _)
          rw [succ32] at c5
          exact ih (i + 1) (by omega) (fun j hj => by
            by_cases e : j = i
            · rw [e]; exact hv
            · exact he j (by omega)) c5
        · exact ⟨25, _, 0, Or.inl rfl, Or.inr ⟨rfl, fun q => hv (q.2 i (by omega))⟩, c4.trans (by
            refine XS.icmpNo X0.here hexec rfl (hb hbytes d21) rfl (ii_eq_f hv) ?_
            refine iconstV X0.here hexec rfl 0 (hb hbytes d24) (by decide) ?_
            exact Steps.refl _)⟩
    obtain ⟨pc, Ls, v, hpc, hv, cz⟩ := loop A.slots.size 0 (by omega) (fun j hj => absurd hj (Nat.not_lt_zero j)) c3
    have nv : narrow .boolean (.int v) = .int v := by rcases hv with ⟨rfl, -⟩ | ⟨rfl, -⟩ <;> rfl
    rcases hpc with rfl | rfl
    · exact ⟨s₁, some (.int v), _, _, _, X0, rfl, rfl, rfl, (fun h => by cases h), ⟨v, rfl, hh0, hv⟩, fun fs hl => cz.trans (X0.ireturnOut hexec hret nv (Or.inr (Or.inl rfl)) (hb hbytes d25) hl)⟩
    · exact ⟨s₁, some (.int v), _, _, _, X0, rfl, rfl, rfl, (fun h => by cases h), ⟨v, rfl, hh0, hv⟩, fun fs hl => cz.trans (X0.ireturnOut hexec hret nv (Or.inr (Or.inl rfl)) (hb hbytes d33) hl)⟩
  · have c3 : Steps p.tables e below (s₁.setTop (entryFrame m #[.ref a, .ref b] 3)) (s₁.setTop (mkF m 35 #[.val (.ref a), .val (.ref b), .unset] [.int 0])) := c2.trans (by
      refine XS.icmpYes X0.here hexec rfl (pc0 := 4) rfl (hb hbytes d4) rfl (ii_ne_t (ne32 a31 b31 hs)) (by decide) rfl ?_
      refine iconstV X0.here hexec rfl 0 (hb hbytes d34) (by decide) ?_
      exact Steps.refl _)
    exact ⟨s₁, some (.int 0), _, _, _, X0, rfl, rfl, rfl, (fun h => by cases h), ⟨0, rfl, hh0, Or.inr ⟨rfl, fun q => hs q.1⟩⟩, fun fs hl => c3.trans (X0.ireturnOut hexec hret rfl (Or.inr (Or.inl rfl)) (hb hbytes d35) hl)⟩
end LEq
theorem Cod.ty {cd : Int32} {n : Nat} {f : Nat → Int32} {V : Cell} (h : Cod cd n f V) : Typed .byte V := fun i v hv => by
  have hi : i < V.slots.size := (Array.getElem?_eq_some_iff.mp hv).1
  rcases h with ⟨-, k1, k2⟩ | ⟨-, k1, k2, -⟩
  · rw [(k2 i (by omega)).1] at hv; cases hv; exact fits_lo8 _
  · rcases Nat.mod_two_eq_zero_or_one i with e | e
    · obtain ⟨j, rfl⟩ : ∃ j, i = 2 * j := ⟨i / 2, by omega⟩
      rw [(k2 j (by omega)).1] at hv; cases hv; exact fits_lo8 _
    · obtain ⟨j, rfl⟩ : ∃ j, i = 2 * j + 1 := ⟨i / 2, by omega⟩
      rw [(k2 j (by omega)).2] at hv; cases hv; exact fits_lo8 _
/-- the same text -/
def SameT (n : Nat) (f : Nat → Int32) (k : Nat) (g : Nat → Int32) : Prop := n = k ∧ ∀ j, j < n → f j = g j
theorem lo8_inj {x y : Int32} (h0 : ¬ x < 0) (h1 : ¬ 255 < x) (k0 : ¬ y < 0) (k1 : ¬ 255 < y) (h : lo8 x = lo8 y) : x = y := by
  rw [← lo8_mask h0 h1, ← lo8_mask k0 k1, h]
/-- arrays coded by one coder are equal just where the texts are -/
theorem Cod.eqv {cd : Int32} {n k : Nat} {f g : Nat → Int32} {V V' : Cell} (h : Cod cd n f V) (h' : Cod cd k g V') (hf : ∀ j, j < n → ¬ f j < 0 ∧ ¬ 65535 < f j) (hg : ∀ j, j < k → ¬ g j < 0 ∧ ¬ 65535 < g j) : EqC V V' ↔ SameT n f k g := by
  have yvv : ∀ {W : Cell} {i : Nat} {x : Int32}, W.slots[i]? = some (.int x) → yv W i = x := fun q => by unfold yv; rw [q]
  rcases h with ⟨rfl, k1, k2⟩ | ⟨rfl, k1, k2, -⟩
  · rcases h' with ⟨-, m1, m2⟩ | ⟨e, -⟩
    · constructor
      · rintro ⟨e1, e2⟩
        refine ⟨by omega, fun j hj => ?_⟩
        have q := e2 j (by omega)
        rw [yvv (k2 j hj).1, yvv (m2 j (by omega)).1] at q
        exact lo8_inj (hf j hj).1 (k2 j hj).2 (hg j (by omega)).1 (m2 j (by omega)).2 q
      · rintro ⟨rfl, e2⟩
        refine ⟨by omega, fun j hj => ?_⟩
        rw [yvv (k2 j (by omega)).1, yvv (m2 j (by omega)).1, e2 j (by omega)]
    · exact absurd e (by decide)
  · rcases h' with ⟨e, -⟩ | ⟨-, m1, m2, -⟩
    · exact absurd e (by decide)
    · constructor
      · rintro ⟨e1, e2⟩
        refine ⟨by omega, fun j hj => ?_⟩
        have q1 := e2 (2 * j) (by omega)
        have q2 := e2 (2 * j + 1) (by omega)
        rw [yvv (k2 j hj).1, yvv (m2 j (by omega)).1] at q1
        rw [yvv (k2 j hj).2, yvv (m2 j (by omega)).2] at q2
        rw [← pair_says (hf j hj).1 (hf j hj).2, ← pair_says (hg j (by omega)).1 (hg j (by omega)).2, q1, q2]
      · rintro ⟨rfl, e2⟩
        refine ⟨by omega, fun i hi => ?_⟩
        rcases Nat.mod_two_eq_zero_or_one i with e | e
        · obtain ⟨j, rfl⟩ : ∃ j, i = 2 * j := ⟨i / 2, by omega⟩
          rw [yvv (k2 j (by omega)).1, yvv (m2 j (by omega)).1, e2 j (by omega)]
        · obtain ⟨j, rfl⟩ : ∃ j, i = 2 * j + 1 := ⟨i / 2, by omega⟩
          rw [yvv (k2 j (by omega)).2, yvv (m2 j (by omega)).2, e2 j (by omega)]
/-- two codings differ: so do the texts -/
theorem Cod.dif {cd cd' : Int32} {n k : Nat} {f g : Nat → Int32} {V V' : Cell} (h : Cod cd n f V) (h' : Cod cd' k g V') (hne : ¬ cd = cd') : ¬ SameT n f k g := by
  rintro ⟨rfl, e⟩
  rcases h with ⟨rfl, -, k2⟩ | ⟨rfl, -, -, j, hj, hw⟩
  · rcases h' with ⟨rfl, -⟩ | ⟨-, -, -, j, hj, hw⟩
    · exact hne rfl
    · exact (k2 j hj).2 (by rw [e j hj]; exact hw)
  · rcases h' with ⟨-, -, m2⟩ | ⟨rfl, -⟩
    · exact (m2 j hj).2 (by rw [← e j hj]; exact hw)
    · exact hne rfl
/-- an object of exactly C is an instance of C -/
theorem cinst {p : Program} {l : Launch} {e : Env} {R : Room} {s : State} {m : MethodId} {args : Array Value} {below : List Frame} {meth : Method} {c : Code} {T : State} {locs : List Loc} {cells slots : Nat} (X : Stand p l e R s m args below meth c T locs cells slots) (hexec : p.tables.exec = Jvm.exec) {own C : String} {index : Nat} (hown : s.vm.findClass own = some m.cls) (hlink : (Cond.classLink own index C).before args s = true) {a : Addr} (hE : Exact C a T)
    {g : JFrame} (hg : g.method = m) {rest : List Value} (hstack : g.stack = .ref a :: rest) (hdg : decode c.code g.pc = .ok (.instanceof index, 3)) :
    ∃ T', Stand p l e R s m args below meth c T' locs cells slots ∧ T'.heap = T.heap ∧ ∀ target, Steps p.tables e below (T'.setTop { g with pc := g.pc + 3, stack := .int 1 :: rest }) target → Steps p.tables e below (T.setTop g) target := by
  obtain ⟨cB, h1, D, h2, h3, h4⟩ := hE
  have h1' : s.vm.findClass C = some cB := by rw [← X.warmed.alike.findClass]; exact h1
  obtain ⟨vm', X', st⟩ := X.instanceofYes hexec hown hlink h2 h4 h1' (by rw [h3]; exact Jvm.Free.SB.assignable_self _ _) hg hstack hdg
  exact ⟨_, X', rfl, st⟩
theorem cself {p : Program} {l : Launch} {e : Env} {R : Room} {s : State} {m : MethodId} {args : Array Value} {below : List Frame} {meth : Method} {c : Code} {T : State} {locs : List Loc} {cells slots : Nat} (X : Stand p l e R s m args below meth c T locs cells slots) (hexec : p.tables.exec = Jvm.exec) {own C : String} {index : Nat} (hown : s.vm.findClass own = some m.cls) (hlink : (Cond.classLink own index C).before args s = true) {a : Addr} (hE : Exact C a T)
    {g : JFrame} (hg : g.method = m) {rest : List Value} (hstack : g.stack = .ref a :: rest) (hdg : decode c.code g.pc = .ok (.checkcast index, 3)) :
    ∃ T', Stand p l e R s m args below meth c T' locs cells slots ∧ T'.heap = T.heap ∧ ∀ target, Steps p.tables e below (T'.setTop { g with pc := g.pc + 3, stack := .ref a :: rest }) target → Steps p.tables e below (T.setTop g) target := by
  obtain ⟨cB, h1, D, h2, h3, h4⟩ := hE
  have h1' : s.vm.findClass C = some cB := by rw [← X.warmed.alike.findClass]; exact h1
  obtain ⟨vm', X', st⟩ := X.checkcastYes hexec hown hlink h2 h4 h1' (by rw [h3]; exact Jvm.Free.SB.assignable_self _ _) hg hstack hdg
  exact ⟨_, X', rfl, fun t h => st t (by rw [← hstack] at h; exact h)⟩
namespace SEq
def yN : MethodName := ⟨"java/lang/String", "equals", "(Ljava/lang/Object;)Z"⟩
abbrev yB : ByteArray := jdk_42_method_66_code
theorem d0 : decode yB 0 = .ok (.aload_n 0, 1) := by decide +kernel
theorem d1 : decode yB 1 = .ok (.aload_n 1, 1) := by decide +kernel
theorem d2 : decode yB 2 = .ok (.if_acmp (.ne) 5, 3) := by decide +kernel
theorem d5 : decode yB 5 = .ok (.iconst 1, 1) := by decide +kernel
theorem d6 : decode yB 6 = .ok (.ireturn, 1) := by decide +kernel
theorem d7 : decode yB 7 = .ok (.aload_n 1, 1) := by decide +kernel
theorem d8 : decode yB 8 = .ok (.instanceof 10, 3) := by decide +kernel
theorem d11 : decode yB 11 = .ok (.ifCond (.eq) 43, 3) := by decide +kernel
theorem d14 : decode yB 14 = .ok (.aload_n 1, 1) := by decide +kernel
theorem d15 : decode yB 15 = .ok (.checkcast 10, 3) := by decide +kernel
theorem d18 : decode yB 18 = .ok (.astore_n 2, 1) := by decide +kernel
theorem d19 : decode yB 19 = .ok (.getstatic 38, 3) := by decide +kernel
theorem d22 : decode yB 22 = .ok (.ifCond (.eq) 14, 3) := by decide +kernel
theorem d25 : decode yB 25 = .ok (.aload_n 0, 1) := by decide +kernel
theorem d26 : decode yB 26 = .ok (.getfield 15, 3) := by decide +kernel
theorem d29 : decode yB 29 = .ok (.aload_n 2, 1) := by decide +kernel
theorem d30 : decode yB 30 = .ok (.getfield 15, 3) := by decide +kernel
theorem d33 : decode yB 33 = .ok (.if_icmp (.ne) 21, 3) := by decide +kernel
theorem d36 : decode yB 36 = .ok (.aload_n 0, 1) := by decide +kernel
theorem d37 : decode yB 37 = .ok (.getfield 9, 3) := by decide +kernel
theorem d40 : decode yB 40 = .ok (.aload_n 2, 1) := by decide +kernel
theorem d41 : decode yB 41 = .ok (.getfield 9, 3) := by decide +kernel
theorem d44 : decode yB 44 = .ok (.invokestatic 541, 3) := by decide +kernel
theorem d47 : decode yB 47 = .ok (.ifCond (.eq) 7, 3) := by decide +kernel
theorem d50 : decode yB 50 = .ok (.iconst 1, 1) := by decide +kernel
theorem d51 : decode yB 51 = .ok (.goto 4, 3) := by decide +kernel
theorem d54 : decode yB 54 = .ok (.iconst 0, 1) := by decide +kernel
theorem d55 : decode yB 55 = .ok (.ireturn, 1) := by decide +kernel
def site : List Cond := [.classLink "java/lang/String" 10 "java/lang/String", .fieldLink "java/lang/String" 38 "java/lang/String" "COMPACT_STRINGS" "Z", .fieldLink "java/lang/String" 15 "java/lang/String" "coder" "B", .fieldLink "java/lang/String" 9 "java/lang/String" "value" "[B", LEq.tab] ++ staticW "java/lang/String" 541 LEq.yN
def tab : Cond := tabOf yN yB 3 (some .boolean) site
def P (x t : Addr) (V : Cell) (cd : Int32) (n : Nat) (f : Nat → Int32) (y t' : Addr) (V' : Cell) (cd' : Int32) (k : Nat) (g : Nat → Int32) (z : Int32) (args : Array Value) (s : State) : Prop := args = #[.ref x, .ref y] ∧ Txt x t V cd n f s ∧ Txt y t' V' cd' k g s ∧ StaticIs s "java/lang/String" "COMPACT_STRINGS" "Z" (.int z) ∧ ¬ z = 0
/-- equals(Object) of two Strings: whether the texts are the same -/
theorem law (l : Launch) (x t : Addr) (V : Cell) (cd : Int32) (n : Nat) (f : Nat → Int32) (y t' : Addr) (V' : Cell) (cd' : Int32) (k : Nat) (g : Nat → Int32) (z : Int32) : Law l yN 2 1 1 14 yB 3 (some .boolean) site (P x t V cd n f y t' V' cd' k g z) (Says01 (SameT n f k g)) [] 0 0 := by
  refine Law.of_walk (plainFor_of_name (by decide +kernel)) (by decide +kernel) (by decide +kernel) (by decide) (fun _ _ h => by rw [h.1]; rfl) (fun _ U U' hal hh h => ⟨h.1, h.2.1.mv hal hh, h.2.2.1.mv hal hh, h.2.2.2.1.there hal hh, h.2.2.2.2⟩) (fun r U U' V V' h1 hal h2 h => Says01.mv r U U' V V' h1 hal h2 h) ?_
  intro p e s m args below meth c s₁ X0 hexec hbytes hml hret hlk hnm hown hh0 W hP
  obtain ⟨rfl, hx, hy, s1, hz⟩ := hP
  have c1 : Steps p.tables e below (s₁.setTop (entryFrame m #[.ref x, .ref y] 3)) (s₁.setTop (mkF m 2 #[.val (.ref x), .val (.ref y), .unset] [.ref y, .ref x])) := Steps.trans (entry rfl) (by
    show Steps p.tables e below (s₁.setTop (mkF m 0 #[.val (.ref x), .val (.ref y), .unset] [])) _
    refine XS.aloadN X0.here hexec rfl (hb hbytes d0) rfl rfl ?_
    refine XS.aloadN X0.here hexec rfl (hb hbytes d1) rfl rfl ?_
    exact Steps.refl _)
  by_cases hxy : x = y
  · have c2 : Steps p.tables e below (s₁.setTop (entryFrame m #[.ref x, .ref y] 3)) (s₁.setTop (mkF m 6 #[.val (.ref x), .val (.ref y), .unset] [.int 1])) := c1.trans (by
      refine acmpNo X0.here hexec rfl (hb hbytes d2) rfl rfl rfl (by simp [acmp, hxy]) ?_
      refine iconstV X0.here hexec rfl 1 (hb hbytes d5) (by decide) ?_
      exact Steps.refl _)
    subst hxy
    have ec : cd = cd' := by
      obtain ⟨D, fd, a1, a2, a3⟩ := hx.2.2.1
      obtain ⟨D', fd', b1, b2, b3⟩ := hy.2.2.1
      cases a1.symm.trans b1
      obtain ⟨q1, q2, q3, q4⟩ := a2.1
      obtain ⟨r1, r2, r3, r4⟩ := b2.1
      cases q4.symm.trans r4
      cases a3.symm.trans b3; rfl
    have et : t = t' := by
      obtain ⟨D, fd, a1, a2, a3⟩ := hx.2.1
      obtain ⟨D', fd', b1, b2, b3⟩ := hy.2.1
      cases a1.symm.trans b1
      obtain ⟨q1, q2, q3, q4⟩ := a2.1
      obtain ⟨r1, r2, r3, r4⟩ := b2.1
      cases q4.symm.trans r4
      cases a3.symm.trans b3; rfl
    subst ec et
    have ev : V = V' := by cases hx.2.2.2.1.1.symm.trans hy.2.2.2.1.1; rfl
    subst ev
    have hs : SameT n f k g := (Cod.eqv hx.2.2.2.2.1 hy.2.2.2.2.1 hx.2.2.2.2.2 hy.2.2.2.2.2).mp ⟨rfl, fun _ _ => rfl⟩
    exact ⟨s₁, some (.int 1), _, _, _, X0, rfl, rfl, rfl, (fun h => by cases h), ⟨1, rfl, hh0, Or.inl ⟨rfl, hs⟩⟩, fun fs hl => c2.trans (X0.ireturnOut hexec hret rfl (Or.inr (Or.inl rfl)) (hb hbytes d6) hl)⟩
  · have c2 : Steps p.tables e below (s₁.setTop (entryFrame m #[.ref x, .ref y] 3)) (s₁.setTop (mkF m 8 #[.val (.ref x), .val (.ref y), .unset] [.ref y])) := c1.trans (by
      refine acmpYes X0.here hexec rfl (pc0 := 2) rfl (hb hbytes d2) rfl rfl rfl (by simp [acmp, hxy]) (by decide) rfl ?_
      refine XS.aloadN X0.here hexec rfl (hb hbytes d7) rfl rfl ?_
      exact Steps.refl _)
    obtain ⟨T3, X3, q3, st3⟩ := cinst X0 hexec hown (wk W (.classLink "java/lang/String" 10 "java/lang/String")) (hy.mv X0.warmed.alike hh0).1 (g := (mkF m 8 #[.val (.ref x), .val (.ref y), .unset] [.ref y])) rfl (rest := []) rfl (hb hbytes d8)
    have hh3 := q3.trans hh0
    have c4 : Steps p.tables e below (s₁.setTop (entryFrame m #[.ref x, .ref y] 3)) (T3.setTop (mkF m 15 #[.val (.ref x), .val (.ref y), .unset] [.ref y])) := (c2.trans (st3 _ (Steps.refl _))).trans (by
      refine XS.ifNo X3.here hexec rfl (hb hbytes d11) rfl (i0_eq_f (by decide)) ?_
      refine XS.aloadN X3.here hexec rfl (hb hbytes d14) rfl rfl ?_
      exact Steps.refl _)
    obtain ⟨T5, X5, q5, st5⟩ := cself X3 hexec hown (wk W (.classLink "java/lang/String" 10 "java/lang/String")) (hy.mv X3.warmed.alike hh3).1 (g := (mkF m 15 #[.val (.ref x), .val (.ref y), .unset] [.ref y])) rfl (rest := []) rfl (hb hbytes d15)
    have hh5 := q5.trans hh3
    have c6 : Steps p.tables e below (s₁.setTop (entryFrame m #[.ref x, .ref y] 3)) (T5.setTop (mkF m 19 #[.val (.ref x), .val (.ref y), .val (.ref y)] [])) := (c4.trans (st5 _ (Steps.refl _))).trans (by
      refine XS.astoreN X5.here hexec rfl (hb hbytes d18) rfl rfl rfl ?_
      exact Steps.refl _)
    obtain ⟨T7, X7, q7, st7⟩ := X5.sget hexec hown (wk W (.fieldLink "java/lang/String" 38 "java/lang/String" "COMPACT_STRINGS" "Z")) s1 (fun _ _ h => by rw [hh5]; exact h) (g := (mkF m 19 #[.val (.ref x), .val (.ref y), .val (.ref y)] [])) rfl (hb hbytes d19)
    have hh7 := q7.trans hh5
    have c8 : Steps p.tables e below (s₁.setTop (entryFrame m #[.ref x, .ref y] 3)) (T7.setTop (mkF m 26 #[.val (.ref x), .val (.ref y), .val (.ref y)] [.ref x])) := (c6.trans (st7 _ (Steps.refl _))).trans (by
      refine XS.ifNo X7.here hexec rfl (hb hbytes d22) rfl (i0_eq_f hz) ?_
      refine XS.aloadN X7.here hexec rfl (hb hbytes d25) rfl rfl ?_
      exact Steps.refl _)
    obtain ⟨T9, X9, q9, st9⟩ := X7.hget hexec hown (wk W (.fieldLink "java/lang/String" 15 "java/lang/String" "coder" "B")) (hx.mv X7.warmed.alike hh7).2.2.1 (g := (mkF m 26 #[.val (.ref x), .val (.ref y), .val (.ref y)] [.ref x])) rfl (rest := []) rfl (hb hbytes d26)
    have hh9 := q9.trans hh7
    have c10 : Steps p.tables e below (s₁.setTop (entryFrame m #[.ref x, .ref y] 3)) (T9.setTop (mkF m 30 #[.val (.ref x), .val (.ref y), .val (.ref y)] [.ref y, .int cd])) := (c8.trans (st9 _ (Steps.refl _))).trans (by
      refine XS.aloadN X9.here hexec rfl (hb hbytes d29) rfl rfl ?_
      exact Steps.refl _)
    obtain ⟨T11, X11, q11, st11⟩ := X9.hget hexec hown (wk W (.fieldLink "java/lang/String" 15 "java/lang/String" "coder" "B")) (hy.mv X9.warmed.alike hh9).2.2.1 (g := (mkF m 30 #[.val (.ref x), .val (.ref y), .val (.ref y)] [.ref y, .int cd])) rfl (rest := [.int cd]) rfl (hb hbytes d30)
    have hh11 := q11.trans hh9
    have c12 : Steps p.tables e below (s₁.setTop (entryFrame m #[.ref x, .ref y] 3)) (T11.setTop (mkF m 33 #[.val (.ref x), .val (.ref y), .val (.ref y)] [.int cd', .int cd])) := c10.trans (st11 _ (Steps.refl _))
    by_cases hcd : cd = cd'
    · subst hcd
      have c13 : Steps p.tables e below (s₁.setTop (entryFrame m #[.ref x, .ref y] 3)) (T11.setTop (mkF m 37 #[.val (.ref x), .val (.ref y), .val (.ref y)] [.ref x])) := c12.trans (by
        refine XS.icmpNo X11.here hexec rfl (hb hbytes d33) rfl (ii_ne_f rfl) ?_
        refine XS.aloadN X11.here hexec rfl (hb hbytes d36) rfl rfl ?_
        exact Steps.refl _)
      obtain ⟨T14, X14, q14, st14⟩ := X11.hget hexec hown (wk W (.fieldLink "java/lang/String" 9 "java/lang/String" "value" "[B")) (hx.mv X11.warmed.alike hh11).2.1 (g := (mkF m 37 #[.val (.ref x), .val (.ref y), .val (.ref y)] [.ref x])) rfl (rest := []) rfl (hb hbytes d37)
      have hh14 := q14.trans hh11
      have c15 : Steps p.tables e below (s₁.setTop (entryFrame m #[.ref x, .ref y] 3)) (T14.setTop (mkF m 41 #[.val (.ref x), .val (.ref y), .val (.ref y)] [.ref y, .ref t])) := (c13.trans (st14 _ (Steps.refl _))).trans (by
        refine XS.aloadN X14.here hexec rfl (hb hbytes d40) rfl rfl ?_
        exact Steps.refl _)
      obtain ⟨T16, X16, q16, st16⟩ := X14.hget hexec hown (wk W (.fieldLink "java/lang/String" 9 "java/lang/String" "value" "[B")) (hy.mv X14.warmed.alike hh14).2.1 (g := (mkF m 41 #[.val (.ref x), .val (.ref y), .val (.ref y)] [.ref y, .ref t])) rfl (rest := [.ref t]) rfl (hb hbytes d41)
      have hh16 := q16.trans hh14
      have c17 : Steps p.tables e below (s₁.setTop (entryFrame m #[.ref x, .ref y] 3)) (T16.setTop (mkF m 44 #[.val (.ref x), .val (.ref y), .val (.ref y)] [.ref t', .ref t])) := c15.trans (st16 _ (Steps.refl _))
      obtain ⟨v18, T18, X18, E18, g18⟩ := X16.callS hexec (LEq.law l t V t' V') hown (wks W (staticW "java/lang/String" 541 LEq.yN)) (wk W LEq.tab) (W := 0) (Nat.le_of_ble_eq_true rfl) (Nat.le_of_ble_eq_true rfl) (Nat.le_refl _) (Nat.le_refl _) (g := (mkF m 44 #[.val (.ref x), .val (.ref y), .val (.ref y)] [.ref t', .ref t])) rfl (by rw [hml]; rfl) c17 (argsL := [.ref t, .ref t']) (rest := []) rfl rfl (by show 2 * 0 + 0 ≤ _; decide) (hb hbytes d44) (⟨rfl, hx.2.2.2.1.mv X16.warmed.alike hh16, hx.2.2.2.2.1.ty, hy.2.2.2.1.mv X16.warmed.alike hh16, hy.2.2.2.2.1.ty⟩)
      obtain ⟨v, rfl, q18, hv⟩ := E18
      have iff := Cod.eqv hx.2.2.2.2.1 hy.2.2.2.2.1 hx.2.2.2.2.2 hy.2.2.2.2.2
      rcases hv with ⟨rfl, he⟩ | ⟨rfl, he⟩
      · have c19 : Steps p.tables e below (s₁.setTop (entryFrame m #[.ref x, .ref y] 3)) (T18.setTop (mkF m 55 #[.val (.ref x), .val (.ref y), .val (.ref y)] [.int 1])) := Steps.trans g18 (by
          refine XS.ifNo X18.here hexec rfl (hb hbytes d47) rfl (i0_eq_f (by decide)) ?_
          refine iconstV X18.here hexec rfl 1 (hb hbytes d50) (by decide) ?_
          refine XS.goto X18.here hexec rfl (pc0 := 51) rfl (hb hbytes d51) (by decide) rfl ?_
          exact Steps.refl _)
        exact ⟨T18, some (.int 1), _, _, _, X18, rfl, rfl, rfl, (fun h => by cases h), ⟨1, rfl, q18.trans hh16, Or.inl ⟨rfl, iff.mp he⟩⟩, fun fs hl => c19.trans (X18.ireturnOut hexec hret rfl (Or.inr (Or.inl rfl)) (hb hbytes d55) hl)⟩
      · have c19 : Steps p.tables e below (s₁.setTop (entryFrame m #[.ref x, .ref y] 3)) (T18.setTop (mkF m 55 #[.val (.ref x), .val (.ref y), .val (.ref y)] [.int 0])) := Steps.trans g18 (by
          refine XS.ifYes X18.here hexec rfl (pc0 := 47) rfl (hb hbytes d47) rfl (i0_eq_t rfl) (by decide) rfl ?_
          refine iconstV X18.here hexec rfl 0 (hb hbytes d54) (by decide) ?_
          exact Steps.refl _)
        exact ⟨T18, some (.int 0), _, _, _, X18, rfl, rfl, rfl, (fun h => by cases h), ⟨0, rfl, q18.trans hh16, Or.inr ⟨rfl, fun q => he (iff.mpr q)⟩⟩, fun fs hl => c19.trans (X18.ireturnOut hexec hret rfl (Or.inr (Or.inl rfl)) (hb hbytes d55) hl)⟩
    · have c13 : Steps p.tables e below (s₁.setTop (entryFrame m #[.ref x, .ref y] 3)) (T11.setTop (mkF m 55 #[.val (.ref x), .val (.ref y), .val (.ref y)] [.int 0])) := c12.trans (by
        refine XS.icmpYes X11.here hexec rfl (pc0 := 33) rfl (hb hbytes d33) rfl (ii_ne_t hcd) (by decide) rfl ?_
        refine iconstV X11.here hexec rfl 0 (hb hbytes d54) (by decide) ?_
        exact Steps.refl _)
      exact ⟨T11, some (.int 0), _, _, _, X11, rfl, rfl, rfl, (fun h => by cases h), ⟨0, rfl, hh11, Or.inr ⟨rfl, Cod.dif hx.2.2.2.2.1 hy.2.2.2.2.1 hcd⟩⟩, fun fs hl => c13.trans (X11.ireturnOut hexec hret rfl (Or.inr (Or.inl rfl)) (hb hbytes d55) hl)⟩
theorem pays {l : Launch} {R : Room} {p : Program} {e : Env} {below : List Frame} {s : State} {sargs : Array Value} {len W : Nat} (x t : Addr) (V : Cell) (cd : Int32) (n : Nat) (f : Nat → Int32) (y t' : Addr) (V' : Cell) (cd' : Int32) (k : Nat) (g : Nat → Int32) (z : Int32) (htab : tab.before sargs s = true) (hfr : 2 ≤ R.frames) (hlo : W + 28 ≤ R.locals) :
    Back l R p e below s sargs yN len W (fun A₁ a₁ => A₁.cells + 0 ≤ R.cells ∧ A₁.slots + 0 ≤ R.slots ∧ P x t V cd n f y t' V' cd' k g z a₁ A₁.U) (fun A₁ _ v₁ B₁ => Says01 (SameT n f k g) v₁ A₁.U B₁.U ∧ B₁.locs = A₁.locs ++ [] ∧ B₁.cells = A₁.cells + 0 ∧ B₁.slots = A₁.slots + 0) :=
  (law l x t V cd n f y t' V' cd' k g z).pays htab hfr (by omega)
end SEq
end StrChars
namespace StrChars.Road
open Jvm Sem ClassFile Op Lib Jvm.Stand Jvm.Free Jvm.Free.XT
open Jvm.Lib.Cold (StaticIs)
/-- the words of String.equals(Object) -/
abbrev wordsEq : List Jvm.Cond := [.code SEq.yN SEq.yB 3 (some .boolean), .initialized ST, .classLink ST 10 ST, .fieldLink ST 38 ST "COMPACT_STRINGS" "Z", .fieldLink ST 15 ST "coder" "B", .fieldLink ST 9 ST "value" "[B", .methodLink ST 541 LEq.yN, .static LEq.yN, .code LEq.yN LEq.yB 3 (some .boolean), .initialized "java/lang/StringLatin1"]
theorem tabEq_of {a : Array Value} {s : State} (h : ∀ w ∈ wordsEq, w.before a s = true) : SEq.tab.before a s = true := by
  have hl : LEq.tab.before a s = true := unparts (wk h (.code LEq.yN LEq.yB 3 (some .boolean))) (wks h (.initialized LEq.yN.cls :: LEq.site))
  have q := consq hl h
  exact unparts (wk q (.code SEq.yN SEq.yB 3 (some .boolean))) (wks q (.initialized SEq.yN.cls :: SEq.site))
theorem movedEq {Z s : State} {a0 args : Array Value} (hZ : Z.Warmed39 s.vm) (hw : ∀ d ∈ wordsEq, d.before a0 Z = true) : ∀ d ∈ wordsEq, d.before args s = true := fun d hd => by
  have t : ∀ d ∈ wordsEq, (d.onTables && d.keepsFace) = true := by decide +kernel
  exact RoadKit.mv hZ (hw d hd) (t d hd)
/-- the road's facts of a String, as the laws ask it -/
theorem txt_of {Z U : State} {a0 : Array Value} {kI : Nat} (wi : (Jvm.Cond.instantiable ST kI).before a0 Z = true) (al : Z.vm.Alike U.vm) {x t : Addr} {kb : ClassId} {cs : List Int32} {cd N2 : Int32} {vs : List Value} (E : RoadKit.Exa Z U.heap x ST) (V : RoadKit.Fld Z U.heap x ST "value" "[B" (.ref t)) (C : RoadKit.Fld Z U.heap x ST "coder" "B" (.int cd)) (K : RoadKit.Arv Z U.heap t kb .byte N2 vs (.int 0)) (hc : CodA cs cd N2 vs) (hb : ∀ c ∈ cs, ¬ c < 0 ∧ ¬ (65535 : Int32) < c) (l2 : cs.length ≤ 4000) :
    ∃ A, Txt x t A cd cs.length (fun j => cs.getD j 0) U := by
  obtain ⟨A, K1, K2, K3, K4, K5, K6⟩ := K
  have hcod := hc.cod (by omega) K3 K5
  obtain ⟨D, fV, fC, hB, F1, F2, g1, g2, -, -⟩ := strObj wi al E V C
  exact ⟨A, ⟨_, hB.2.2.1, D, hB.1, rfl, by cases q : D.vm <;> first | rfl | exact absurd q (hB.2.1.2 _)⟩, Has.of hB F1 g1, Has.of hB F2 g2, ⟨K1.1, State.isArrayOf_alike al K1.2.1, K1.2.2, by rcases hcod with ⟨-, q, -⟩ | ⟨-, q, -⟩ <;> omega⟩, hcod, fun j hj => by
    have e : cs.getD j 0 = cs[j] := by simp [List.getD_eq_getElem?_getD, hj]
    show ¬ cs.getD j 0 < 0 ∧ ¬ 65535 < cs.getD j 0
    rw [e]; exact hb _ (List.getElem_mem _)⟩
theorem same_list (cs ds : List Int32) : SameT cs.length (fun j => cs.getD j 0) ds.length (fun j => ds.getD j 0) ↔ cs = ds := by
  constructor
  · rintro ⟨e, q⟩
    refine List.ext_getElem e fun j h1 h2 => ?_
    have := q j h1
    simpa [List.getD_eq_getElem?_getD, h1, h2] using this
  · rintro rfl
    exact ⟨rfl, fun _ _ => rfl⟩
/-- **equals(Object) OF TWO SUCH STRINGS**: 1 just where the chars are the same -/
theorem eqW {p : Program} {l : Launch} {e : Env} {R : Room} {s : State} {args : Array Value} {below : List Frame} {len W : Nat} {Z : State} {a0 : Array Value} {h : Heap} (hZ : Z.Warmed39 s.vm) (hw : ∀ d ∈ wordsEq, d.before a0 Z = true) {kI : Nat} (wi : (Jvm.Cond.instantiable ST kI).before a0 Z = true)
    {x t : Addr} {kb : ClassId} {cs : List Int32} {cd N2 : Int32} {vs : List Value} (E : RoadKit.Exa Z h x ST) (V : RoadKit.Fld Z h x ST "value" "[B" (.ref t)) (C : RoadKit.Fld Z h x ST "coder" "B" (.int cd)) (K : RoadKit.Arv Z h t kb .byte N2 vs (.int 0)) (hc : CodA cs cd N2 vs) (hb : ∀ c ∈ cs, ¬ c < 0 ∧ ¬ (65535 : Int32) < c) (l2 : cs.length ≤ 4000)
    {y t' : Addr} {kb' : ClassId} {ds : List Int32} {cd' N2' : Int32} {vs' : List Value} (E' : RoadKit.Exa Z h y ST) (V' : RoadKit.Fld Z h y ST "value" "[B" (.ref t')) (C' : RoadKit.Fld Z h y ST "coder" "B" (.int cd')) (K' : RoadKit.Arv Z h t' kb' .byte N2' vs' (.int 0)) (hc' : CodA ds cd' N2' vs') (hb' : ∀ c ∈ ds, ¬ c < 0 ∧ ¬ (65535 : Int32) < c) (l2' : ds.length ≤ 4000)
    {z : Int32} (S : RoadKit.Sta Z h ST "COMPACT_STRINGS" "Z" (.int z)) (hz : ¬ z = 0) (hfr : 2 ≤ R.frames) (hlo : W + 28 ≤ R.locals) :
    Back l R p e below s args (⟨"java/lang/String", "equals", "(Ljava/lang/Object;)Z"⟩ : MethodName) len W (fun P a => a = #[.ref x, .ref y] ∧ P.U.heap = h ∧ P.cells + 0 ≤ R.cells ∧ P.slots + 0 ≤ R.slots)
      (fun P _ v B => ∃ L, (((v = some (.int 1) ∧ cs = ds) ∨ (v = some (.int 0) ∧ ¬ cs = ds)) ∧ L = [] ∧ B.U.heap = h) ∧ B.locs = P.locs ++ L ∧ B.cells = P.cells + 0 ∧ B.slots = P.slots + 0) := by
  intro m meth c P g ig mk a X hg hsize hdg hW hn hp'
  obtain ⟨rfl, rfl, r1, r2⟩ := hp'
  have al : Z.vm.Alike P.U.vm := hZ.alike.trans X.warmed.alike
  obtain ⟨A, hx⟩ := txt_of wi al E V C K hc hb l2
  obtain ⟨A', hy⟩ := txt_of wi al E' V' C' K' hc' hb' l2'
  obtain ⟨v, B, X', ⟨⟨w, hv, hh, hq⟩, hl, hk, hs⟩, st⟩ := SEq.pays x t A cd cs.length (fun j => cs.getD j 0) y t' A' cd' ds.length (fun j => ds.getD j 0) z (tabEq_of (movedEq hZ hw)) hfr hlo m meth c P g ig mk _ X hg hsize hdg hW hn ⟨r1, r2, rfl, hx, hy, sta_is al S, hz⟩
  refine ⟨v, B, X', ⟨[], ⟨?_, rfl, hh⟩, hl, hk, hs⟩, st⟩
  rcases hq with ⟨rfl, q⟩ | ⟨rfl, q⟩
  · exact Or.inl ⟨hv, (same_list cs ds).mp q⟩
  · exact Or.inr ⟨hv, fun e => q ((same_list cs ds).mpr e)⟩
end StrChars.Road
namespace StrChars.Road
open Jvm Sem ClassFile Op Lib Jvm.Stand Jvm.Free Jvm.Free.XT
open Jvm.Lib.Cold (StaticIs)
/-- what backV says of its String, as the contracts of this text ask it: cs's low bytes, coder 0 -/
theorem codOf {cs : List Int32} {n : Nat} (hn : cs.length = n) (hb : ∀ c ∈ cs, ¬ 255 < c) : CodA cs 0 (Int32.ofNat n) ((cs.map lo8).map Value.int) := Or.inl ⟨rfl, by rw [hn], by simp [List.map_map, Function.comp_def], hb⟩
end StrChars.Road
end Jvm.Pilot.@@N@@
namespace Jvm.Pilot.@@N@@
open Jvm Jvm.ClassFile Sem Op Lib Jvm.Free Jvm.Stand Jvm.LawKit Jvm.RoadKit Bundle Jvm.Pilot.@@N@@.Jvm.D
/-- the road from here on ends, and G holds of its end -/
def Go (p : Program) (e : Env) (below : List Frame) (G : Outcome → State → Prop) (T : State) (g : JFrame) : Prop :=
  ∃ U o, Steps p.tables e below (T.setTop g) U ∧ U.status = .running ∧ Ended U below o ∧ G o U
/-- what a body leaves: it returned v, Q holds, the frame is kept -/
def Out (s : State) (Q : Option Value → Heap → List Loc → Prop) (C S : Nat) (o : Outcome) (U : State) : Prop :=
  ∃ v L, o = .returned v ∧ Q v U.heap L ∧ FrameEnd s o U L C S
section GoLaws
variable {p : Program} {l : Launch} {e : Env} {R : Room} {s : State} {m : MethodId} {args : Array Value} {below : List Frame} {meth : Method} {c : Code} {T T' : State} {locs : List Loc} {cells slots : Nat} {g g' : JFrame} {G : Outcome → State → Prop} {Q : Option Value → Heap → List Loc → Prop} {C S : Nat}
theorem Go.by (st : ∀ t, Steps p.tables e below (T'.setTop g') t → Steps p.tables e below (T.setTop g) t) (k : Go p e below G T' g') : Go p e below G T g := by
  obtain ⟨U, o, h, r⟩ := k
  exact ⟨U, o, st _ h, r⟩
theorem Go.tr (st : Steps p.tables e below (T.setTop g) (T'.setTop g')) (k : Go p e below G T' g') : Go p e below G T g := by
  obtain ⟨U, o, h, r⟩ := k
  exact ⟨U, o, st.trans h, r⟩
theorem Go.cast (q : g = g') (k : Go p e below G T g') : Go p e below G T g := by subst q; exact k
theorem Go.ends (X : Stand p l e R s m args below meth c T locs cells slots) {v : Option Value} (hlk : meth.locks = false) (hv : meth.sig.returnType = none → v = none)
    (st : ∀ fs, (∀ (f : JFrame) (acts : List Action), f.method = m → f.locked = none → f.entered = [] → (doReturn e (T.setTop f) acts v).1 = T.setFrames fs) → Steps p.tables e below (T.setTop g) (T.setFrames fs))
    (hQ : Q v T.heap locs) (hc : cells ≤ C) (hs : slots ≤ S) : Go p e below (Out s Q C S) T g := by
  obtain ⟨fs, hr, hrun, hended, hW, hsame⟩ := X.leave (v := v) hv hlk
  exact ⟨_, _, st fs hr, hrun, hended, _, _, rfl, hQ, ⟨_, rfl⟩, hW, hsame.mono hc hs⟩
theorem Go.ret0 (X : Stand p l e R s m args below meth c T locs cells slots) (hx : p.tables.exec = Jvm.exec) (hret : meth.sig.returnType = none) (hlk : meth.locks = false) {pc : Nat} {Ls : Array Slot} (hd : decode c.code pc = .ok (.return_, 1))
    (hQ : Q none T.heap locs) (hc : cells ≤ C) (hs : slots ≤ S) : Go p e below (Out s Q C S) T (mkF m pc Ls []) :=
  Go.ends X hlk (fun _ => rfl) (fun fs hr => X.returnOut hx hret hd hr) hQ hc hs
theorem Go.retN (X : Stand p l e R s m args below meth c T locs cells slots) (hx : p.tables.exec = Jvm.exec) {t : FieldType} (hret : meth.sig.returnType = some t) (ht : t = .boolean ∨ t = .byte ∨ t = .char ∨ t = .short) (hlk : meth.locks = false) {pc : Nat} {Ls : Array Slot} {z : Int32} {rest : List Value} (hd : decode c.code pc = .ok (.ireturn, 1))
    (hQ : Q (some (.int (nar t z))) T.heap locs) (hc : cells ≤ C) (hs : slots ≤ S) : Go p e below (Out s Q C S) T (mkF m pc Ls (.int z :: rest)) :=
  Go.ends X hlk (fun h => by rw [hret] at h; cases h) (fun fs hr => RoadKit.retN X hx hret ht hd hr) hQ hc hs
theorem Go.retI (X : Stand p l e R s m args below meth c T locs cells slots) (hx : p.tables.exec = Jvm.exec) (hret : meth.sig.returnType = some .int) (hlk : meth.locks = false) {pc : Nat} {Ls : Array Slot} {z : Int32} {rest : List Value} (hd : decode c.code pc = .ok (.ireturn, 1))
    (hQ : Q (some (.int z)) T.heap locs) (hc : cells ≤ C) (hs : slots ≤ S) : Go p e below (Out s Q C S) T (mkF m pc Ls (.int z :: rest)) :=
  Go.ends X hlk (fun h => by rw [hret] at h; cases h) (fun fs hr => retOut X hx hret rfl (Or.inl ⟨rfl, Or.inl rfl, z, rfl⟩) hd hr) hQ hc hs
theorem Go.retL (X : Stand p l e R s m args below meth c T locs cells slots) (hx : p.tables.exec = Jvm.exec) (hret : meth.sig.returnType = some .long) (hlk : meth.locks = false) {pc : Nat} {Ls : Array Slot} {z : Int64} {rest : List Value} (hd : decode c.code pc = .ok (.lreturn, 1))
    (hQ : Q (some (.long z)) T.heap locs) (hc : cells ≤ C) (hs : slots ≤ S) : Go p e below (Out s Q C S) T (mkF m pc Ls (.long z :: rest)) :=
  Go.ends X hlk (fun h => by rw [hret] at h; cases h) (fun fs hr => retOut X hx hret rfl (Or.inr (Or.inl ⟨rfl, rfl, z, rfl⟩)) hd hr) hQ hc hs
theorem Go.retD (X : Stand p l e R s m args below meth c T locs cells slots) (hx : p.tables.exec = Jvm.exec) (hret : meth.sig.returnType = some .double) (hlk : meth.locks = false) {pc : Nat} {Ls : Array Slot} {z : UInt64} {rest : List Value} (hd : decode c.code pc = .ok (.dreturn, 1))
    (hQ : Q (some (.double z)) T.heap locs) (hc : cells ≤ C) (hs : slots ≤ S) : Go p e below (Out s Q C S) T (mkF m pc Ls (.double z :: rest)) :=
  Go.ends X hlk (fun h => by rw [hret] at h; cases h) (fun fs hr => retOut X hx hret rfl (Or.inr (Or.inr (Or.inl ⟨rfl, rfl, z, rfl⟩))) hd hr) hQ hc hs
theorem Go.retR (X : Stand p l e R s m args below meth c T locs cells slots) (hx : p.tables.exec = Jvm.exec) {t : FieldType} {w : Value} (hret : meth.sig.returnType = some t) (hn : narrow t w = w) (ht : t.isReference = true) (hw : w.isRef = true) (hlk : meth.locks = false) {pc : Nat} {Ls : Array Slot} {rest : List Value} (hd : decode c.code pc = .ok (.areturn, 1))
    (hQ : Q (some w) T.heap locs) (hc : cells ≤ C) (hs : slots ≤ S) : Go p e below (Out s Q C S) T (mkF m pc Ls (w :: rest)) :=
  Go.ends X hlk (fun h => by rw [hret] at h; cases h) (fun fs hr => retOut X hx hret hn (Or.inr (Or.inr (Or.inr (Or.inr ⟨rfl, ht, hw⟩)))) hd hr) hQ hc hs
theorem Stand_grow {cells' slots' : Nat} (X : Stand p l e R s m args below meth c T locs cells slots) (hc : cells ≤ cells') (hs : slots ≤ slots') : Stand p l e R s m args below meth c T locs cells' slots' :=
  { X with same := X.same.mono hc hs }
end GoLaws
theorem ne_arv {Z : State} {h : Heap} {a b : Addr} {C : String} {a0 : Array Value} {k : Nat} {kc : ClassId} {ty : FieldType} {z : Int32} {vs : List Value} {dv : Value} (F : Exa Z h a C) (wi : (Jvm.Cond.instantiable C k).before a0 Z = true) (G : Arv Z h b kc ty z vs dv) : a ≠ b := by
  obtain ⟨c, A, -⟩ := G
  exact ne_arr F wi A
theorem chars_lo (x : Int32) : ¬ nar .char ((x &&& (255 : Int32)).toUInt32.toUInt16.toUInt32.toInt32) < 0 ∧ ¬ (255 : Int32) < nar .char ((x &&& (255 : Int32)).toUInt32.toUInt16.toUInt32.toInt32) := by
  have t : ∀ k : Fin 256, ¬ nar .char ((Int32.ofNat k.val).toUInt32.toUInt16.toUInt32.toInt32) < 0 ∧ ¬ (255 : Int32) < nar .char ((Int32.ofNat k.val).toUInt32.toUInt16.toUInt32.toInt32) := by decide +kernel
  have h : (x &&& 255).toBitVec.toNat < 256 := by
    simp only [Int32.toBitVec_and, BitVec.toNat_and]
    exact Nat.lt_succ_of_le Nat.and_le_right
  have e : (x &&& 255) = Int32.ofNat (x &&& 255).toBitVec.toNat := by
    apply Int32.toBitVec_inj.mp
    show _ = BitVec.ofNat 32 _
    rw [BitVec.ofNat_toNat]; simp
  rw [e]
  exact t ⟨_, h⟩
/-- what a body leaves that may load String constants -/
def OutW (Z : State) (EL : List (String × Nat)) (s : State) (Q : Option Value → Heap → List Loc → Prop) (C S : Nat) (o : Outcome) (U : State) : Prop :=
  ∃ v L, o = .returned v ∧ Q v U.heap L ∧ CHr Z EL s.vm s.heap U.vm U.heap ∧ ReturnedEndW s o U L C S
section GoWide
variable {p : Program} {l : Launch} {e : Env} {R : Room} {s Z : State} {m : MethodId} {args a0 : Array Value} {below : List Frame} {meth : Method} {c : Code} {T : State} {locs : List Loc} {cells slots : Nat} {g : JFrame} {Q : Option Value → Heap → List Loc → Prop} {C S k0 : Nat} {vm0 : Vm} {EL : List (String × Nat)}
theorem Go.endsW (X : Stand p l e R (s.setVm vm0) m args below meth c T locs cells slots) {v : Option Value} (hlk : meth.locks = false) (hv : meth.sig.returnType = none → v = none)
    (st : ∀ fs, (∀ (f : JFrame) (acts : List Action), f.method = m → f.locked = none → f.entered = [] → (doReturn e (T.setTop f) acts v).1 = T.setFrames fs) → Steps p.tables e below (T.setTop g) (T.setFrames fs))
    (hS : s.Since vm0 k0) (hk : k0 ≤ T.heap.size) (hZ : Z.Warmed39 vm0) (hEL : EW Z a0 EL) (hC : CHr Z EL s.vm s.heap vm0 T.heap) (hQ : Q v T.heap locs) (hc : cells ≤ C) (hs : slots ≤ S) : Go p e below (OutW Z EL s Q C S) T g := by
  obtain ⟨fs, hr, hrun, hended, hW⟩ := X.leaveW hS hk (v := v) hv hlk
  exact ⟨_, _, st fs hr, hrun, hended, _, _, rfl, hQ, hC.trans (show CHr Z EL vm0 T.heap T.vm T.heap from CHv.at X hZ hEL hC.1), hW.1, hW.2.1, hW.2.2.1, hW.2.2.2.mono hc hs⟩
theorem Go.ret0W (X : Stand p l e R (s.setVm vm0) m args below meth c T locs cells slots) (hx : p.tables.exec = Jvm.exec) (hret : meth.sig.returnType = none) (hlk : meth.locks = false) {pc : Nat} {Ls : Array Slot} (hd : decode c.code pc = .ok (.return_, 1))
    (hS : s.Since vm0 k0) (hk : k0 ≤ T.heap.size) (hZ : Z.Warmed39 vm0) (hEL : EW Z a0 EL) (hC : CHr Z EL s.vm s.heap vm0 T.heap) (hQ : Q none T.heap locs) (hc : cells ≤ C) (hs : slots ≤ S) : Go p e below (OutW Z EL s Q C S) T (mkF m pc Ls []) :=
  Go.endsW X hlk (fun _ => rfl) (fun fs hr => X.returnOut hx hret hd hr) hS hk hZ hEL hC hQ hc hs
theorem Go.retNW (X : Stand p l e R (s.setVm vm0) m args below meth c T locs cells slots) (hx : p.tables.exec = Jvm.exec) {t : FieldType} (hret : meth.sig.returnType = some t) (ht : t = .boolean ∨ t = .byte ∨ t = .char ∨ t = .short) (hlk : meth.locks = false) {pc : Nat} {Ls : Array Slot} {z : Int32} {rest : List Value} (hd : decode c.code pc = .ok (.ireturn, 1))
    (hS : s.Since vm0 k0) (hk : k0 ≤ T.heap.size) (hZ : Z.Warmed39 vm0) (hEL : EW Z a0 EL) (hC : CHr Z EL s.vm s.heap vm0 T.heap) (hQ : Q (some (.int (nar t z))) T.heap locs) (hc : cells ≤ C) (hs : slots ≤ S) : Go p e below (OutW Z EL s Q C S) T (mkF m pc Ls (.int z :: rest)) :=
  Go.endsW X hlk (fun h => by rw [hret] at h; cases h) (fun fs hr => RoadKit.retN X hx hret ht hd hr) hS hk hZ hEL hC hQ hc hs
theorem Go.retIW (X : Stand p l e R (s.setVm vm0) m args below meth c T locs cells slots) (hx : p.tables.exec = Jvm.exec) (hret : meth.sig.returnType = some .int) (hlk : meth.locks = false) {pc : Nat} {Ls : Array Slot} {z : Int32} {rest : List Value} (hd : decode c.code pc = .ok (.ireturn, 1))
    (hS : s.Since vm0 k0) (hk : k0 ≤ T.heap.size) (hZ : Z.Warmed39 vm0) (hEL : EW Z a0 EL) (hC : CHr Z EL s.vm s.heap vm0 T.heap) (hQ : Q (some (.int z)) T.heap locs) (hc : cells ≤ C) (hs : slots ≤ S) : Go p e below (OutW Z EL s Q C S) T (mkF m pc Ls (.int z :: rest)) :=
  Go.endsW X hlk (fun h => by rw [hret] at h; cases h) (fun fs hr => retOut X hx hret rfl (Or.inl ⟨rfl, Or.inl rfl, z, rfl⟩) hd hr) hS hk hZ hEL hC hQ hc hs
theorem Go.retRW (X : Stand p l e R (s.setVm vm0) m args below meth c T locs cells slots) (hx : p.tables.exec = Jvm.exec) {t : FieldType} {w : Value} (hret : meth.sig.returnType = some t) (hn : narrow t w = w) (ht : t.isReference = true) (hw : w.isRef = true) (hlk : meth.locks = false) {pc : Nat} {Ls : Array Slot} {rest : List Value} (hd : decode c.code pc = .ok (.areturn, 1))
    (hS : s.Since vm0 k0) (hk : k0 ≤ T.heap.size) (hZ : Z.Warmed39 vm0) (hEL : EW Z a0 EL) (hC : CHr Z EL s.vm s.heap vm0 T.heap) (hQ : Q (some w) T.heap locs) (hc : cells ≤ C) (hs : slots ≤ S) : Go p e below (OutW Z EL s Q C S) T (mkF m pc Ls (w :: rest)) :=
  Go.endsW X hlk (fun h => by rw [hret] at h; cases h) (fun fs hr => retOut X hx hret hn (Or.inr (Or.inr (Or.inr (Or.inr ⟨rfl, ht, hw⟩)))) hd hr) hS hk hZ hEL hC hQ hc hs
theorem safe_arv {vm : Vm} {h : Heap} {x : Addr} {kc : ClassId} {ty : FieldType} {z : Int32} {vs : List Value} {dv : Value} (hal : Z.vm.Alike vm) (G : Arv Z h x kc ty z vs dv) (ht : ty ≠ .byte) : Safe Z EL vm h x := by
  obtain ⟨c, A, -⟩ := G
  exact Safe.arr hal A ht
/-- a String whose value is still null is no String constant -/
theorem safe_str {vm : Vm} {h : Heap} {x : Addr} (hal : Z.vm.Alike vm) (E : Exa Z h x "java/lang/String") (F : Fld Z h x "java/lang/String" "value" "[B" .null) : Safe Z EL vm h x := fun B => by
  obtain ⟨q0, -, u, a, -, q, -, G, rfl | rfl⟩ := B
  · obtain ⟨cell, cf, k, i, f, f1, f2, f3, f4, f5, f6, f7⟩ := F
    cases (show h[q.sa]? = some q.sC from G.ha).symm.trans f1
    obtain ⟨cS, ⟨st, -, -⟩, -⟩ := G
    obtain ⟨-, -, -, ⟨c', k', i', g1, -⟩, -, -, -, g2, -⟩ := st
    obtain ⟨k2, q1, -⟩ := State.fieldFound?_setVm (s := Z) hal f2
    have q1' : (Wst Z vm h).fieldFound? "java/lang/String" "value" "[B" = some (cf, k2, i, f) := q1
    cases g1.symm.trans q1'
    rw [f7] at g2
    cases g2
  · obtain ⟨cell, k, e1, e2, -⟩ := E
    cases (show h[q.sd]? = some q.SA from G.hd).symm.trans e1
    obtain ⟨cS, -, -, f, -⟩ := G
    have f' : vm.findClass "[B" = some q.SA.cls := f
    rw [hal.findClass] at f'
    obtain ⟨k1, r1, r2⟩ := Vm.findClass_spec f'
    obtain ⟨k2, r3, r4⟩ := Vm.findClass_spec e2
    cases r1.symm.trans r3
    exact absurd (r2.symm.trans r4) (by decide)
end GoWide

theorem nar_id {x : Int32} (h : ¬ x < 0 ∧ ¬ (255 : Int32) < x) : nar .char x = x := by
  have h1 : ¬ x.toInt < 0 := fun q => h.1 (Int32.lt_iff_toInt_lt.mpr q)
  have h2 : ¬ 255 < x.toInt := fun q => h.2 (Int32.lt_iff_toInt_lt.mpr q)
  have q := c_i2c x
  have e : nar .char x = x.toUInt32.toUInt16.toUInt32.toInt32 := rfl
  apply Int32.toInt_inj.mp
  rw [e]; omega
theorem arv_of_arh {Z : State} {h : Heap} {a : Addr} {k : ClassId} {ty : FieldType} {z : Int32} {vs : List Value} {dv : Value} (F : Arh Z h a k ty z [] vs dv) : Arv Z h a k ty z vs dv := by
  obtain ⟨c, A, q, S, M, H, G⟩ := F
  exact ⟨c, A, q, S, M, fun k hk => H k hk, G⟩
theorem up255 {cs : List Int32} (h : ∀ c ∈ cs, ¬ c < 0 ∧ ¬ (255 : Int32) < c) : ∀ c ∈ cs, ¬ c < 0 ∧ ¬ (65535 : Int32) < c := fun c hc => ⟨(h c hc).1, fun q => (h c hc).2 (by rw [Int32.lt_iff_toInt_lt] at q ⊢; have e1 : (65535 : Int32).toInt = 65535 := rfl; have e2 : (255 : Int32).toInt = 255 := rfl; omega)⟩
abbrev B8 (cs : List Int32) : List Value := (cs.map (fun c => c.toInt8.toInt32)).map Value.int
theorem cod8 {cs : List Int32} {n : Nat} (hn : cs.length = n) (hb : ∀ c ∈ cs, ¬ c < 0 ∧ ¬ (255 : Int32) < c) : StrChars.Road.CodA cs 0 (Int32.ofNat n) (B8 cs) := StrChars.Road.codOf (n := n) hn (fun x hx => (hb x hx).2)
abbrev PER : List Int32 := [112, 101, 114, 115, 111, 110]
abbrev OTH : List Int32 := [111, 116, 104, 101, 114]
theorem per_lo : ∀ c ∈ PER, ¬ c < 0 ∧ ¬ (255 : Int32) < c := by decide
theorem oth_lo : ∀ c ∈ OTH, ¬ c < 0 ∧ ¬ (255 : Int32) < c := by decide
theorem mask7c (x : Int32) : (x &&& (7 : Int32)) = (0 : Int32) ∨ (x &&& (7 : Int32)) = (1 : Int32) ∨ (x &&& (7 : Int32)) = (2 : Int32) ∨ (x &&& (7 : Int32)) = (3 : Int32) ∨ (x &&& (7 : Int32)) = (4 : Int32) ∨ (x &&& (7 : Int32)) = (5 : Int32) ∨ (x &&& (7 : Int32)) = (6 : Int32) ∨ (x &&& (7 : Int32)) = (7 : Int32) := by
  have h := c_and x (7 : Int32) (by decide)
  have e3 : (7 : Int32).toInt = 7 := by decide
  rw [e3] at h
  obtain ⟨n, hn⟩ : ∃ n : Fin 8, (x &&& (7 : Int32)).toInt = n.val := ⟨⟨(x &&& (7 : Int32)).toInt.toNat, by omega⟩, by show _ = (((x &&& (7 : Int32)).toInt.toNat : Nat) : Int); omega⟩
  have key : ∀ n : Fin 8, ∀ y : Int32, y.toInt = (n.val : Int) → y = Int32.ofNat n.val := fun n y hy => Int32.toInt_inj.mp (by rw [hy, Int32.toInt_ofNat_of_lt (by omega)])
  rw [key n _ hn]
  exact (by decide : ∀ n : Fin 8, (Int32.ofNat n.val) = (0 : Int32) ∨ (Int32.ofNat n.val) = (1 : Int32) ∨ (Int32.ofNat n.val) = (2 : Int32) ∨ (Int32.ofNat n.val) = (3 : Int32) ∨ (Int32.ofNat n.val) = (4 : Int32) ∨ (Int32.ofNat n.val) = (5 : Int32) ∨ (Int32.ofNat n.val) = (6 : Int32) ∨ (Int32.ofNat n.val) = (7 : Int32)) n
theorem rem7c (x : Int32) : ((x &&& (2147483647 : Int32)) % (7 : Int32)) = (0 : Int32) ∨ ((x &&& (2147483647 : Int32)) % (7 : Int32)) = (1 : Int32) ∨ ((x &&& (2147483647 : Int32)) % (7 : Int32)) = (2 : Int32) ∨ ((x &&& (2147483647 : Int32)) % (7 : Int32)) = (3 : Int32) ∨ ((x &&& (2147483647 : Int32)) % (7 : Int32)) = (4 : Int32) ∨ ((x &&& (2147483647 : Int32)) % (7 : Int32)) = (5 : Int32) ∨ ((x &&& (2147483647 : Int32)) % (7 : Int32)) = (6 : Int32) := by
  have h := c_and x (2147483647 : Int32) (by decide)
  have q := (c_irem (x &&& (2147483647 : Int32)) (7 : Int32) 7 (by decide)).1 h.1
  obtain ⟨n, hn⟩ : ∃ n : Fin 7, ((x &&& (2147483647 : Int32)) % (7 : Int32)).toInt = n.val := ⟨⟨((x &&& (2147483647 : Int32)) % (7 : Int32)).toInt.toNat, by omega⟩, by show _ = (((((x &&& (2147483647 : Int32)) % (7 : Int32)).toInt.toNat : Nat)) : Int); omega⟩
  have key : ∀ n : Fin 7, ∀ y : Int32, y.toInt = (n.val : Int) → y = Int32.ofNat n.val := fun n y hy => Int32.toInt_inj.mp (by rw [hy, Int32.toInt_ofNat_of_lt (by omega)])
  rw [key n _ hn]
  exact (by decide : ∀ n : Fin 7, (Int32.ofNat n.val) = (0 : Int32) ∨ (Int32.ofNat n.val) = (1 : Int32) ∨ (Int32.ofNat n.val) = (2 : Int32) ∨ (Int32.ofNat n.val) = (3 : Int32) ∨ (Int32.ofNat n.val) = (4 : Int32) ∨ (Int32.ofNat n.val) = (5 : Int32) ∨ (Int32.ofNat n.val) = (6 : Int32)) n
theorem b8per : B8 PER = [.int 112, .int 101, .int 114, .int 115, .int 111, .int 110] := by rfl
theorem b8oth : B8 OTH = [.int 111, .int 116, .int 104, .int 101, .int 114] := by rfl
section OwnStart
variable {args : Array Value} {s : State} {t u : Term} {a : Addr}
theorem own_eqI {n : Int32} (h : (Cond.eq t (.int n)).value args s none s [] = some true) : t.eval args s none [] s = some (.int n) := by
  obtain ⟨x, y, h1, h2, k1, k2⟩ := cmp_v (Or.inl h)
  cases (Term.int_eval n).symm.trans h2
  obtain ⟨z, rfl⟩ := k2
  have q := gotT (Cond.eq_ints h1 h2) h
  subst q; exact h1
theorem own_eqR (h : (Cond.eq t u).value args s none s [] = some true) (hb : u.eval args s none [] s = some (.ref a)) : t.eval args s none [] s = some (.ref a) := by
  obtain ⟨x, y, h1, h2, k1, k2⟩ := cmp_v (Or.inl h)
  cases hb.symm.trans h2
  have hr : x.isRef = true := k2.2
  have q := gotT (eq_R h1 hb hr rfl) h
  subst q; exact h1
theorem own_el {v : Value} {j : Int32} {i : Nat} {c : Cell} (h : (Term.elem t (.int j)).eval args s none [] s = some v) (ev : t.eval args s none [] s = some (.ref a)) (hc : s.heap[a]? = some c) (hi : j.toNatClampNeg = i) : c.slots[i]? = some v := by
  subst hi; exact (elem_in h ev (Term.int_eval j) hc).2
theorem own_arv {ty : FieldType} {z : Int32} {vs : List Value} {dv : Value} (hf : Fit s) (ev : t.eval args s none [] s = some (.ref a)) (hA : (Cond.arrayOf t ty).value args s none s [] = some true) (hl : (Cond.eq (.length t) (.int z)).value args s none s [] = some true) (hz : ¬ z < 0) (hn : z.toNatClampNeg = vs.length) (H : ∀ c : Cell, s.heap[a]? = some c → HasL c 0 vs) : ∃ k, Arv s s.heap a k ty z vs dv := by
  obtain ⟨c, A⟩ := Arr.start ev hA
  have e := own_eqI hl
  have hat := Arr.fin (Vm.Alike.refl _) A
  by_cases q : c.slots.size < 2 ^ 31
  · rw [len_f ev hat q] at e
    exact ⟨_, Arv.start hf A q (by cases e; rfl) hz hn (H c A.1)⟩
  · simp [Term.eval, ev, hat, q] at e
end OwnStart
abbrev HW (a0 : Array Value) (Z : State) : Prop := ∀ d ∈ tables_1, d.before a0 Z = true
theorem ow0 {a0 : Array Value} {Z : State} (hw : HW a0 Z) : (Jvm.Cond.arrayClass Jvm.ClassFile.FieldType.char).before a0 Z = true := hw _ (List.mem_of_getElem? (i := 0) rfl)
theorem ow1 {a0 : Array Value} {Z : State} (hw : HW a0 Z) : (Jvm.Cond.methodLink "com/example/antecedent/antecedent/EntityTypeForLabelPinLaw" (8 : Nat) ({ cls := "com/example/antecedent/antecedent/EntityTypeForLabelPinLaw", name := "make", desc := "([CI)Ljava/lang/String;" } : Jvm.MethodName)).before a0 Z = true := hw _ (List.mem_of_getElem? (i := 1) rfl)
theorem ow2 {a0 : Array Value} {Z : State} (hw : HW a0 Z) : (Jvm.Cond.static ({ cls := "com/example/antecedent/antecedent/EntityTypeForLabelPinLaw", name := "make", desc := "([CI)Ljava/lang/String;" } : Jvm.MethodName)).before a0 Z = true := hw _ (List.mem_of_getElem? (i := 2) rfl)
theorem ow3 {a0 : Array Value} {Z : State} (hw : HW a0 Z) : (Jvm.Cond.initialized "com/example/antecedent/antecedent/EntityTypeForLabelPinLaw").before a0 Z = true := hw _ (List.mem_of_getElem? (i := 3) rfl)
theorem ow4 {a0 : Array Value} {Z : State} (hw : HW a0 Z) : (Jvm.Cond.code ({ cls := "com/example/antecedent/antecedent/EntityTypeForLabelPinLaw", name := "make", desc := "([CI)Ljava/lang/String;" } : Jvm.MethodName) method_3_code (2 : Nat) (Option.some (Jvm.ClassFile.FieldType.object "java/lang/String"))).before a0 Z = true := hw _ (List.mem_of_getElem? (i := 4) rfl)
theorem ow5 {a0 : Array Value} {Z : State} (hw : HW a0 Z) : (Jvm.Cond.classLink "com/example/antecedent/antecedent/EntityTypeForLabelPinLaw" (17 : Nat) "java/lang/String").before a0 Z = true := hw _ (List.mem_of_getElem? (i := 5) rfl)
theorem ow6 {a0 : Array Value} {Z : State} (hw : HW a0 Z) : (Jvm.Cond.instantiable "java/lang/String" (4 : Nat)).before a0 Z = true := hw _ (List.mem_of_getElem? (i := 6) rfl)
theorem ow7 {a0 : Array Value} {Z : State} (hw : HW a0 Z) : (Jvm.Cond.initialized "java/lang/String").before a0 Z = true := hw _ (List.mem_of_getElem? (i := 7) rfl)
theorem ow8 {a0 : Array Value} {Z : State} (hw : HW a0 Z) : (Jvm.Cond.methodLink "com/example/antecedent/antecedent/EntityTypeForLabelPinLaw" (47 : Nat) ({ cls := "java/lang/String", name := "<init>", desc := "([C)V" } : Jvm.MethodName)).before a0 Z = true := hw _ (List.mem_of_getElem? (i := 8) rfl)
theorem ow9 {a0 : Array Value} {Z : State} (hw : HW a0 Z) : (Jvm.Cond.instanceMethod ({ cls := "java/lang/String", name := "<init>", desc := "([C)V" } : Jvm.MethodName)).before a0 Z = true := hw _ (List.mem_of_getElem? (i := 9) rfl)
theorem ow10 {a0 : Array Value} {Z : State} (hw : HW a0 Z) : (Jvm.Cond.code ({ cls := "java/lang/String", name := "<init>", desc := "([C)V" } : Jvm.MethodName) jdk_42_method_3_code (2 : Nat) (Option.none : Option Jvm.ClassFile.FieldType)).before a0 Z = true := hw _ (List.mem_of_getElem? (i := 10) rfl)
theorem ow11 {a0 : Array Value} {Z : State} (hw : HW a0 Z) : (Jvm.Cond.methodLink "java/lang/String" (27 : Nat) ({ cls := "java/lang/String", name := "<init>", desc := "([CIILjava/lang/Void;)V" } : Jvm.MethodName)).before a0 Z = true := hw _ (List.mem_of_getElem? (i := 11) rfl)
theorem ow12 {a0 : Array Value} {Z : State} (hw : HW a0 Z) : (Jvm.Cond.instanceMethod ({ cls := "java/lang/String", name := "<init>", desc := "([CIILjava/lang/Void;)V" } : Jvm.MethodName)).before a0 Z = true := hw _ (List.mem_of_getElem? (i := 12) rfl)
theorem ow14 {a0 : Array Value} {Z : State} (hw : HW a0 Z) : (Jvm.Cond.code ({ cls := "java/lang/String", name := "<init>", desc := "([CIILjava/lang/Void;)V" } : Jvm.MethodName) jdk_42_method_149_code (6 : Nat) (Option.none : Option Jvm.ClassFile.FieldType)).before a0 Z = true := hw _ (List.mem_of_getElem? (i := 14) rfl)
theorem ow15 {a0 : Array Value} {Z : State} (hw : HW a0 Z) : (Jvm.Cond.methodLink "java/lang/String" (1 : Nat) ({ cls := "java/lang/Object", name := "<init>", desc := "()V" } : Jvm.MethodName)).before a0 Z = true := hw _ (List.mem_of_getElem? (i := 15) rfl)
theorem ow16 {a0 : Array Value} {Z : State} (hw : HW a0 Z) : (Jvm.Cond.instanceMethod ({ cls := "java/lang/Object", name := "<init>", desc := "()V" } : Jvm.MethodName)).before a0 Z = true := hw _ (List.mem_of_getElem? (i := 16) rfl)
theorem ow17 {a0 : Array Value} {Z : State} (hw : HW a0 Z) : (Jvm.Cond.code ({ cls := "java/lang/Object", name := "<init>", desc := "()V" } : Jvm.MethodName) object_method_1_code (1 : Nat) (Option.none : Option Jvm.ClassFile.FieldType)).before a0 Z = true := hw _ (List.mem_of_getElem? (i := 17) rfl)
theorem ow30 {a0 : Array Value} {Z : State} (hw : HW a0 Z) : (Jvm.Cond.fieldLink "java/lang/String" (15 : Nat) "java/lang/String" "coder" "B").before a0 Z = true := hw _ (List.mem_of_getElem? (i := 30) rfl)
theorem ow31 {a0 : Array Value} {Z : State} (hw : HW a0 Z) : (Jvm.Cond.laysFinal "java/lang/String" "java/lang/String" "coder" "B").before a0 Z = true := hw _ (List.mem_of_getElem? (i := 31) rfl)
theorem ow32 {a0 : Array Value} {Z : State} (hw : HW a0 Z) : (Jvm.Cond.fieldLink "java/lang/String" (9 : Nat) "java/lang/String" "value" "[B").before a0 Z = true := hw _ (List.mem_of_getElem? (i := 32) rfl)
theorem ow33 {a0 : Array Value} {Z : State} (hw : HW a0 Z) : (Jvm.Cond.laysFinal "java/lang/String" "java/lang/String" "value" "[B").before a0 Z = true := hw _ (List.mem_of_getElem? (i := 33) rfl)
theorem ow34 {a0 : Array Value} {Z : State} (hw : HW a0 Z) : (Jvm.Cond.stringLink "com/example/antecedent/antecedent/EntityTypeForLabelPinLaw" (14 : Nat) "person").before a0 Z = true := hw _ (List.mem_of_getElem? (i := 34) rfl)
theorem ow37 {a0 : Array Value} {Z : State} (hw : HW a0 Z) : (Jvm.Cond.methodLink "com/example/antecedent/antecedent/EntityTypeForLabelPinLaw" (16 : Nat) ({ cls := "java/lang/String", name := "equals", desc := "(Ljava/lang/Object;)Z" } : Jvm.MethodName)).before a0 Z = true := hw _ (List.mem_of_getElem? (i := 37) rfl)
theorem ow38 {a0 : Array Value} {Z : State} (hw : HW a0 Z) : (Jvm.Cond.declares ({ cls := "java/lang/String", name := "equals", desc := "(Ljava/lang/Object;)Z" } : Jvm.MethodName)).before a0 Z = true := hw _ (List.mem_of_getElem? (i := 38) rfl)
theorem ow39 {a0 : Array Value} {Z : State} (hw : HW a0 Z) : (Jvm.Cond.instanceMethod ({ cls := "java/lang/String", name := "equals", desc := "(Ljava/lang/Object;)Z" } : Jvm.MethodName)).before a0 Z = true := hw _ (List.mem_of_getElem? (i := 39) rfl)
theorem ow40 {a0 : Array Value} {Z : State} (hw : HW a0 Z) : (Jvm.Cond.selects "java/lang/String" ({ cls := "java/lang/String", name := "equals", desc := "(Ljava/lang/Object;)Z" } : Jvm.MethodName) ({ cls := "java/lang/String", name := "equals", desc := "(Ljava/lang/Object;)Z" } : Jvm.MethodName)).before a0 Z = true := hw _ (List.mem_of_getElem? (i := 40) rfl)
theorem ow47 {a0 : Array Value} {Z : State} (hw : HW a0 Z) : (Jvm.Cond.stringLink "com/example/antecedent/antecedent/EntityTypeForLabelPinLaw" (22 : Nat) "other").before a0 Z = true := hw _ (List.mem_of_getElem? (i := 47) rfl)
theorem ow48 {a0 : Array Value} {Z : State} (hw : HW a0 Z) : (Jvm.Cond.methodLink "com/example/antecedent/antecedent/EntityTypeForLabelPinLaw" (24 : Nat) ({ cls := "com/example/antecedent/antecedent/EntityType", name := "forLabel", desc := "(Ljava/lang/String;)Ljava/util/Optional;" } : Jvm.MethodName)).before a0 Z = true := hw _ (List.mem_of_getElem? (i := 48) rfl)
theorem ow49 {a0 : Array Value} {Z : State} (hw : HW a0 Z) : (Jvm.Cond.static ({ cls := "com/example/antecedent/antecedent/EntityType", name := "forLabel", desc := "(Ljava/lang/String;)Ljava/util/Optional;" } : Jvm.MethodName)).before a0 Z = true := hw _ (List.mem_of_getElem? (i := 49) rfl)
theorem ow50 {a0 : Array Value} {Z : State} (hw : HW a0 Z) : (Jvm.Cond.initialized "com/example/antecedent/antecedent/EntityType").before a0 Z = true := hw _ (List.mem_of_getElem? (i := 50) rfl)
theorem ow51 {a0 : Array Value} {Z : State} (hw : HW a0 Z) : (Jvm.Cond.code ({ cls := "com/example/antecedent/antecedent/EntityType", name := "forLabel", desc := "(Ljava/lang/String;)Ljava/util/Optional;" } : Jvm.MethodName) prog_4_method_4_code (6 : Nat) (Option.some (Jvm.ClassFile.FieldType.object "java/util/Optional"))).before a0 Z = true := hw _ (List.mem_of_getElem? (i := 51) rfl)
theorem ow52 {a0 : Array Value} {Z : State} (hw : HW a0 Z) : (Jvm.Cond.methodLink "com/example/antecedent/antecedent/EntityType" (44 : Nat) ({ cls := "java/util/Optional", name := "empty", desc := "()Ljava/util/Optional;" } : Jvm.MethodName)).before a0 Z = true := hw _ (List.mem_of_getElem? (i := 52) rfl)
theorem ow53 {a0 : Array Value} {Z : State} (hw : HW a0 Z) : (Jvm.Cond.static ({ cls := "java/util/Optional", name := "empty", desc := "()Ljava/util/Optional;" } : Jvm.MethodName)).before a0 Z = true := hw _ (List.mem_of_getElem? (i := 53) rfl)
theorem ow54 {a0 : Array Value} {Z : State} (hw : HW a0 Z) : (Jvm.Cond.initialized "java/util/Optional").before a0 Z = true := hw _ (List.mem_of_getElem? (i := 54) rfl)
theorem ow55 {a0 : Array Value} {Z : State} (hw : HW a0 Z) : (Jvm.Cond.code ({ cls := "java/util/Optional", name := "empty", desc := "()Ljava/util/Optional;" } : Jvm.MethodName) jdk_32_method_1_code (1 : Nat) (Option.some (Jvm.ClassFile.FieldType.object "java/util/Optional"))).before a0 Z = true := hw _ (List.mem_of_getElem? (i := 55) rfl)
theorem ow56 {a0 : Array Value} {Z : State} (hw : HW a0 Z) : (Jvm.Cond.fieldLink "java/util/Optional" (1 : Nat) "java/util/Optional" "EMPTY" "Ljava/util/Optional;").before a0 Z = true := hw _ (List.mem_of_getElem? (i := 56) rfl)
theorem ow57 {a0 : Array Value} {Z : State} (hw : HW a0 Z) : (Jvm.Cond.methodLink "com/example/antecedent/antecedent/EntityType" (50 : Nat) ({ cls := "com/example/antecedent/antecedent/EntityType", name := "values", desc := "()[Lcom/example/antecedent/antecedent/EntityType;" } : Jvm.MethodName)).before a0 Z = true := hw _ (List.mem_of_getElem? (i := 57) rfl)
theorem ow58 {a0 : Array Value} {Z : State} (hw : HW a0 Z) : (Jvm.Cond.static ({ cls := "com/example/antecedent/antecedent/EntityType", name := "values", desc := "()[Lcom/example/antecedent/antecedent/EntityType;" } : Jvm.MethodName)).before a0 Z = true := hw _ (List.mem_of_getElem? (i := 58) rfl)
theorem ow59 {a0 : Array Value} {Z : State} (hw : HW a0 Z) : (Jvm.Cond.code ({ cls := "com/example/antecedent/antecedent/EntityType", name := "values", desc := "()[Lcom/example/antecedent/antecedent/EntityType;" } : Jvm.MethodName) prog_4_method_1_code (0 : Nat) (Option.some (Jvm.ClassFile.FieldType.array (Jvm.ClassFile.FieldType.object "com/example/antecedent/antecedent/EntityType")))).before a0 Z = true := hw _ (List.mem_of_getElem? (i := 59) rfl)
theorem ow60 {a0 : Array Value} {Z : State} (hw : HW a0 Z) : (Jvm.Cond.fieldLink "com/example/antecedent/antecedent/EntityType" (10 : Nat) "com/example/antecedent/antecedent/EntityType" "$VALUES" "[Lcom/example/antecedent/antecedent/EntityType;").before a0 Z = true := hw _ (List.mem_of_getElem? (i := 60) rfl)
theorem ow62 {a0 : Array Value} {Z : State} (hw : HW a0 Z) : (Jvm.Cond.methodLink "com/example/antecedent/antecedent/EntityType" (14 : Nat) ({ cls := "[Lcom/example/antecedent/antecedent/EntityType;", name := "clone", desc := "()Ljava/lang/Object;" } : Jvm.MethodName)).before a0 Z = true := hw _ (List.mem_of_getElem? (i := 62) rfl)
theorem ow63 {a0 : Array Value} {Z : State} (hw : HW a0 Z) : (Jvm.Cond.sameMethod "[Lcom/example/antecedent/antecedent/EntityType;" "java/lang/Object" "clone" "()Ljava/lang/Object;").before a0 Z = true := hw _ (List.mem_of_getElem? (i := 63) rfl)
theorem ow65 {a0 : Array Value} {Z : State} (hw : HW a0 Z) : (Jvm.Cond.instanceMethod ({ cls := "java/lang/Object", name := "clone", desc := "()Ljava/lang/Object;" } : Jvm.MethodName)).before a0 Z = true := hw _ (List.mem_of_getElem? (i := 65) rfl)
theorem ow66 {a0 : Array Value} {Z : State} (hw : HW a0 Z) : (Jvm.Cond.selects "[Lcom/example/antecedent/antecedent/EntityType;" ({ cls := "[Lcom/example/antecedent/antecedent/EntityType;", name := "clone", desc := "()Ljava/lang/Object;" } : Jvm.MethodName) ({ cls := "java/lang/Object", name := "clone", desc := "()Ljava/lang/Object;" } : Jvm.MethodName)).before a0 Z = true := hw _ (List.mem_of_getElem? (i := 66) rfl)
theorem ow67 {a0 : Array Value} {Z : State} (hw : HW a0 Z) : (Jvm.Cond.native ({ cls := "java/lang/Object", name := "clone", desc := "()Ljava/lang/Object;" } : Jvm.MethodName)).before a0 Z = true := hw _ (List.mem_of_getElem? (i := 67) rfl)
theorem ow68 {a0 : Array Value} {Z : State} (hw : HW a0 Z) : (Jvm.Cond.castable "[Lcom/example/antecedent/antecedent/EntityType;" "java/lang/Cloneable").before a0 Z = true := hw _ (List.mem_of_getElem? (i := 68) rfl)
theorem ow69 {a0 : Array Value} {Z : State} (hw : HW a0 Z) : (Jvm.Cond.laysStatic "com/example/antecedent/antecedent/EntityType" "PERSON" "Lcom/example/antecedent/antecedent/EntityType;").before a0 Z = true := hw _ (List.mem_of_getElem? (i := 69) rfl)
theorem ow70 {a0 : Array Value} {Z : State} (hw : HW a0 Z) : (Jvm.Cond.laysStatic "com/example/antecedent/antecedent/EntityType" "OTHER" "Lcom/example/antecedent/antecedent/EntityType;").before a0 Z = true := hw _ (List.mem_of_getElem? (i := 70) rfl)
theorem ow71 {a0 : Array Value} {Z : State} (hw : HW a0 Z) : (Jvm.Cond.initializedFor "com/example/antecedent/antecedent/EntityType" "$VALUES" "[Lcom/example/antecedent/antecedent/EntityType;").before a0 Z = true := hw _ (List.mem_of_getElem? (i := 71) rfl)
theorem ow72 {a0 : Array Value} {Z : State} (hw : HW a0 Z) : (Jvm.Cond.classLink "com/example/antecedent/antecedent/EntityType" (15 : Nat) "[Lcom/example/antecedent/antecedent/EntityType;").before a0 Z = true := hw _ (List.mem_of_getElem? (i := 72) rfl)
theorem ow74 {a0 : Array Value} {Z : State} (hw : HW a0 Z) : (Jvm.Cond.fieldLink "com/example/antecedent/antecedent/EntityType" (29 : Nat) "com/example/antecedent/antecedent/EntityType" "label" "Ljava/lang/String;").before a0 Z = true := hw _ (List.mem_of_getElem? (i := 74) rfl)
theorem ow76 {a0 : Array Value} {Z : State} (hw : HW a0 Z) : (Jvm.Cond.methodLink "com/example/antecedent/antecedent/EntityType" (54 : Nat) ({ cls := "java/lang/String", name := "equals", desc := "(Ljava/lang/Object;)Z" } : Jvm.MethodName)).before a0 Z = true := hw _ (List.mem_of_getElem? (i := 76) rfl)
theorem ow77 {a0 : Array Value} {Z : State} (hw : HW a0 Z) : (Jvm.Cond.methodLink "com/example/antecedent/antecedent/EntityTypeForLabelPinLaw" (30 : Nat) ({ cls := "java/util/Optional", name := "isPresent", desc := "()Z" } : Jvm.MethodName)).before a0 Z = true := hw _ (List.mem_of_getElem? (i := 77) rfl)
theorem ow78 {a0 : Array Value} {Z : State} (hw : HW a0 Z) : (Jvm.Cond.declares ({ cls := "java/util/Optional", name := "isPresent", desc := "()Z" } : Jvm.MethodName)).before a0 Z = true := hw _ (List.mem_of_getElem? (i := 78) rfl)
theorem ow79 {a0 : Array Value} {Z : State} (hw : HW a0 Z) : (Jvm.Cond.instanceMethod ({ cls := "java/util/Optional", name := "isPresent", desc := "()Z" } : Jvm.MethodName)).before a0 Z = true := hw _ (List.mem_of_getElem? (i := 79) rfl)
theorem ow80 {a0 : Array Value} {Z : State} (hw : HW a0 Z) : (Jvm.Cond.selects "java/util/Optional" ({ cls := "java/util/Optional", name := "isPresent", desc := "()Z" } : Jvm.MethodName) ({ cls := "java/util/Optional", name := "isPresent", desc := "()Z" } : Jvm.MethodName)).before a0 Z = true := hw _ (List.mem_of_getElem? (i := 80) rfl)
theorem ow81 {a0 : Array Value} {Z : State} (hw : HW a0 Z) : (Jvm.Cond.code ({ cls := "java/util/Optional", name := "isPresent", desc := "()Z" } : Jvm.MethodName) jdk_32_method_6_code (1 : Nat) (Option.some Jvm.ClassFile.FieldType.boolean)).before a0 Z = true := hw _ (List.mem_of_getElem? (i := 81) rfl)
theorem ow82 {a0 : Array Value} {Z : State} (hw : HW a0 Z) : (Jvm.Cond.fieldLink "java/util/Optional" (13 : Nat) "java/util/Optional" "value" "Ljava/lang/Object;").before a0 Z = true := hw _ (List.mem_of_getElem? (i := 82) rfl)
theorem ow83 {a0 : Array Value} {Z : State} (hw : HW a0 Z) : (Jvm.Cond.laysFinal "java/util/Optional" "java/util/Optional" "value" "Ljava/lang/Object;").before a0 Z = true := hw _ (List.mem_of_getElem? (i := 83) rfl)
theorem ow84 {a0 : Array Value} {Z : State} (hw : HW a0 Z) : (Jvm.Cond.constant "com/example/antecedent/antecedent/EntityTypeForLabelPinLaw" (7 : Nat) (2147483647 : Int32)).before a0 Z = true := hw _ (List.mem_of_getElem? (i := 84) rfl)
theorem ow85 {a0 : Array Value} {Z : State} (hw : HW a0 Z) : (Jvm.Cond.methodLink "com/example/antecedent/antecedent/EntityType" (60 : Nat) ({ cls := "java/util/Optional", name := "of", desc := "(Ljava/lang/Object;)Ljava/util/Optional;" } : Jvm.MethodName)).before a0 Z = true := hw _ (List.mem_of_getElem? (i := 85) rfl)
theorem ow86 {a0 : Array Value} {Z : State} (hw : HW a0 Z) : (Jvm.Cond.static ({ cls := "java/util/Optional", name := "of", desc := "(Ljava/lang/Object;)Ljava/util/Optional;" } : Jvm.MethodName)).before a0 Z = true := hw _ (List.mem_of_getElem? (i := 86) rfl)
theorem ow87 {a0 : Array Value} {Z : State} (hw : HW a0 Z) : (Jvm.Cond.code ({ cls := "java/util/Optional", name := "of", desc := "(Ljava/lang/Object;)Ljava/util/Optional;" } : Jvm.MethodName) jdk_32_method_3_code (1 : Nat) (Option.some (Jvm.ClassFile.FieldType.object "java/util/Optional"))).before a0 Z = true := hw _ (List.mem_of_getElem? (i := 87) rfl)
theorem ow88 {a0 : Array Value} {Z : State} (hw : HW a0 Z) : (Jvm.Cond.classLink "java/util/Optional" (2 : Nat) "java/util/Optional").before a0 Z = true := hw _ (List.mem_of_getElem? (i := 88) rfl)
theorem ow89 {a0 : Array Value} {Z : State} (hw : HW a0 Z) : (Jvm.Cond.instantiable "java/util/Optional" (1 : Nat)).before a0 Z = true := hw _ (List.mem_of_getElem? (i := 89) rfl)
theorem ow90 {a0 : Array Value} {Z : State} (hw : HW a0 Z) : (Jvm.Cond.methodLink "java/util/Optional" (17 : Nat) ({ cls := "java/util/Objects", name := "requireNonNull", desc := "(Ljava/lang/Object;)Ljava/lang/Object;" } : Jvm.MethodName)).before a0 Z = true := hw _ (List.mem_of_getElem? (i := 90) rfl)
theorem ow91 {a0 : Array Value} {Z : State} (hw : HW a0 Z) : (Jvm.Cond.static ({ cls := "java/util/Objects", name := "requireNonNull", desc := "(Ljava/lang/Object;)Ljava/lang/Object;" } : Jvm.MethodName)).before a0 Z = true := hw _ (List.mem_of_getElem? (i := 91) rfl)
theorem ow92 {a0 : Array Value} {Z : State} (hw : HW a0 Z) : (Jvm.Cond.initialized "java/util/Objects").before a0 Z = true := hw _ (List.mem_of_getElem? (i := 92) rfl)
theorem ow93 {a0 : Array Value} {Z : State} (hw : HW a0 Z) : (Jvm.Cond.code ({ cls := "java/util/Objects", name := "requireNonNull", desc := "(Ljava/lang/Object;)Ljava/lang/Object;" } : Jvm.MethodName) jdk_31_method_10_code (1 : Nat) (Option.some (Jvm.ClassFile.FieldType.object "java/lang/Object"))).before a0 Z = true := hw _ (List.mem_of_getElem? (i := 93) rfl)
theorem ow94 {a0 : Array Value} {Z : State} (hw : HW a0 Z) : (Jvm.Cond.methodLink "java/util/Optional" (23 : Nat) ({ cls := "java/util/Optional", name := "<init>", desc := "(Ljava/lang/Object;)V" } : Jvm.MethodName)).before a0 Z = true := hw _ (List.mem_of_getElem? (i := 94) rfl)
theorem ow95 {a0 : Array Value} {Z : State} (hw : HW a0 Z) : (Jvm.Cond.instanceMethod ({ cls := "java/util/Optional", name := "<init>", desc := "(Ljava/lang/Object;)V" } : Jvm.MethodName)).before a0 Z = true := hw _ (List.mem_of_getElem? (i := 95) rfl)
theorem ow97 {a0 : Array Value} {Z : State} (hw : HW a0 Z) : (Jvm.Cond.code ({ cls := "java/util/Optional", name := "<init>", desc := "(Ljava/lang/Object;)V" } : Jvm.MethodName) jdk_32_method_2_code (2 : Nat) (Option.none : Option Jvm.ClassFile.FieldType)).before a0 Z = true := hw _ (List.mem_of_getElem? (i := 97) rfl)
theorem ow98 {a0 : Array Value} {Z : State} (hw : HW a0 Z) : (Jvm.Cond.methodLink "java/util/Optional" (7 : Nat) ({ cls := "java/lang/Object", name := "<init>", desc := "()V" } : Jvm.MethodName)).before a0 Z = true := hw _ (List.mem_of_getElem? (i := 98) rfl)
theorem ow99 {a0 : Array Value} {Z : State} (hw : HW a0 Z) : (Jvm.Cond.methodLink "com/example/antecedent/antecedent/EntityTypeForLabelPinLaw" (36 : Nat) ({ cls := "java/util/Optional", name := "get", desc := "()Ljava/lang/Object;" } : Jvm.MethodName)).before a0 Z = true := hw _ (List.mem_of_getElem? (i := 99) rfl)
theorem ow100 {a0 : Array Value} {Z : State} (hw : HW a0 Z) : (Jvm.Cond.declares ({ cls := "java/util/Optional", name := "get", desc := "()Ljava/lang/Object;" } : Jvm.MethodName)).before a0 Z = true := hw _ (List.mem_of_getElem? (i := 100) rfl)
theorem ow101 {a0 : Array Value} {Z : State} (hw : HW a0 Z) : (Jvm.Cond.instanceMethod ({ cls := "java/util/Optional", name := "get", desc := "()Ljava/lang/Object;" } : Jvm.MethodName)).before a0 Z = true := hw _ (List.mem_of_getElem? (i := 101) rfl)
theorem ow102 {a0 : Array Value} {Z : State} (hw : HW a0 Z) : (Jvm.Cond.selects "java/util/Optional" ({ cls := "java/util/Optional", name := "get", desc := "()Ljava/lang/Object;" } : Jvm.MethodName) ({ cls := "java/util/Optional", name := "get", desc := "()Ljava/lang/Object;" } : Jvm.MethodName)).before a0 Z = true := hw _ (List.mem_of_getElem? (i := 102) rfl)
theorem ow103 {a0 : Array Value} {Z : State} (hw : HW a0 Z) : (Jvm.Cond.code ({ cls := "java/util/Optional", name := "get", desc := "()Ljava/lang/Object;" } : Jvm.MethodName) jdk_32_method_5_code (1 : Nat) (Option.some (Jvm.ClassFile.FieldType.object "java/lang/Object"))).before a0 Z = true := hw _ (List.mem_of_getElem? (i := 103) rfl)
theorem ow104 {a0 : Array Value} {Z : State} (hw : HW a0 Z) : (Jvm.Cond.fieldLink "com/example/antecedent/antecedent/EntityTypeForLabelPinLaw" (44 : Nat) "com/example/antecedent/antecedent/EntityType" "OTHER" "Lcom/example/antecedent/antecedent/EntityType;").before a0 Z = true := hw _ (List.mem_of_getElem? (i := 104) rfl)
theorem ow105 {a0 : Array Value} {Z : State} (hw : HW a0 Z) : (Jvm.Cond.fieldLink "com/example/antecedent/antecedent/EntityTypeForLabelPinLaw" (40 : Nat) "com/example/antecedent/antecedent/EntityType" "PERSON" "Lcom/example/antecedent/antecedent/EntityType;").before a0 Z = true := hw _ (List.mem_of_getElem? (i := 105) rfl)
theorem ow106 {a0 : Array Value} {Z : State} (hw : HW a0 Z) : (Jvm.Cond.stringLink "java/lang/String" (7 : Nat) "").before a0 Z = true := hw _ (List.mem_of_getElem? (i := 106) rfl)
theorem od_jdk_31_m_10_0 : decode jdk_31_method_10_code 0 = .ok (.aload_n 0, 1) := by decide +kernel
theorem od_jdk_31_m_10_1 : decode jdk_31_method_10_code 1 = .ok (.ifnonnull 11, 3) := by decide +kernel
theorem od_jdk_31_m_10_12 : decode jdk_31_method_10_code 12 = .ok (.aload_n 0, 1) := by decide +kernel
theorem od_jdk_31_m_10_13 : decode jdk_31_method_10_code 13 = .ok (.areturn, 1) := by decide +kernel
theorem od_jdk_32_m_1_0 : decode jdk_32_method_1_code 0 = .ok (.getstatic 1, 3) := by decide +kernel
theorem od_jdk_32_m_1_3 : decode jdk_32_method_1_code 3 = .ok (.astore_n 0, 1) := by decide +kernel
theorem od_jdk_32_m_1_4 : decode jdk_32_method_1_code 4 = .ok (.aload_n 0, 1) := by decide +kernel
theorem od_jdk_32_m_1_5 : decode jdk_32_method_1_code 5 = .ok (.areturn, 1) := by decide +kernel
theorem od_jdk_32_m_2_0 : decode jdk_32_method_2_code 0 = .ok (.aload_n 0, 1) := by decide +kernel
theorem od_jdk_32_m_2_1 : decode jdk_32_method_2_code 1 = .ok (.invokespecial 7, 3) := by decide +kernel
theorem od_jdk_32_m_2_4 : decode jdk_32_method_2_code 4 = .ok (.aload_n 0, 1) := by decide +kernel
theorem od_jdk_32_m_2_5 : decode jdk_32_method_2_code 5 = .ok (.aload_n 1, 1) := by decide +kernel
theorem od_jdk_32_m_2_6 : decode jdk_32_method_2_code 6 = .ok (.putfield 13, 3) := by decide +kernel
theorem od_jdk_32_m_2_9 : decode jdk_32_method_2_code 9 = .ok (.return_, 1) := by decide +kernel
theorem od_jdk_32_m_3_0 : decode jdk_32_method_3_code 0 = .ok (.new 2, 3) := by decide +kernel
theorem od_jdk_32_m_3_3 : decode jdk_32_method_3_code 3 = .ok (.dup, 1) := by decide +kernel
theorem od_jdk_32_m_3_4 : decode jdk_32_method_3_code 4 = .ok (.aload_n 0, 1) := by decide +kernel
theorem od_jdk_32_m_3_5 : decode jdk_32_method_3_code 5 = .ok (.invokestatic 17, 3) := by decide +kernel
theorem od_jdk_32_m_3_8 : decode jdk_32_method_3_code 8 = .ok (.invokespecial 23, 3) := by decide +kernel
theorem od_jdk_32_m_3_11 : decode jdk_32_method_3_code 11 = .ok (.areturn, 1) := by decide +kernel
theorem od_jdk_32_m_5_0 : decode jdk_32_method_5_code 0 = .ok (.aload_n 0, 1) := by decide +kernel
theorem od_jdk_32_m_5_1 : decode jdk_32_method_5_code 1 = .ok (.getfield 13, 3) := by decide +kernel
theorem od_jdk_32_m_5_4 : decode jdk_32_method_5_code 4 = .ok (.ifnonnull 13, 3) := by decide +kernel
theorem od_jdk_32_m_5_17 : decode jdk_32_method_5_code 17 = .ok (.aload_n 0, 1) := by decide +kernel
theorem od_jdk_32_m_5_18 : decode jdk_32_method_5_code 18 = .ok (.getfield 13, 3) := by decide +kernel
theorem od_jdk_32_m_5_21 : decode jdk_32_method_5_code 21 = .ok (.areturn, 1) := by decide +kernel
theorem od_jdk_32_m_6_0 : decode jdk_32_method_6_code 0 = .ok (.aload_n 0, 1) := by decide +kernel
theorem od_jdk_32_m_6_1 : decode jdk_32_method_6_code 1 = .ok (.getfield 13, 3) := by decide +kernel
theorem od_jdk_32_m_6_4 : decode jdk_32_method_6_code 4 = .ok (.ifnull 7, 3) := by decide +kernel
theorem od_jdk_32_m_6_7 : decode jdk_32_method_6_code 7 = .ok (.iconst 1, 1) := by decide +kernel
theorem od_jdk_32_m_6_8 : decode jdk_32_method_6_code 8 = .ok (.goto 4, 3) := by decide +kernel
theorem od_jdk_32_m_6_11 : decode jdk_32_method_6_code 11 = .ok (.iconst 0, 1) := by decide +kernel
theorem od_jdk_32_m_6_12 : decode jdk_32_method_6_code 12 = .ok (.ireturn, 1) := by decide +kernel
theorem od_jdk_42_m_149_0 : decode jdk_42_method_149_code 0 = .ok (.aload_n 0, 1) := by decide +kernel
theorem od_jdk_42_m_149_1 : decode jdk_42_method_149_code 1 = .ok (.invokespecial 1, 3) := by decide +kernel
theorem od_jdk_42_m_149_4 : decode jdk_42_method_149_code 4 = .ok (.iload_n 3, 1) := by decide +kernel
theorem od_jdk_42_m_149_5 : decode jdk_42_method_149_code 5 = .ok (.ifCond .ne 22, 3) := by decide +kernel
theorem od_jdk_42_m_149_8 : decode jdk_42_method_149_code 8 = .ok (.aload_n 0, 1) := by decide +kernel
theorem od_jdk_42_m_149_9 : decode jdk_42_method_149_code 9 = .ok (.ldc 7, 2) := by decide +kernel
theorem od_jdk_42_m_149_11 : decode jdk_42_method_149_code 11 = .ok (.getfield 9, 3) := by decide +kernel
theorem od_jdk_42_m_149_14 : decode jdk_42_method_149_code 14 = .ok (.putfield 9, 3) := by decide +kernel
theorem od_jdk_42_m_149_17 : decode jdk_42_method_149_code 17 = .ok (.aload_n 0, 1) := by decide +kernel
theorem od_jdk_42_m_149_18 : decode jdk_42_method_149_code 18 = .ok (.ldc 7, 2) := by decide +kernel
theorem od_jdk_42_m_149_20 : decode jdk_42_method_149_code 20 = .ok (.getfield 15, 3) := by decide +kernel
theorem od_jdk_42_m_149_23 : decode jdk_42_method_149_code 23 = .ok (.putfield 15, 3) := by decide +kernel
theorem od_jdk_42_m_149_26 : decode jdk_42_method_149_code 26 = .ok (.return_, 1) := by decide +kernel
theorem od_jdk_42_m_3_0 : decode jdk_42_method_3_code 0 = .ok (.aload_n 0, 1) := by decide +kernel
theorem od_jdk_42_m_3_1 : decode jdk_42_method_3_code 1 = .ok (.aload_n 1, 1) := by decide +kernel
theorem od_jdk_42_m_3_2 : decode jdk_42_method_3_code 2 = .ok (.iconst 0, 1) := by decide +kernel
theorem od_jdk_42_m_3_3 : decode jdk_42_method_3_code 3 = .ok (.aload_n 1, 1) := by decide +kernel
theorem od_jdk_42_m_3_4 : decode jdk_42_method_3_code 4 = .ok (.arraylength, 1) := by decide +kernel
theorem od_jdk_42_m_3_5 : decode jdk_42_method_3_code 5 = .ok (.aconst_null, 1) := by decide +kernel
theorem od_jdk_42_m_3_6 : decode jdk_42_method_3_code 6 = .ok (.invokespecial 27, 3) := by decide +kernel
theorem od_jdk_42_m_3_9 : decode jdk_42_method_3_code 9 = .ok (.return_, 1) := by decide +kernel
theorem od_m_3_0 : decode method_3_code 0 = .ok (.iload_n 1, 1) := by decide +kernel
theorem od_m_3_1 : decode method_3_code 1 = .ok (.ifCond .ne 14, 3) := by decide +kernel
theorem od_m_3_4 : decode method_3_code 4 = .ok (.new 17, 3) := by decide +kernel
theorem od_m_3_7 : decode method_3_code 7 = .ok (.dup, 1) := by decide +kernel
theorem od_m_3_8 : decode method_3_code 8 = .ok (.iconst 0, 1) := by decide +kernel
theorem od_m_3_9 : decode method_3_code 9 = .ok (.newarray .char, 2) := by decide +kernel
theorem od_m_3_11 : decode method_3_code 11 = .ok (.invokespecial 47, 3) := by decide +kernel
theorem od_m_3_14 : decode method_3_code 14 = .ok (.areturn, 1) := by decide +kernel
theorem od_m_3_15 : decode method_3_code 15 = .ok (.iload_n 1, 1) := by decide +kernel
theorem od_m_3_16 : decode method_3_code 16 = .ok (.iconst 1, 1) := by decide +kernel
theorem od_m_3_17 : decode method_3_code 17 = .ok (.if_icmp .ne 20, 3) := by decide +kernel
theorem od_m_3_20 : decode method_3_code 20 = .ok (.new 17, 3) := by decide +kernel
theorem od_m_3_23 : decode method_3_code 23 = .ok (.dup, 1) := by decide +kernel
theorem od_m_3_24 : decode method_3_code 24 = .ok (.iconst 1, 1) := by decide +kernel
theorem od_m_3_25 : decode method_3_code 25 = .ok (.newarray .char, 2) := by decide +kernel
theorem od_m_3_27 : decode method_3_code 27 = .ok (.dup, 1) := by decide +kernel
theorem od_m_3_28 : decode method_3_code 28 = .ok (.iconst 0, 1) := by decide +kernel
theorem od_m_3_29 : decode method_3_code 29 = .ok (.aload_n 0, 1) := by decide +kernel
theorem od_m_3_30 : decode method_3_code 30 = .ok (.iconst 0, 1) := by decide +kernel
theorem od_m_3_31 : decode method_3_code 31 = .ok (.caload, 1) := by decide +kernel
theorem od_m_3_32 : decode method_3_code 32 = .ok (.castore, 1) := by decide +kernel
theorem od_m_3_33 : decode method_3_code 33 = .ok (.invokespecial 47, 3) := by decide +kernel
theorem od_m_3_36 : decode method_3_code 36 = .ok (.areturn, 1) := by decide +kernel
theorem od_m_3_37 : decode method_3_code 37 = .ok (.iload_n 1, 1) := by decide +kernel
theorem od_m_3_38 : decode method_3_code 38 = .ok (.iconst 2, 1) := by decide +kernel
theorem od_m_3_39 : decode method_3_code 39 = .ok (.if_icmp .ne 26, 3) := by decide +kernel
theorem od_m_3_42 : decode method_3_code 42 = .ok (.new 17, 3) := by decide +kernel
theorem od_m_3_45 : decode method_3_code 45 = .ok (.dup, 1) := by decide +kernel
theorem od_m_3_46 : decode method_3_code 46 = .ok (.iconst 2, 1) := by decide +kernel
theorem od_m_3_47 : decode method_3_code 47 = .ok (.newarray .char, 2) := by decide +kernel
theorem od_m_3_49 : decode method_3_code 49 = .ok (.dup, 1) := by decide +kernel
theorem od_m_3_50 : decode method_3_code 50 = .ok (.iconst 0, 1) := by decide +kernel
theorem od_m_3_51 : decode method_3_code 51 = .ok (.aload_n 0, 1) := by decide +kernel
theorem od_m_3_52 : decode method_3_code 52 = .ok (.iconst 0, 1) := by decide +kernel
theorem od_m_3_53 : decode method_3_code 53 = .ok (.caload, 1) := by decide +kernel
theorem od_m_3_54 : decode method_3_code 54 = .ok (.castore, 1) := by decide +kernel
theorem od_m_3_55 : decode method_3_code 55 = .ok (.dup, 1) := by decide +kernel
theorem od_m_3_56 : decode method_3_code 56 = .ok (.iconst 1, 1) := by decide +kernel
theorem od_m_3_57 : decode method_3_code 57 = .ok (.aload_n 0, 1) := by decide +kernel
theorem od_m_3_58 : decode method_3_code 58 = .ok (.iconst 1, 1) := by decide +kernel
theorem od_m_3_59 : decode method_3_code 59 = .ok (.caload, 1) := by decide +kernel
theorem od_m_3_60 : decode method_3_code 60 = .ok (.castore, 1) := by decide +kernel
theorem od_m_3_61 : decode method_3_code 61 = .ok (.invokespecial 47, 3) := by decide +kernel
theorem od_m_3_64 : decode method_3_code 64 = .ok (.areturn, 1) := by decide +kernel
theorem od_m_3_65 : decode method_3_code 65 = .ok (.iload_n 1, 1) := by decide +kernel
theorem od_m_3_66 : decode method_3_code 66 = .ok (.iconst 3, 1) := by decide +kernel
theorem od_m_3_67 : decode method_3_code 67 = .ok (.if_icmp .ne 32, 3) := by decide +kernel
theorem od_m_3_70 : decode method_3_code 70 = .ok (.new 17, 3) := by decide +kernel
theorem od_m_3_73 : decode method_3_code 73 = .ok (.dup, 1) := by decide +kernel
theorem od_m_3_74 : decode method_3_code 74 = .ok (.iconst 3, 1) := by decide +kernel
theorem od_m_3_75 : decode method_3_code 75 = .ok (.newarray .char, 2) := by decide +kernel
theorem od_m_3_77 : decode method_3_code 77 = .ok (.dup, 1) := by decide +kernel
theorem od_m_3_78 : decode method_3_code 78 = .ok (.iconst 0, 1) := by decide +kernel
theorem od_m_3_79 : decode method_3_code 79 = .ok (.aload_n 0, 1) := by decide +kernel
theorem od_m_3_80 : decode method_3_code 80 = .ok (.iconst 0, 1) := by decide +kernel
theorem od_m_3_81 : decode method_3_code 81 = .ok (.caload, 1) := by decide +kernel
theorem od_m_3_82 : decode method_3_code 82 = .ok (.castore, 1) := by decide +kernel
theorem od_m_3_83 : decode method_3_code 83 = .ok (.dup, 1) := by decide +kernel
theorem od_m_3_84 : decode method_3_code 84 = .ok (.iconst 1, 1) := by decide +kernel
theorem od_m_3_85 : decode method_3_code 85 = .ok (.aload_n 0, 1) := by decide +kernel
theorem od_m_3_86 : decode method_3_code 86 = .ok (.iconst 1, 1) := by decide +kernel
theorem od_m_3_87 : decode method_3_code 87 = .ok (.caload, 1) := by decide +kernel
theorem od_m_3_88 : decode method_3_code 88 = .ok (.castore, 1) := by decide +kernel
theorem od_m_3_89 : decode method_3_code 89 = .ok (.dup, 1) := by decide +kernel
theorem od_m_3_90 : decode method_3_code 90 = .ok (.iconst 2, 1) := by decide +kernel
theorem od_m_3_91 : decode method_3_code 91 = .ok (.aload_n 0, 1) := by decide +kernel
theorem od_m_3_92 : decode method_3_code 92 = .ok (.iconst 2, 1) := by decide +kernel
theorem od_m_3_93 : decode method_3_code 93 = .ok (.caload, 1) := by decide +kernel
theorem od_m_3_94 : decode method_3_code 94 = .ok (.castore, 1) := by decide +kernel
theorem od_m_3_95 : decode method_3_code 95 = .ok (.invokespecial 47, 3) := by decide +kernel
theorem od_m_3_98 : decode method_3_code 98 = .ok (.areturn, 1) := by decide +kernel
theorem od_m_3_99 : decode method_3_code 99 = .ok (.iload_n 1, 1) := by decide +kernel
theorem od_m_3_100 : decode method_3_code 100 = .ok (.iconst 4, 1) := by decide +kernel
theorem od_m_3_101 : decode method_3_code 101 = .ok (.if_icmp .ne 38, 3) := by decide +kernel
theorem od_m_3_104 : decode method_3_code 104 = .ok (.new 17, 3) := by decide +kernel
theorem od_m_3_107 : decode method_3_code 107 = .ok (.dup, 1) := by decide +kernel
theorem od_m_3_108 : decode method_3_code 108 = .ok (.iconst 4, 1) := by decide +kernel
theorem od_m_3_109 : decode method_3_code 109 = .ok (.newarray .char, 2) := by decide +kernel
theorem od_m_3_111 : decode method_3_code 111 = .ok (.dup, 1) := by decide +kernel
theorem od_m_3_112 : decode method_3_code 112 = .ok (.iconst 0, 1) := by decide +kernel
theorem od_m_3_113 : decode method_3_code 113 = .ok (.aload_n 0, 1) := by decide +kernel
theorem od_m_3_114 : decode method_3_code 114 = .ok (.iconst 0, 1) := by decide +kernel
theorem od_m_3_115 : decode method_3_code 115 = .ok (.caload, 1) := by decide +kernel
theorem od_m_3_116 : decode method_3_code 116 = .ok (.castore, 1) := by decide +kernel
theorem od_m_3_117 : decode method_3_code 117 = .ok (.dup, 1) := by decide +kernel
theorem od_m_3_118 : decode method_3_code 118 = .ok (.iconst 1, 1) := by decide +kernel
theorem od_m_3_119 : decode method_3_code 119 = .ok (.aload_n 0, 1) := by decide +kernel
theorem od_m_3_120 : decode method_3_code 120 = .ok (.iconst 1, 1) := by decide +kernel
theorem od_m_3_121 : decode method_3_code 121 = .ok (.caload, 1) := by decide +kernel
theorem od_m_3_122 : decode method_3_code 122 = .ok (.castore, 1) := by decide +kernel
theorem od_m_3_123 : decode method_3_code 123 = .ok (.dup, 1) := by decide +kernel
theorem od_m_3_124 : decode method_3_code 124 = .ok (.iconst 2, 1) := by decide +kernel
theorem od_m_3_125 : decode method_3_code 125 = .ok (.aload_n 0, 1) := by decide +kernel
theorem od_m_3_126 : decode method_3_code 126 = .ok (.iconst 2, 1) := by decide +kernel
theorem od_m_3_127 : decode method_3_code 127 = .ok (.caload, 1) := by decide +kernel
theorem od_m_3_128 : decode method_3_code 128 = .ok (.castore, 1) := by decide +kernel
theorem od_m_3_129 : decode method_3_code 129 = .ok (.dup, 1) := by decide +kernel
theorem od_m_3_130 : decode method_3_code 130 = .ok (.iconst 3, 1) := by decide +kernel
theorem od_m_3_131 : decode method_3_code 131 = .ok (.aload_n 0, 1) := by decide +kernel
theorem od_m_3_132 : decode method_3_code 132 = .ok (.iconst 3, 1) := by decide +kernel
theorem od_m_3_133 : decode method_3_code 133 = .ok (.caload, 1) := by decide +kernel
theorem od_m_3_134 : decode method_3_code 134 = .ok (.castore, 1) := by decide +kernel
theorem od_m_3_135 : decode method_3_code 135 = .ok (.invokespecial 47, 3) := by decide +kernel
theorem od_m_3_138 : decode method_3_code 138 = .ok (.areturn, 1) := by decide +kernel
theorem od_m_3_139 : decode method_3_code 139 = .ok (.iload_n 1, 1) := by decide +kernel
theorem od_m_3_140 : decode method_3_code 140 = .ok (.iconst 5, 1) := by decide +kernel
theorem od_m_3_141 : decode method_3_code 141 = .ok (.if_icmp .ne 44, 3) := by decide +kernel
theorem od_m_3_144 : decode method_3_code 144 = .ok (.new 17, 3) := by decide +kernel
theorem od_m_3_147 : decode method_3_code 147 = .ok (.dup, 1) := by decide +kernel
theorem od_m_3_148 : decode method_3_code 148 = .ok (.iconst 5, 1) := by decide +kernel
theorem od_m_3_149 : decode method_3_code 149 = .ok (.newarray .char, 2) := by decide +kernel
theorem od_m_3_151 : decode method_3_code 151 = .ok (.dup, 1) := by decide +kernel
theorem od_m_3_152 : decode method_3_code 152 = .ok (.iconst 0, 1) := by decide +kernel
theorem od_m_3_153 : decode method_3_code 153 = .ok (.aload_n 0, 1) := by decide +kernel
theorem od_m_3_154 : decode method_3_code 154 = .ok (.iconst 0, 1) := by decide +kernel
theorem od_m_3_155 : decode method_3_code 155 = .ok (.caload, 1) := by decide +kernel
theorem od_m_3_156 : decode method_3_code 156 = .ok (.castore, 1) := by decide +kernel
theorem od_m_3_157 : decode method_3_code 157 = .ok (.dup, 1) := by decide +kernel
theorem od_m_3_158 : decode method_3_code 158 = .ok (.iconst 1, 1) := by decide +kernel
theorem od_m_3_159 : decode method_3_code 159 = .ok (.aload_n 0, 1) := by decide +kernel
theorem od_m_3_160 : decode method_3_code 160 = .ok (.iconst 1, 1) := by decide +kernel
theorem od_m_3_161 : decode method_3_code 161 = .ok (.caload, 1) := by decide +kernel
theorem od_m_3_162 : decode method_3_code 162 = .ok (.castore, 1) := by decide +kernel
theorem od_m_3_163 : decode method_3_code 163 = .ok (.dup, 1) := by decide +kernel
theorem od_m_3_164 : decode method_3_code 164 = .ok (.iconst 2, 1) := by decide +kernel
theorem od_m_3_165 : decode method_3_code 165 = .ok (.aload_n 0, 1) := by decide +kernel
theorem od_m_3_166 : decode method_3_code 166 = .ok (.iconst 2, 1) := by decide +kernel
theorem od_m_3_167 : decode method_3_code 167 = .ok (.caload, 1) := by decide +kernel
theorem od_m_3_168 : decode method_3_code 168 = .ok (.castore, 1) := by decide +kernel
theorem od_m_3_169 : decode method_3_code 169 = .ok (.dup, 1) := by decide +kernel
theorem od_m_3_170 : decode method_3_code 170 = .ok (.iconst 3, 1) := by decide +kernel
theorem od_m_3_171 : decode method_3_code 171 = .ok (.aload_n 0, 1) := by decide +kernel
theorem od_m_3_172 : decode method_3_code 172 = .ok (.iconst 3, 1) := by decide +kernel
theorem od_m_3_173 : decode method_3_code 173 = .ok (.caload, 1) := by decide +kernel
theorem od_m_3_174 : decode method_3_code 174 = .ok (.castore, 1) := by decide +kernel
theorem od_m_3_175 : decode method_3_code 175 = .ok (.dup, 1) := by decide +kernel
theorem od_m_3_176 : decode method_3_code 176 = .ok (.iconst 4, 1) := by decide +kernel
theorem od_m_3_177 : decode method_3_code 177 = .ok (.aload_n 0, 1) := by decide +kernel
theorem od_m_3_178 : decode method_3_code 178 = .ok (.iconst 4, 1) := by decide +kernel
theorem od_m_3_179 : decode method_3_code 179 = .ok (.caload, 1) := by decide +kernel
theorem od_m_3_180 : decode method_3_code 180 = .ok (.castore, 1) := by decide +kernel
theorem od_m_3_181 : decode method_3_code 181 = .ok (.invokespecial 47, 3) := by decide +kernel
theorem od_m_3_184 : decode method_3_code 184 = .ok (.areturn, 1) := by decide +kernel
theorem od_m_3_185 : decode method_3_code 185 = .ok (.iload_n 1, 1) := by decide +kernel
theorem od_m_3_186 : decode method_3_code 186 = .ok (.bipush 6, 2) := by decide +kernel
theorem od_m_3_188 : decode method_3_code 188 = .ok (.if_icmp .ne 51, 3) := by decide +kernel
theorem od_m_3_191 : decode method_3_code 191 = .ok (.new 17, 3) := by decide +kernel
theorem od_m_3_194 : decode method_3_code 194 = .ok (.dup, 1) := by decide +kernel
theorem od_m_3_195 : decode method_3_code 195 = .ok (.bipush 6, 2) := by decide +kernel
theorem od_m_3_197 : decode method_3_code 197 = .ok (.newarray .char, 2) := by decide +kernel
theorem od_m_3_199 : decode method_3_code 199 = .ok (.dup, 1) := by decide +kernel
theorem od_m_3_200 : decode method_3_code 200 = .ok (.iconst 0, 1) := by decide +kernel
theorem od_m_3_201 : decode method_3_code 201 = .ok (.aload_n 0, 1) := by decide +kernel
theorem od_m_3_202 : decode method_3_code 202 = .ok (.iconst 0, 1) := by decide +kernel
theorem od_m_3_203 : decode method_3_code 203 = .ok (.caload, 1) := by decide +kernel
theorem od_m_3_204 : decode method_3_code 204 = .ok (.castore, 1) := by decide +kernel
theorem od_m_3_205 : decode method_3_code 205 = .ok (.dup, 1) := by decide +kernel
theorem od_m_3_206 : decode method_3_code 206 = .ok (.iconst 1, 1) := by decide +kernel
theorem od_m_3_207 : decode method_3_code 207 = .ok (.aload_n 0, 1) := by decide +kernel
theorem od_m_3_208 : decode method_3_code 208 = .ok (.iconst 1, 1) := by decide +kernel
theorem od_m_3_209 : decode method_3_code 209 = .ok (.caload, 1) := by decide +kernel
theorem od_m_3_210 : decode method_3_code 210 = .ok (.castore, 1) := by decide +kernel
theorem od_m_3_211 : decode method_3_code 211 = .ok (.dup, 1) := by decide +kernel
theorem od_m_3_212 : decode method_3_code 212 = .ok (.iconst 2, 1) := by decide +kernel
theorem od_m_3_213 : decode method_3_code 213 = .ok (.aload_n 0, 1) := by decide +kernel
theorem od_m_3_214 : decode method_3_code 214 = .ok (.iconst 2, 1) := by decide +kernel
theorem od_m_3_215 : decode method_3_code 215 = .ok (.caload, 1) := by decide +kernel
theorem od_m_3_216 : decode method_3_code 216 = .ok (.castore, 1) := by decide +kernel
theorem od_m_3_217 : decode method_3_code 217 = .ok (.dup, 1) := by decide +kernel
theorem od_m_3_218 : decode method_3_code 218 = .ok (.iconst 3, 1) := by decide +kernel
theorem od_m_3_219 : decode method_3_code 219 = .ok (.aload_n 0, 1) := by decide +kernel
theorem od_m_3_220 : decode method_3_code 220 = .ok (.iconst 3, 1) := by decide +kernel
theorem od_m_3_221 : decode method_3_code 221 = .ok (.caload, 1) := by decide +kernel
theorem od_m_3_222 : decode method_3_code 222 = .ok (.castore, 1) := by decide +kernel
theorem od_m_3_223 : decode method_3_code 223 = .ok (.dup, 1) := by decide +kernel
theorem od_m_3_224 : decode method_3_code 224 = .ok (.iconst 4, 1) := by decide +kernel
theorem od_m_3_225 : decode method_3_code 225 = .ok (.aload_n 0, 1) := by decide +kernel
theorem od_m_3_226 : decode method_3_code 226 = .ok (.iconst 4, 1) := by decide +kernel
theorem od_m_3_227 : decode method_3_code 227 = .ok (.caload, 1) := by decide +kernel
theorem od_m_3_228 : decode method_3_code 228 = .ok (.castore, 1) := by decide +kernel
theorem od_m_3_229 : decode method_3_code 229 = .ok (.dup, 1) := by decide +kernel
theorem od_m_3_230 : decode method_3_code 230 = .ok (.iconst 5, 1) := by decide +kernel
theorem od_m_3_231 : decode method_3_code 231 = .ok (.aload_n 0, 1) := by decide +kernel
theorem od_m_3_232 : decode method_3_code 232 = .ok (.iconst 5, 1) := by decide +kernel
theorem od_m_3_233 : decode method_3_code 233 = .ok (.caload, 1) := by decide +kernel
theorem od_m_3_234 : decode method_3_code 234 = .ok (.castore, 1) := by decide +kernel
theorem od_m_3_235 : decode method_3_code 235 = .ok (.invokespecial 47, 3) := by decide +kernel
theorem od_m_3_238 : decode method_3_code 238 = .ok (.areturn, 1) := by decide +kernel
theorem od_m_3_239 : decode method_3_code 239 = .ok (.new 17, 3) := by decide +kernel
theorem od_m_3_242 : decode method_3_code 242 = .ok (.dup, 1) := by decide +kernel
theorem od_m_3_243 : decode method_3_code 243 = .ok (.bipush 7, 2) := by decide +kernel
theorem od_m_3_245 : decode method_3_code 245 = .ok (.newarray .char, 2) := by decide +kernel
theorem od_m_3_247 : decode method_3_code 247 = .ok (.dup, 1) := by decide +kernel
theorem od_m_3_248 : decode method_3_code 248 = .ok (.iconst 0, 1) := by decide +kernel
theorem od_m_3_249 : decode method_3_code 249 = .ok (.aload_n 0, 1) := by decide +kernel
theorem od_m_3_250 : decode method_3_code 250 = .ok (.iconst 0, 1) := by decide +kernel
theorem od_m_3_251 : decode method_3_code 251 = .ok (.caload, 1) := by decide +kernel
theorem od_m_3_252 : decode method_3_code 252 = .ok (.castore, 1) := by decide +kernel
theorem od_m_3_253 : decode method_3_code 253 = .ok (.dup, 1) := by decide +kernel
theorem od_m_3_254 : decode method_3_code 254 = .ok (.iconst 1, 1) := by decide +kernel
theorem od_m_3_255 : decode method_3_code 255 = .ok (.aload_n 0, 1) := by decide +kernel
theorem od_m_3_256 : decode method_3_code 256 = .ok (.iconst 1, 1) := by decide +kernel
theorem od_m_3_257 : decode method_3_code 257 = .ok (.caload, 1) := by decide +kernel
theorem od_m_3_258 : decode method_3_code 258 = .ok (.castore, 1) := by decide +kernel
theorem od_m_3_259 : decode method_3_code 259 = .ok (.dup, 1) := by decide +kernel
theorem od_m_3_260 : decode method_3_code 260 = .ok (.iconst 2, 1) := by decide +kernel
theorem od_m_3_261 : decode method_3_code 261 = .ok (.aload_n 0, 1) := by decide +kernel
theorem od_m_3_262 : decode method_3_code 262 = .ok (.iconst 2, 1) := by decide +kernel
theorem od_m_3_263 : decode method_3_code 263 = .ok (.caload, 1) := by decide +kernel
theorem od_m_3_264 : decode method_3_code 264 = .ok (.castore, 1) := by decide +kernel
theorem od_m_3_265 : decode method_3_code 265 = .ok (.dup, 1) := by decide +kernel
theorem od_m_3_266 : decode method_3_code 266 = .ok (.iconst 3, 1) := by decide +kernel
theorem od_m_3_267 : decode method_3_code 267 = .ok (.aload_n 0, 1) := by decide +kernel
theorem od_m_3_268 : decode method_3_code 268 = .ok (.iconst 3, 1) := by decide +kernel
theorem od_m_3_269 : decode method_3_code 269 = .ok (.caload, 1) := by decide +kernel
theorem od_m_3_270 : decode method_3_code 270 = .ok (.castore, 1) := by decide +kernel
theorem od_m_3_271 : decode method_3_code 271 = .ok (.dup, 1) := by decide +kernel
theorem od_m_3_272 : decode method_3_code 272 = .ok (.iconst 4, 1) := by decide +kernel
theorem od_m_3_273 : decode method_3_code 273 = .ok (.aload_n 0, 1) := by decide +kernel
theorem od_m_3_274 : decode method_3_code 274 = .ok (.iconst 4, 1) := by decide +kernel
theorem od_m_3_275 : decode method_3_code 275 = .ok (.caload, 1) := by decide +kernel
theorem od_m_3_276 : decode method_3_code 276 = .ok (.castore, 1) := by decide +kernel
theorem od_m_3_277 : decode method_3_code 277 = .ok (.dup, 1) := by decide +kernel
theorem od_m_3_278 : decode method_3_code 278 = .ok (.iconst 5, 1) := by decide +kernel
theorem od_m_3_279 : decode method_3_code 279 = .ok (.aload_n 0, 1) := by decide +kernel
theorem od_m_3_280 : decode method_3_code 280 = .ok (.iconst 5, 1) := by decide +kernel
theorem od_m_3_281 : decode method_3_code 281 = .ok (.caload, 1) := by decide +kernel
theorem od_m_3_282 : decode method_3_code 282 = .ok (.castore, 1) := by decide +kernel
theorem od_m_3_283 : decode method_3_code 283 = .ok (.dup, 1) := by decide +kernel
theorem od_m_3_284 : decode method_3_code 284 = .ok (.bipush 6, 2) := by decide +kernel
theorem od_m_3_286 : decode method_3_code 286 = .ok (.aload_n 0, 1) := by decide +kernel
theorem od_m_3_287 : decode method_3_code 287 = .ok (.bipush 6, 2) := by decide +kernel
theorem od_m_3_289 : decode method_3_code 289 = .ok (.caload, 1) := by decide +kernel
theorem od_m_3_290 : decode method_3_code 290 = .ok (.castore, 1) := by decide +kernel
theorem od_m_3_291 : decode method_3_code 291 = .ok (.invokespecial 47, 3) := by decide +kernel
theorem od_m_3_294 : decode method_3_code 294 = .ok (.areturn, 1) := by decide +kernel
theorem od_prog_4_m_1_0 : decode prog_4_method_1_code 0 = .ok (.getstatic 10, 3) := by decide +kernel
theorem od_prog_4_m_1_3 : decode prog_4_method_1_code 3 = .ok (.invokevirtual 14, 3) := by decide +kernel
theorem od_prog_4_m_1_6 : decode prog_4_method_1_code 6 = .ok (.checkcast 15, 3) := by decide +kernel
theorem od_prog_4_m_1_9 : decode prog_4_method_1_code 9 = .ok (.areturn, 1) := by decide +kernel
theorem od_prog_4_m_4_0 : decode prog_4_method_4_code 0 = .ok (.invokestatic 44, 3) := by decide +kernel
theorem od_prog_4_m_4_3 : decode prog_4_method_4_code 3 = .ok (.astore_n 1, 1) := by decide +kernel
theorem od_prog_4_m_4_4 : decode prog_4_method_4_code 4 = .ok (.invokestatic 50, 3) := by decide +kernel
theorem od_prog_4_m_4_7 : decode prog_4_method_4_code 7 = .ok (.astore_n 2, 1) := by decide +kernel
theorem od_prog_4_m_4_8 : decode prog_4_method_4_code 8 = .ok (.aload_n 2, 1) := by decide +kernel
theorem od_prog_4_m_4_9 : decode prog_4_method_4_code 9 = .ok (.arraylength, 1) := by decide +kernel
theorem od_prog_4_m_4_10 : decode prog_4_method_4_code 10 = .ok (.istore_n 3, 1) := by decide +kernel
theorem od_prog_4_m_4_11 : decode prog_4_method_4_code 11 = .ok (.iconst 0, 1) := by decide +kernel
theorem od_prog_4_m_4_12 : decode prog_4_method_4_code 12 = .ok (.istore 4, 2) := by decide +kernel
theorem od_prog_4_m_4_14 : decode prog_4_method_4_code 14 = .ok (.iload 4, 2) := by decide +kernel
theorem od_prog_4_m_4_16 : decode prog_4_method_4_code 16 = .ok (.iload_n 3, 1) := by decide +kernel
theorem od_prog_4_m_4_17 : decode prog_4_method_4_code 17 = .ok (.if_icmp .ge 33, 3) := by decide +kernel
theorem od_prog_4_m_4_20 : decode prog_4_method_4_code 20 = .ok (.aload_n 2, 1) := by decide +kernel
theorem od_prog_4_m_4_21 : decode prog_4_method_4_code 21 = .ok (.iload 4, 2) := by decide +kernel
theorem od_prog_4_m_4_23 : decode prog_4_method_4_code 23 = .ok (.aaload, 1) := by decide +kernel
theorem od_prog_4_m_4_24 : decode prog_4_method_4_code 24 = .ok (.astore 5, 2) := by decide +kernel
theorem od_prog_4_m_4_26 : decode prog_4_method_4_code 26 = .ok (.aload 5, 2) := by decide +kernel
theorem od_prog_4_m_4_28 : decode prog_4_method_4_code 28 = .ok (.getfield 29, 3) := by decide +kernel
theorem od_prog_4_m_4_31 : decode prog_4_method_4_code 31 = .ok (.aload_n 0, 1) := by decide +kernel
theorem od_prog_4_m_4_32 : decode prog_4_method_4_code 32 = .ok (.invokevirtual 54, 3) := by decide +kernel
theorem od_prog_4_m_4_35 : decode prog_4_method_4_code 35 = .ok (.ifCond .eq 9, 3) := by decide +kernel
theorem od_prog_4_m_4_38 : decode prog_4_method_4_code 38 = .ok (.aload 5, 2) := by decide +kernel
theorem od_prog_4_m_4_40 : decode prog_4_method_4_code 40 = .ok (.invokestatic 60, 3) := by decide +kernel
theorem od_prog_4_m_4_43 : decode prog_4_method_4_code 43 = .ok (.astore_n 1, 1) := by decide +kernel
theorem od_prog_4_m_4_44 : decode prog_4_method_4_code 44 = .ok (.iinc 4 1, 3) := by decide +kernel
theorem od_prog_4_m_4_47 : decode prog_4_method_4_code 47 = .ok (.goto (-33), 3) := by decide +kernel
theorem od_prog_4_m_4_50 : decode prog_4_method_4_code 50 = .ok (.aload_n 1, 1) := by decide +kernel
theorem od_prog_4_m_4_51 : decode prog_4_method_4_code 51 = .ok (.areturn, 1) := by decide +kernel
theorem opd_0 : parseMethodDescriptor "([CIILjava/lang/Void;)V" = some ⟨[(.array .char), .int, .int, (.object "java/lang/Void")], none⟩ := by decide +kernel
theorem opd_1 : parseMethodDescriptor "([C)V" = some ⟨[(.array .char)], none⟩ := by decide +kernel
theorem opd_2 : parseMethodDescriptor "(Ljava/lang/Object;)Ljava/lang/Object;" = some ⟨[(.object "java/lang/Object")], some (.object "java/lang/Object")⟩ := by decide +kernel
theorem opd_3 : parseMethodDescriptor "(Ljava/lang/Object;)V" = some ⟨[(.object "java/lang/Object")], none⟩ := by decide +kernel
theorem opd_4 : parseMethodDescriptor "()Ljava/util/Optional;" = some ⟨[], some (.object "java/util/Optional")⟩ := by decide +kernel
theorem opd_5 : parseMethodDescriptor "()[Lcom/example/antecedent/antecedent/EntityType;" = some ⟨[], some (.array (.object "com/example/antecedent/antecedent/EntityType"))⟩ := by decide +kernel
theorem opd_6 : parseMethodDescriptor "(Ljava/lang/Object;)Z" = some ⟨[(.object "java/lang/Object")], some .boolean⟩ := by decide +kernel
theorem opd_7 : parseMethodDescriptor "(Ljava/lang/Object;)Ljava/util/Optional;" = some ⟨[(.object "java/lang/Object")], some (.object "java/util/Optional")⟩ := by decide +kernel
theorem opd_8 : parseMethodDescriptor "(Ljava/lang/String;)Ljava/util/Optional;" = some ⟨[(.object "java/lang/String")], some (.object "java/util/Optional")⟩ := by decide +kernel
theorem opd_9 : parseMethodDescriptor "()Z" = some ⟨[], some .boolean⟩ := by decide +kernel
theorem opd_10 : parseMethodDescriptor "()Ljava/lang/Object;" = some ⟨[], some (.object "java/lang/Object")⟩ := by decide +kernel
theorem opd_11 : parseMethodDescriptor "([CI)Ljava/lang/String;" = some ⟨[(.array .char), .int], some (.object "java/lang/String")⟩ := by decide +kernel
theorem opn_0 : plainName "java/lang/String" = true := by first | (simp [plainName, overriddenIn]; done) | decide +kernel
theorem opn_1 : plainName "com/example/antecedent/antecedent/EntityTypeForLabelPinLaw" = true := by first | (simp [plainName, overriddenIn]; done) | decide +kernel
theorem opn_2 : plainName "java/util/Optional" = true := by first | (simp [plainName, overriddenIn]; done) | decide +kernel
theorem opn_3 : plainName "java/util/Objects" = true := by first | (simp [plainName, overriddenIn]; done) | decide +kernel
theorem opn_4 : plainName "com/example/antecedent/antecedent/EntityType" = true := by first | (simp [plainName, overriddenIn]; done) | decide +kernel
theorem oef_iv0 (m : MethodId) (x0 : Addr) (x1 : Addr) (x2 : Int32) (x3 : Int32) : entryFrame m #[(.ref x0), (.ref x1), (.int x2), (.int x3), .null] 6 = mkF m 0 #[.val (.ref x0), .val (.ref x1), .val (.int x2), .val (.int x3), .val .null, .unset] [] := by first | (simp [entryFrame, mkF, argsToLocals, Value.category, maxLocals]; done) | rfl
theorem oef_ic0 (m : MethodId) (x0 : Addr) (x1 : Addr) : entryFrame m #[(.ref x0), (.ref x1)] 2 = mkF m 0 #[.val (.ref x0), .val (.ref x1)] [] := by first | (simp [entryFrame, mkF, argsToLocals, Value.category, maxLocals]; done) | rfl
theorem oef_make0 (m : MethodId) (x0 : Addr) (x1 : Int32) : entryFrame m #[(.ref x0), (.int x1)] 2 = mkF m 0 #[.val (.ref x0), .val (.int x1)] [] := by first | (simp [entryFrame, mkF, argsToLocals, Value.category, maxLocals]; done) | rfl
theorem oef_make1 (m : MethodId) (x0 : Addr) (x1 : Int32) : entryFrame m #[(.ref x0), (.int x1)] 2 = mkF m 0 #[.val (.ref x0), .val (.int x1)] [] := by first | (simp [entryFrame, mkF, argsToLocals, Value.category, maxLocals]; done) | rfl
theorem oef_make2 (m : MethodId) (x0 : Addr) (x1 : Int32) : entryFrame m #[(.ref x0), (.int x1)] 2 = mkF m 0 #[.val (.ref x0), .val (.int x1)] [] := by first | (simp [entryFrame, mkF, argsToLocals, Value.category, maxLocals]; done) | rfl
theorem oef_make3 (m : MethodId) (x0 : Addr) (x1 : Int32) : entryFrame m #[(.ref x0), (.int x1)] 2 = mkF m 0 #[.val (.ref x0), .val (.int x1)] [] := by first | (simp [entryFrame, mkF, argsToLocals, Value.category, maxLocals]; done) | rfl
theorem oef_make4 (m : MethodId) (x0 : Addr) (x1 : Int32) : entryFrame m #[(.ref x0), (.int x1)] 2 = mkF m 0 #[.val (.ref x0), .val (.int x1)] [] := by first | (simp [entryFrame, mkF, argsToLocals, Value.category, maxLocals]; done) | rfl
theorem oef_make5 (m : MethodId) (x0 : Addr) (x1 : Int32) : entryFrame m #[(.ref x0), (.int x1)] 2 = mkF m 0 #[.val (.ref x0), .val (.int x1)] [] := by first | (simp [entryFrame, mkF, argsToLocals, Value.category, maxLocals]; done) | rfl
theorem oef_make6 (m : MethodId) (x0 : Addr) (x1 : Int32) : entryFrame m #[(.ref x0), (.int x1)] 2 = mkF m 0 #[.val (.ref x0), .val (.int x1)] [] := by first | (simp [entryFrame, mkF, argsToLocals, Value.category, maxLocals]; done) | rfl
theorem oef_make7 (m : MethodId) (x0 : Addr) (x1 : Int32) : entryFrame m #[(.ref x0), (.int x1)] 2 = mkF m 0 #[.val (.ref x0), .val (.int x1)] [] := by first | (simp [entryFrame, mkF, argsToLocals, Value.category, maxLocals]; done) | rfl
theorem oef_oempty (m : MethodId)  : entryFrame m #[] 1 = mkF m 0 #[.unset] [] := by first | (simp [entryFrame, mkF, argsToLocals, Value.category, maxLocals]; done) | rfl
theorem oef_rnn (m : MethodId) (x0 : Addr) : entryFrame m #[(.ref x0)] 1 = mkF m 0 #[.val (.ref x0)] [] := by first | (simp [entryFrame, mkF, argsToLocals, Value.category, maxLocals]; done) | rfl
theorem oef_oinit (m : MethodId) (x0 : Addr) (x1 : Addr) : entryFrame m #[(.ref x0), (.ref x1)] 2 = mkF m 0 #[.val (.ref x0), .val (.ref x1)] [] := by first | (simp [entryFrame, mkF, argsToLocals, Value.category, maxLocals]; done) | rfl
theorem oef_oof (m : MethodId) (x0 : Addr) : entryFrame m #[(.ref x0)] 1 = mkF m 0 #[.val (.ref x0)] [] := by first | (simp [entryFrame, mkF, argsToLocals, Value.category, maxLocals]; done) | rfl
theorem oef_isp0 (m : MethodId) (x0 : Addr) : entryFrame m #[(.ref x0)] 1 = mkF m 0 #[.val (.ref x0)] [] := by first | (simp [entryFrame, mkF, argsToLocals, Value.category, maxLocals]; done) | rfl
theorem oef_isp1 (m : MethodId) (x0 : Addr) : entryFrame m #[(.ref x0)] 1 = mkF m 0 #[.val (.ref x0)] [] := by first | (simp [entryFrame, mkF, argsToLocals, Value.category, maxLocals]; done) | rfl
theorem oef_oget (m : MethodId) (x0 : Addr) : entryFrame m #[(.ref x0)] 1 = mkF m 0 #[.val (.ref x0)] [] := by first | (simp [entryFrame, mkF, argsToLocals, Value.category, maxLocals]; done) | rfl
theorem oef_values (m : MethodId)  : entryFrame m #[] 0 = mkF m 0 #[] [] := by first | (simp [entryFrame, mkF, argsToLocals, Value.category, maxLocals]; done) | rfl
theorem oef_forLabel (m : MethodId) (x0 : Addr) : entryFrame m #[(.ref x0)] 6 = mkF m 0 #[.val (.ref x0), .unset, .unset, .unset, .unset, .unset] [] := by first | (simp [entryFrame, mkF, argsToLocals, Value.category, maxLocals]; done) | rfl
theorem hw_eq {a0 : Array Value} {Z : State} (hw : HW a0 Z) : ∀ d ∈ StrChars.Road.wordsEq, d.before a0 Z = true := fun d hd => hw d ((by decide +kernel : ∀ d ∈ StrChars.Road.wordsEq, d ∈ tables_1) d hd)
theorem oef_law (m : MethodId) (x0 : Int32) (x1 : Int32) (x2 : Int32) (x3 : Int32) (x4 : Int32) (x5 : Int32) : entryFrame m #[(.int x0), (.int x1), (.int x2), (.int x3), (.int x4), (.int x5)] maxLocals = mkF m 0 #[.val (.int x0), .val (.int x1), .val (.int x2), .val (.int x3), .val (.int x4), .val (.int x5), .unset, .unset, .unset, .unset, .unset, .unset, .unset] [] := by first | (simp [entryFrame, mkF, argsToLocals, Value.category, maxLocals]; done) | rfl
abbrev EL : List (String × Nat) := consts_1
theorem hEW {a0 : Array Value} {Z : State} (hw : HW a0 Z) : EW Z a0 EL := (EW.cons (ow34 hw) (by decide) (EW.cons (ow47 hw) (by decide) (EW.cons (ow106 hw) (by decide) EW.nil)))
theorem ostr {a0 : Array Value} {Z : State} (hw : HW a0 Z) : ∀ a ∈ Bundle.stringAtoms, a.before a0 Z = true := fun a ha => hw a ((by decide +kernel : ∀ a ∈ Bundle.stringAtoms, a ∈ tables_1) a ha)
def Q_iv0 (Z : State) (a1 : Addr) (a2 : Addr) (h0 : Heap) (n0 : Nat) (rv : Option Value) (hE : Heap) (LE : List Loc) : Prop := ∃ t : Addr, ∃ kb : ClassId, rv = none ∧ Fr n0 LE ∧ Keep h0 hE [a1] ∧ (Exa Z hE a1 "java/lang/String") ∧ (Fld Z hE a1 "java/lang/String" "coder" "B" (.int (0 : Int32))) ∧ (Fld Z hE a1 "java/lang/String" "value" "[B" (.ref t)) ∧ (Arv Z hE t kb .byte (0 : Int32) (B8 []) (.int (0 : Int32)))
set_option maxRecDepth 65536 in
set_option maxHeartbeats 40000000 in
theorem rm_iv0 (l : Launch) (Z : State) (a0 : Array Value) (hw : HW a0 Z) (ws : List Jvm.Cond) (a1 : Addr) (a2 : Addr) (h0 : Heap) (n0 : Nat) (Z0 : n0 ≤ h0.size) (E1 : Exa Z h0 a1 "java/lang/String") (g_a1 : n0 ≤ a1) (F1 : Fld Z h0 a1 "java/lang/String" "value" "[B" .null) (F2 : Fld Z h0 a1 "java/lang/String" "coder" "B" (.int (0 : Int32))) :
    MetFree l (⟨"java/lang/String", "<init>", "([CIILjava/lang/Void;)V"⟩ : MethodName) (head1 (Jvm.Cond.code (⟨"java/lang/String", "<init>", "([CIILjava/lang/Void;)V"⟩ : MethodName) jdk_42_method_149_code 6 (Option.none : Option Jvm.ClassFile.FieldType) :: ws) ({ frames := 1, cells := 4, slots := 8, locals := 12 } : Room)) (fun a U => a = #[(.ref a1), (.ref a2), (.int (0 : Int32)), (.int (0 : Int32)), .null] ∧ Z.Warmed39 U.vm ∧ U.heap = h0 ∧ CHv Z EL U.vm h0) (fun _ _ _ _ _ => True) (fun _ U o U' => OutW Z EL U (Q_iv0 Z a1 a2 h0 n0) ({ frames := 1, cells := 4, slots := 8, locals := 12 } : Room).cells ({ frames := 1, cells := 4, slots := 8, locals := 12 } : Room).slots o U') := by
  refine MetFree.of_bodySF (plainFor_of_name opn_0) hisR ?_
  intro p e s m args below meth c s₁ Bd hml0 hP hK
  obtain ⟨rfl, hZ, hh, hCH⟩ := hP
  have hx := Bd.exec
  have hby := Bd.bytes
  have hml : c.maxLocals = 6 := hml0
  have hret := Bd.returns
  have hlk : meth.locks = false := BodyLoose.notSynchronized Bd
  have hown : s.vm.findClass "java/lang/String" = some m.cls := findClass_of_methodNamed Bd.named
  have hnm := (name_of_methodNamed Bd.named Bd.method).1
  have X0 : Stand p l e ({ frames := 1, cells := 4, slots := 8, locals := 12 } : Room) (s.setVm s.vm) m #[(.ref a1), (.ref a2), (.int (0 : Int32)), (.int (0 : Int32)), .null] below meth c s₁ [] 0 0 := Stand.of_body Bd
  have e0 : s₁.heap = h0 := by rw [← hh, Bd.state]; rfl
  have N0 := Fr.nil n0
  have hS0 : s.Since s.vm h0.size := (State.WarmedH.refl s).since _
  have CR0 : CHr Z EL s.vm s.heap s.vm h0 := by rw [hh]; exact CHr.refl hCH
  have K0 : Keep h0 h0 [a1] := Keep.refl h0 _
  show Go p e below (OutW Z EL s (Q_iv0 Z a1 a2 h0 n0) ({ frames := 1, cells := 4, slots := 8, locals := 12 } : Room).cells ({ frames := 1, cells := 4, slots := 8, locals := 12 } : Room).slots) s₁ (entryFrame m #[(.ref a1), (.ref a2), (.int (0 : Int32)), (.int (0 : Int32)), .null] 6)
  refine Go.cast (oef_iv0 m a1 a2 (0 : Int32) (0 : Int32)) ?_
  show Go p e below _ s₁ (mkF m 0 #[.val (.ref a1), .val (.ref a2), .val (.int (0 : Int32)), .val (.int (0 : Int32)), .val .null, .unset] [])
  have Sf0 : Safe Z EL s.vm h0 a1 := safe_str hZ.alike E1 F1
  refine Go.by (fun t k => XS.aloadN X0.here hx rfl (hb hby od_jdk_42_m_149_0) rfl rfl k) ?_
  show Go p e below _ s₁ (mkF m 1 #[.val (.ref a1), .val (.ref a2), .val (.int (0 : Int32)), .val (.int (0 : Int32)), .val .null, .unset] [(.ref a1)])
  obtain ⟨T101, X101, e101, st101⟩ := initO X0 hx hZ hown (ow15 hw) (ow16 hw) (ow17 hw) e0 (g := (mkF m 1 #[.val (.ref a1), .val (.ref a2), .val (.int (0 : Int32)), .val (.int (0 : Int32)), .val .null, .unset] [(.ref a1)])) rfl (by rw [hml]; rfl) rfl (hb hby od_jdk_42_m_149_1) (by decide) (W := 0) (by show 2 * 0 + _ ≤ _; exact Nat.le_of_eq rfl) (by decide)
  refine Go.by st101 ?_
  show Go p e below _ T101 (mkF m 4 #[.val (.ref a1), .val (.ref a2), .val (.int (0 : Int32)), .val (.int (0 : Int32)), .val .null, .unset] [])
  refine Go.by (fun t k => XS.iloadN X101.here hx rfl (hb hby od_jdk_42_m_149_4) rfl (XS.ifNo X101.here hx rfl (hb hby od_jdk_42_m_149_5) rfl ((if0 _ _).trans (teq (show (0 : Int32) = (0 : Int32) from (by decide))).2) k)) ?_
  show Go p e below _ T101 (mkF m 8 #[.val (.ref a1), .val (.ref a2), .val (.int (0 : Int32)), .val (.int (0 : Int32)), .val .null, .unset] [])
  refine Go.by (fun t k => XS.aloadN X101.here hx rfl (hb hby od_jdk_42_m_149_8) rfl rfl k) ?_
  show Go p e below _ T101 (mkF m 9 #[.val (.ref a1), .val (.ref a2), .val (.int (0 : Int32)), .val (.int (0 : Int32)), .val .null, .unset] [(.ref a1)])
  obtain ⟨sa102, T102, h102, k102, sb102, kb102, X102, e102, E102, hS102, hk102, hZ102, hown102, PE102, PC102, PV102, PA102, la102, lb102, R102, LT102, SF102, st102⟩ := ldcCH X101 hx hZ hown (ow106 hw) (ostr hw) e101 hS0 (Nat.le_trans (Nat.le_refl _) (Nat.le_refl _)) (hEW hw) (List.mem_of_getElem? (i := 2) rfl) CR0.1 (vs := ((([] : List Int32).map (fun c => c.toInt8.toInt32)).map Value.int)) (z := (0 : Int32)) (by decide +kernel) (by decide) (by decide) (g := (mkF m 9 #[.val (.ref a1), .val (.ref a2), .val (.int (0 : Int32)), .val (.int (0 : Int32)), .val .null, .unset] [(.ref a1)])) rfl (hb hby od_jdk_42_m_149_9) (n := 0) (by decide) (by decide) (by decide) (by decide)
  refine Go.by st102 ?_
  have CR103 := CR0.trans R102
  have K103 : Keep h0 h102 [a1] := K0.ext E102
  show Go p e below _ T102 (mkF m 11 #[.val (.ref a1), .val (.ref a2), .val (.int (0 : Int32)), .val (.int (0 : Int32)), .val .null, .unset] [(.ref sa102), (.ref a1)])
  obtain ⟨T104, X104, e104, st104⟩ := getF X102 hx hZ102 hown102 (host := "") (Or.inl (ow32 hw)) Via.refl e102 PV102 (g := (mkF m 11 #[.val (.ref a1), .val (.ref a2), .val (.int (0 : Int32)), .val (.int (0 : Int32)), .val .null, .unset] [(.ref sa102), (.ref a1)])) rfl rfl (hb hby od_jdk_42_m_149_11)
  refine Go.by st104 ?_
  show Go p e below _ T104 (mkF m 14 #[.val (.ref a1), .val (.ref a2), .val (.int (0 : Int32)), .val (.int (0 : Int32)), .val .null, .unset] [(.ref sb102), (.ref a1)])
  have F106 : Fld Z h102 a1 "java/lang/String" "value" "[B" .null := (F1.ext E102)
  have F107 : Exa Z h102 a1 "java/lang/String" := (E1.ext E102)
  obtain ⟨T105, h105, X105, e105, W105, st105⟩ := putF X104 hx hZ102 hown102 (host := "") (Or.inl (ow32 hw)) Via.refl e104 F106 F107 (Or.inr ⟨(ow33 hw), rfl, hnm⟩) (ow6 hw) (ty := (.array .byte)) (by decide) rfl rfl (g := (mkF m 14 #[.val (.ref a1), .val (.ref a2), .val (.int (0 : Int32)), .val (.int (0 : Int32)), .val .null, .unset] [(.ref sb102), (.ref a1)])) rfl rfl (hb hby od_jdk_42_m_149_14)
  refine Go.by st105 ?_
  have N105 := Fr.snoc X105 N0 g_a1
  have Sf109 : Safe Z EL T102.vm h102 a1 := (R102.safe E1.lt Sf0)
  have R108 : CHr Z EL T102.vm h102 T102.vm h105 := CHr.wr W105 Sf109 CR103.1
  have CR108 := CR103.trans R108
  have K108 : Keep h0 h105 [a1] := K103.wr W105 (Or.inl (List.mem_of_getElem? (i := 0) rfl))
  show Go p e below _ T105 (mkF m 17 #[.val (.ref a1), .val (.ref a2), .val (.int (0 : Int32)), .val (.int (0 : Int32)), .val .null, .unset] [])
  refine Go.by (fun t k => XS.aloadN X105.here hx rfl (hb hby od_jdk_42_m_149_17) rfl rfl k) ?_
  show Go p e below _ T105 (mkF m 18 #[.val (.ref a1), .val (.ref a2), .val (.int (0 : Int32)), .val (.int (0 : Int32)), .val .null, .unset] [(.ref a1)])
  obtain ⟨sa110, T110, h110, k110, sb110, kb110, X110, e110, E110, hS110, hk110, hZ110, hown110, PE110, PC110, PV110, PA110, la110, lb110, R110, LT110, SF110, st110⟩ := ldcCH X105 hx hZ102 hown102 (ow106 hw) (ostr hw) e105 hS102 (Nat.le_trans hk102 (Keep.of_wr W105).1) (hEW hw) (List.mem_of_getElem? (i := 2) rfl) CR108.1 (vs := ((([] : List Int32).map (fun c => c.toInt8.toInt32)).map Value.int)) (z := (0 : Int32)) (by decide +kernel) (by decide) (by decide) (g := (mkF m 18 #[.val (.ref a1), .val (.ref a2), .val (.int (0 : Int32)), .val (.int (0 : Int32)), .val .null, .unset] [(.ref a1)])) rfl (hb hby od_jdk_42_m_149_18) (n := 0) (by decide) (by decide) (by decide) (by decide)
  refine Go.by st110 ?_
  have CR111 := CR108.trans R110
  have K111 : Keep h0 h110 [a1] := K108.ext E110
  show Go p e below _ T110 (mkF m 20 #[.val (.ref a1), .val (.ref a2), .val (.int (0 : Int32)), .val (.int (0 : Int32)), .val .null, .unset] [(.ref sa110), (.ref a1)])
  obtain ⟨T112, X112, e112, st112⟩ := getF X110 hx hZ110 hown110 (host := "") (Or.inl (ow30 hw)) Via.refl e110 PC110 (g := (mkF m 20 #[.val (.ref a1), .val (.ref a2), .val (.int (0 : Int32)), .val (.int (0 : Int32)), .val .null, .unset] [(.ref sa110), (.ref a1)])) rfl rfl (hb hby od_jdk_42_m_149_20)
  refine Go.by st112 ?_
  show Go p e below _ T112 (mkF m 23 #[.val (.ref a1), .val (.ref a2), .val (.int (0 : Int32)), .val (.int (0 : Int32)), .val .null, .unset] [(.int (0 : Int32)), (.ref a1)])
  have F114 : Fld Z h110 a1 "java/lang/String" "coder" "B" (.int (0 : Int32)) := (((F2.ext E102).other W105 (Or.inr (slot_ne (Or.inr (ow31 hw)) (Or.inr (ow33 hw)) (by decide) (t := .byte) (t' := (.array .byte)) (by decide) (by decide)))).ext E110)
  have F115 : Exa Z h110 a1 "java/lang/String" := ((F107.wr W105).ext E110)
  obtain ⟨T113, h113, X113, e113, W113, st113⟩ := putFN X112 hx hZ110 hown110 (ow30 hw) Via.refl e112 F114 F115 (Or.inr ⟨(ow31 hw), rfl, hnm⟩) (ow6 hw) (ty := .byte) (v' := (.int (nar .byte (0 : Int32)))) (by decide) rfl (fits_nar_byte _) (g := (mkF m 23 #[.val (.ref a1), .val (.ref a2), .val (.int (0 : Int32)), .val (.int (0 : Int32)), .val .null, .unset] [(.int (0 : Int32)), (.ref a1)])) rfl rfl (hb hby od_jdk_42_m_149_23)
  refine Go.by st113 ?_
  have N113 := Fr.snoc X113 N105 g_a1
  have Sf117 : Safe Z EL T110.vm h110 a1 := (R110.safe (F107.wr W105).lt (R108.safe F107.lt Sf109))
  have R116 : CHr Z EL T110.vm h110 T110.vm h113 := CHr.wr W113 Sf117 CR111.1
  have CR116 := CR111.trans R116
  have K116 : Keep h0 h113 [a1] := K111.wr W113 (Or.inl (List.mem_of_getElem? (i := 0) rfl))
  show Go p e below _ T113 (mkF m 26 #[.val (.ref a1), .val (.ref a2), .val (.int (0 : Int32)), .val (.int (0 : Int32)), .val .null, .unset] [])
  have F118 : Exa Z h113 a1 "java/lang/String" := (F115.wr W113)
  have F119 : Fld Z h113 a1 "java/lang/String" "value" "[B" (.ref sb102) := (((F106.same W105).ext E110).other W113 (Or.inr (slot_ne (Or.inr (ow33 hw)) (Or.inr (ow31 hw)) (by decide) (t := (.array .byte)) (t' := .byte) (by decide) (by decide))))
  have F120 : Arv Z h113 sb102 kb102 .byte (0 : Int32) ((([] : List Int32).map (fun c => c.toInt8.toInt32)).map Value.int) (.int (0 : Int32)) := (((PA102.other W105 (Ne.symm (SF102 a1 Sf109).2)).ext E110).other W113 (Ne.symm (SF102 a1 Sf109).2))
  exact Go.ret0W X113 hx hret hlk (hb hby od_jdk_42_m_149_26) hS110 (by rw [e113]; exact (Nat.le_trans hk110 (Keep.of_wr W113).1)) hZ110 (hEW hw) (by rw [e113]; exact CR116) (by first | (rw [e113]; exact ⟨sb102, kb102, rfl, N113, K116, F118, (F114.same W113), F119, F120⟩) | exact ⟨sb102, kb102, rfl, N113, K116, F118, (F114.same W113), F119, F120⟩) (by decide) (by decide)
def Q_ic0 (Z : State) (a1 : Addr) (a2 : Addr) (k2 : ClassId) (h0 : Heap) (n0 : Nat) (rv : Option Value) (hE : Heap) (LE : List Loc) : Prop := ∃ t : Addr, ∃ kb : ClassId, rv = none ∧ Fr n0 LE ∧ Keep h0 hE [a1] ∧ (Exa Z hE a1 "java/lang/String") ∧ (Fld Z hE a1 "java/lang/String" "coder" "B" (.int (0 : Int32))) ∧ (Fld Z hE a1 "java/lang/String" "value" "[B" (.ref t)) ∧ (Arv Z hE t kb .byte (0 : Int32) (B8 []) (.int (0 : Int32)))
set_option maxRecDepth 65536 in
set_option maxHeartbeats 40000000 in
theorem rm_ic0 (l : Launch) (Z : State) (a0 : Array Value) (hw : HW a0 Z) (ws : List Jvm.Cond) (a1 : Addr) (a2 : Addr) (k2 : ClassId) (h0 : Heap) (n0 : Nat) (Z0 : n0 ≤ h0.size) (E1 : Exa Z h0 a1 "java/lang/String") (g_a1 : n0 ≤ a1) (F1 : Fld Z h0 a1 "java/lang/String" "value" "[B" .null) (F2 : Fld Z h0 a1 "java/lang/String" "coder" "B" (.int (0 : Int32))) (V2 : Arv Z h0 a2 k2 .char (0 : Int32) ([]) (.int (0 : Int32))) :
    MetFree l (⟨"java/lang/String", "<init>", "([C)V"⟩ : MethodName) (head1 (Jvm.Cond.code (⟨"java/lang/String", "<init>", "([C)V"⟩ : MethodName) jdk_42_method_3_code 2 (Option.none : Option Jvm.ClassFile.FieldType) :: ws) ({ frames := 2, cells := 4, slots := 8, locals := 29 } : Room)) (fun a U => a = #[(.ref a1), (.ref a2)] ∧ Z.Warmed39 U.vm ∧ U.heap = h0 ∧ CHv Z EL U.vm h0) (fun _ _ _ _ _ => True) (fun _ U o U' => OutW Z EL U (Q_ic0 Z a1 a2 k2 h0 n0) ({ frames := 2, cells := 4, slots := 8, locals := 29 } : Room).cells ({ frames := 2, cells := 4, slots := 8, locals := 29 } : Room).slots o U') := by
  refine MetFree.of_bodySF (plainFor_of_name opn_0) hisR ?_
  intro p e s m args below meth c s₁ Bd hml0 hP hK
  obtain ⟨rfl, hZ, hh, hCH⟩ := hP
  have hx := Bd.exec
  have hby := Bd.bytes
  have hml : c.maxLocals = 2 := hml0
  have hret := Bd.returns
  have hlk : meth.locks = false := BodyLoose.notSynchronized Bd
  have hown : s.vm.findClass "java/lang/String" = some m.cls := findClass_of_methodNamed Bd.named
  have hnm := (name_of_methodNamed Bd.named Bd.method).1
  have X0 : Stand p l e ({ frames := 2, cells := 4, slots := 8, locals := 29 } : Room) (s.setVm s.vm) m #[(.ref a1), (.ref a2)] below meth c s₁ [] 0 0 := Stand.of_body Bd
  have e0 : s₁.heap = h0 := by rw [← hh, Bd.state]; rfl
  have N0 := Fr.nil n0
  have hS0 : s.Since s.vm h0.size := (State.WarmedH.refl s).since _
  have CR0 : CHr Z EL s.vm s.heap s.vm h0 := by rw [hh]; exact CHr.refl hCH
  have K0 : Keep h0 h0 [a1] := Keep.refl h0 _
  show Go p e below (OutW Z EL s (Q_ic0 Z a1 a2 k2 h0 n0) ({ frames := 2, cells := 4, slots := 8, locals := 29 } : Room).cells ({ frames := 2, cells := 4, slots := 8, locals := 29 } : Room).slots) s₁ (entryFrame m #[(.ref a1), (.ref a2)] 2)
  refine Go.cast (oef_ic0 m a1 a2) ?_
  show Go p e below _ s₁ (mkF m 0 #[.val (.ref a1), .val (.ref a2)] [])
  have Sf0 : Safe Z EL s.vm h0 a1 := safe_str hZ.alike E1 F1
  refine Go.by (fun t k => XS.aloadN X0.here hx rfl (hb hby od_jdk_42_m_3_0) rfl rfl (XS.aloadN X0.here hx rfl (hb hby od_jdk_42_m_3_1) rfl rfl (XS.iconst X0.here hx rfl (hb hby od_jdk_42_m_3_2) (XS.aloadN X0.here hx rfl (hb hby od_jdk_42_m_3_3) rfl rfl k)))) ?_
  show Go p e below _ s₁ (mkF m 4 #[.val (.ref a1), .val (.ref a2)] [(.ref a2), (.int (0 : Int32)), (.ref a2), (.ref a1)])
  obtain ⟨c121, A121, q121, S121, M121, G121, J121⟩ := id V2
  have l121 := len_of S121 M121
  refine Go.by (X0.arraylength hx (by rw [e0]; exact A121.1) (State.isArrayOf_alike hZ.alike A121.2.1) (g := (mkF m 4 #[.val (.ref a1), .val (.ref a2)] [(.ref a2), (.int (0 : Int32)), (.ref a2), (.ref a1)])) rfl rfl (hb hby od_jdk_42_m_3_4)) ?_
  rw [l121]
  show Go p e below _ s₁ (mkF m 5 #[.val (.ref a1), .val (.ref a2)] [(.int (0 : Int32)), (.int (0 : Int32)), (.ref a2), (.ref a1)])
  refine Go.by (fun t k => XS.aconstNull X0.here hx rfl (hb hby od_jdk_42_m_3_5) k) ?_
  show Go p e below _ s₁ (mkF m 6 #[.val (.ref a1), .val (.ref a2)] [.null, (.int (0 : Int32)), (.int (0 : Int32)), (.ref a2), (.ref a1)])
  obtain ⟨_, _, ⟨T122, L122, k122, n122⟩, -, XX122, hSn122, hgn122, ⟨Lc122, hQ122, l122, y122, z122, RQ122⟩, st122⟩ := X0.specialBackS hx (y := (⟨"java/lang/String", "<init>", "([CIILjava/lang/Void;)V"⟩ : MethodName)) rfl hown (mvT hZ (ow11 hw)) (mvT hZ (ow12 hw)) (mvT hZ (ow14 hw)) (by decide) (backOfSH (W := 0) (rm_iv0 l Z a0 hw [] a1 a2 h0 n0 (Nat.le_trans Z0 (Nat.le_refl _)) E1 g_a1 F1 F2) hZ (ow14 hw) (ow7 hw) (by decide) (by decide) (hEW hw) CR0.1) (g := (mkF m 6 #[.val (.ref a1), .val (.ref a2)] [.null, (.int (0 : Int32)), (.int (0 : Int32)), (.ref a2), (.ref a1)])) rfl (by rw [hml]; rfl) (Steps.refl _) (a := a1) (argsL := [(.ref a2), (.int (0 : Int32)), (.int (0 : Int32)), .null]) (rest := []) (lenOf opd_0 rfl) rfl (by show 2 * 0 + _ ≤ _; exact Nat.le_of_eq rfl) (hb hby od_jdk_42_m_3_6) (fun _ _ => ⟨rfl, e0, (by decide : 0 + 4 ≤ _), (by decide : 0 + 8 ≤ _)⟩)
  dsimp only [Pt.U, Pt.locs, Pt.cells, Pt.slots] at XX122 hSn122 hgn122 l122 y122 z122 st122 hQ122 RQ122
  subst l122 y122 z122
  obtain ⟨X122, hS122, hZ122, hown122⟩ := rebS hS0 (by rw [e0]; exact (Nat.le_trans (Nat.le_refl _) (Nat.le_refl _))) XX122 hSn122 hgn122 hZ hown
  obtain ⟨t_122, kb_122, rfl, N122q, K122q, P122_0, P122_1, P122_2, P122_3⟩ := hQ122
  have N122 := Fr.app N0 N122q
  refine Go.tr st122 ?_
  have CR123 := CR0.trans RQ122
  have K123 : Keep h0 T122.heap [a1] := K0.trans K122q (allS (Or.inl (List.mem_of_getElem? (i := 0) rfl)) all0)
  show Go p e below _ T122 (mkF m 9 #[.val (.ref a1), .val (.ref a2)] [])
  exact Go.ret0W X122 hx hret hlk (hb hby od_jdk_42_m_3_9) hS122 (Nat.le_trans (Nat.le_refl _) (Nat.le_refl _)) hZ122 (hEW hw) CR123 ⟨t_122, kb_122, rfl, N122, K123, P122_0, P122_1, P122_2, P122_3⟩ (by decide) (by decide)
def Q_make0 (Z : State) (a1 : Addr) (k1 : ClassId) (c0 : Int32) (c1 : Int32) (c2 : Int32) (c3 : Int32) (c4 : Int32) (c5 : Int32) (c6 : Int32) (G1 : Int32) (h0 : Heap) (n0 : Nat) (rv : Option Value) (hE : Heap) (LE : List Loc) : Prop := ∃ bs : Addr, ∃ bt : Addr, ∃ kb : ClassId, rv = some (.ref bs) ∧ Fr n0 LE ∧ Keep h0 hE [] ∧ (h0.size ≤ bs) ∧ (Exa Z hE bs "java/lang/String") ∧ (Fld Z hE bs "java/lang/String" "coder" "B" (.int (0 : Int32))) ∧ (Fld Z hE bs "java/lang/String" "value" "[B" (.ref bt)) ∧ (Arv Z hE bt kb .byte (0 : Int32) (B8 ([] : List Int32)) (.int (0 : Int32)))
set_option maxRecDepth 65536 in
set_option maxHeartbeats 40000000 in
theorem rm_make0 (l : Launch) (Z : State) (a0 : Array Value) (hw : HW a0 Z) (ws : List Jvm.Cond) (a1 : Addr) (k1 : ClassId) (c0 : Int32) (c1 : Int32) (c2 : Int32) (c3 : Int32) (c4 : Int32) (c5 : Int32) (c6 : Int32) (G1 : Int32) (h0 : Heap) (n0 : Nat) (Z0 : n0 ≤ h0.size) (V1 : Arv Z h0 a1 k1 .char (7 : Int32) ([(.int c0), (.int c1), (.int c2), (.int c3), (.int c4), (.int c5), (.int c6)]) (.int (0 : Int32))) (HN : ∀ c ∈ ([c0, c1, c2, c3, c4, c5, c6] : List Int32), ¬ c < 0 ∧ ¬ (255 : Int32) < c) (O2 : Sta Z Z.heap "java/lang/String" "COMPACT_STRINGS" "Z" (.int G1)) (P5 : ¬ (G1 = (0 : Int32))) (X00 : Old Z n0 h0) :
    MetFree l (⟨"com/example/antecedent/antecedent/EntityTypeForLabelPinLaw", "make", "([CI)Ljava/lang/String;"⟩ : MethodName) (head1 (Jvm.Cond.code (⟨"com/example/antecedent/antecedent/EntityTypeForLabelPinLaw", "make", "([CI)Ljava/lang/String;"⟩ : MethodName) method_3_code 2 (Option.some (Jvm.ClassFile.FieldType.object "java/lang/String")) :: ws) ({ frames := 4, cells := 6, slots := 18, locals := 66 } : Room)) (fun a U => a = #[(.ref a1), (.int (0 : Int32))] ∧ Z.Warmed39 U.vm ∧ U.heap = h0 ∧ CHv Z EL U.vm h0) (fun _ _ _ _ _ => True) (fun _ U o U' => OutW Z EL U (Q_make0 Z a1 k1 c0 c1 c2 c3 c4 c5 c6 G1 h0 n0) ({ frames := 4, cells := 6, slots := 18, locals := 66 } : Room).cells ({ frames := 4, cells := 6, slots := 18, locals := 66 } : Room).slots o U') := by
  refine MetFree.of_bodySF (plainFor_of_name opn_1) hisR ?_
  intro p e s m args below meth c s₁ Bd hml0 hP hK
  obtain ⟨rfl, hZ, hh, hCH⟩ := hP
  have hx := Bd.exec
  have hby := Bd.bytes
  have hml : c.maxLocals = 2 := hml0
  have hret := Bd.returns
  have hlk : meth.locks = false := BodyLoose.notSynchronized Bd
  have hown : s.vm.findClass "com/example/antecedent/antecedent/EntityTypeForLabelPinLaw" = some m.cls := findClass_of_methodNamed Bd.named
  have hnm := (name_of_methodNamed Bd.named Bd.method).1
  have X0 : Stand p l e ({ frames := 4, cells := 6, slots := 18, locals := 66 } : Room) (s.setVm s.vm) m #[(.ref a1), (.int (0 : Int32))] below meth c s₁ [] 0 0 := Stand.of_body Bd
  have e0 : s₁.heap = h0 := by rw [← hh, Bd.state]; rfl
  have N0 := Fr.nil n0
  have hS0 : s.Since s.vm h0.size := (State.WarmedH.refl s).since _
  have CR0 : CHr Z EL s.vm s.heap s.vm h0 := by rw [hh]; exact CHr.refl hCH
  have K0 : Keep h0 h0 [] := Keep.refl h0 _
  show Go p e below (OutW Z EL s (Q_make0 Z a1 k1 c0 c1 c2 c3 c4 c5 c6 G1 h0 n0) ({ frames := 4, cells := 6, slots := 18, locals := 66 } : Room).cells ({ frames := 4, cells := 6, slots := 18, locals := 66 } : Room).slots) s₁ (entryFrame m #[(.ref a1), (.int (0 : Int32))] 2)
  refine Go.cast (oef_make0 m a1 (0 : Int32)) ?_
  show Go p e below _ s₁ (mkF m 0 #[.val (.ref a1), .val (.int (0 : Int32))] [])
  refine Go.by (fun t k => XS.iloadN X0.here hx rfl (hb hby od_m_3_0) rfl (XS.ifNo X0.here hx rfl (hb hby od_m_3_1) rfl ((if0 _ _).trans (teq (show (0 : Int32) = (0 : Int32) from (by decide))).2) k)) ?_
  show Go p e below _ s₁ (mkF m 4 #[.val (.ref a1), .val (.int (0 : Int32))] [])
  obtain ⟨T124, h124, X124, e124, E124, A124, D124, U124, st124⟩ := newO X0 hx hZ hown (ow5 hw) (ow6 hw) (ow7 hw) e0 (g := (mkF m 4 #[.val (.ref a1), .val (.int (0 : Int32))] [])) rfl (hb hby od_m_3_4) (by decide) (by decide)
  obtain ⟨b124, g124⟩ : ∃ z, z = h0.size := ⟨_, rfl⟩
  rw [← g124] at A124 D124 U124 st124
  refine Go.by st124 ?_
  have R125 : CHr Z EL s.vm h0 s.vm h124 := CHr.ext E124 CR0.1
  have CR125 := CR0.trans R125
  have K125 : Keep h0 h124 [] := K0.ext E124
  have O125 : Old Z n0 h124 := X00.ext E124
  show Go p e below _ T124 (mkF m 7 #[.val (.ref a1), .val (.int (0 : Int32))] [(.ref b124)])
  have Sf126 : Safe Z EL s.vm h124 b124 := Safe.ext E124 CR0.1 (Safe.new (Nat.le_of_eq g124.symm))
  refine Go.by (fun t k => XS.dup X124.here hx rfl (hb hby od_m_3_7) rfl rfl (XS.iconst X124.here hx rfl (hb hby od_m_3_8) k)) ?_
  show Go p e below _ T124 (mkF m 9 #[.val (.ref a1), .val (.int (0 : Int32))] [(.int (0 : Int32)), (.ref b124), (.ref b124)])
  obtain ⟨T127, h127, k127, X127, e127, E127, A127, st127⟩ := newP X124 hx hZ (aty := .char) (ow0 hw) e124 (g := (mkF m 9 #[.val (.ref a1), .val (.int (0 : Int32))] [(.int (0 : Int32)), (.ref b124), (.ref b124)])) rfl (hb hby od_m_3_9) rfl (by decide) (cap := 0) (by decide) (by decide) (by decide) (by decide)
  obtain ⟨b127, g127⟩ : ∃ z, z = h124.size := ⟨_, rfl⟩
  rw [← g127] at A127 st127
  refine Go.by st127 ?_
  have R128 : CHr Z EL s.vm h124 s.vm h127 := CHr.ext E127 CR125.1
  have CR128 := CR125.trans R128
  have K128 : Keep h0 h127 [] := K125.ext E127
  have O128 : Old Z n0 h127 := O125.ext E127
  show Go p e below _ T127 (mkF m 11 #[.val (.ref a1), .val (.int (0 : Int32))] [(.ref b127), (.ref b124), (.ref b124)])
  have Sf129 : Safe Z EL s.vm h127 b127 := Safe.ext E127 CR125.1 (Safe.new (Nat.le_of_eq g127.symm))
  have V127 : Arv Z h127 b127 k127 .char (0 : Int32) [] (.int (0 : Int32)) := (Arv.new A127 (by decide)).pad (pad_rep [] (.int (0 : Int32)) 0)
  have F131 : Exa Z h127 b124 "java/lang/String" := (A124.ext E127)
  have F132 : Fld Z h127 b124 "java/lang/String" "value" "[B" .null := ((D124 (Or.inr (ow33 hw)) (ty := (.array .byte)) (by decide)).ext E127)
  have F133 : Fld Z h127 b124 "java/lang/String" "coder" "B" (.int (0 : Int32)) := ((D124 (Or.inr (ow31 hw)) (ty := .byte) (by decide)).ext E127)
  obtain ⟨_, _, ⟨T130, L130, k130, n130⟩, -, XX130, hSn130, hgn130, ⟨Lc130, hQ130, l130, y130, z130, RQ130⟩, st130⟩ := X127.specialBackS hx (y := (⟨"java/lang/String", "<init>", "([C)V"⟩ : MethodName)) rfl hown (mvT hZ (ow8 hw)) (mvT hZ (ow9 hw)) (mvT hZ (ow10 hw)) (by decide) (backOfSH (W := 1) (rm_ic0 l Z a0 hw [] b124 b127 k127 h127 n0 (Nat.le_trans Z0 (Nat.le_trans E124.1 E127.1)) F131 ((Nat.le_trans (Nat.le_trans Z0 (Nat.le_refl _)) (Nat.le_of_eq g124.symm))) F132 F133 V127) hZ (ow10 hw) (ow7 hw) (by decide) (by decide) (hEW hw) CR128.1) (g := (mkF m 11 #[.val (.ref a1), .val (.int (0 : Int32))] [(.ref b127), (.ref b124), (.ref b124)])) rfl (by rw [hml]; rfl) (Steps.refl _) (a := b124) (argsL := [(.ref b127)]) (rest := [(.ref b124)]) (lenOf opd_1 rfl) rfl (by show 2 * 0 + _ ≤ _; exact Nat.le_of_eq rfl) (hb hby od_m_3_11) (fun _ _ => ⟨rfl, e127, (by decide : 2 + 4 ≤ _), (by decide : 4 + 8 ≤ _)⟩)
  dsimp only [Pt.U, Pt.locs, Pt.cells, Pt.slots] at XX130 hSn130 hgn130 l130 y130 z130 st130 hQ130 RQ130
  subst l130 y130 z130
  obtain ⟨X130, hS130, hZ130, hown130⟩ := rebS hS0 (by rw [e127]; exact (Nat.le_trans (Nat.le_refl _) (Nat.le_trans E124.1 E127.1))) XX130 hSn130 hgn130 hZ hown
  obtain ⟨t_130, kb_130, rfl, N130q, K130q, P130_0, P130_1, P130_2, P130_3⟩ := hQ130
  have N130 := Fr.app N0 N130q
  refine Go.tr st130 ?_
  have CR134 := CR128.trans RQ130
  have K134 : Keep h0 T130.heap [] := K128.trans K130q (allS (Or.inr (Nat.le_trans (Nat.le_refl _) (Nat.le_of_eq g124.symm))) all0)
  have O134 : Old Z n0 T130.heap := O128.keep K130q (allS (Nat.le_trans (Nat.le_trans Z0 (Nat.le_refl _)) (Nat.le_of_eq g124.symm)) all0)
  show Go p e below _ T130 (mkF m 14 #[.val (.ref a1), .val (.int (0 : Int32))] [(.ref b124)])
  exact Go.retRW X130 hx hret rfl rfl rfl hlk (hb hby od_m_3_14) hS130 (Nat.le_trans (Nat.le_refl _) (Nat.le_refl _)) hZ130 (hEW hw) CR134 ⟨b124, t_130, kb_130, rfl, N130, K134, (Nat.le_trans (Nat.le_refl _) (Nat.le_of_eq g124.symm)), P130_0, P130_1, P130_2, P130_3⟩ (by decide) (by decide)
def Q_make1 (Z : State) (a1 : Addr) (k1 : ClassId) (c0 : Int32) (c1 : Int32) (c2 : Int32) (c3 : Int32) (c4 : Int32) (c5 : Int32) (c6 : Int32) (G1 : Int32) (h0 : Heap) (n0 : Nat) (rv : Option Value) (hE : Heap) (LE : List Loc) : Prop := ∃ bs : Addr, ∃ bt : Addr, ∃ kb : ClassId, rv = some (.ref bs) ∧ Fr n0 LE ∧ Keep h0 hE [] ∧ (h0.size ≤ bs) ∧ (Exa Z hE bs "java/lang/String") ∧ (Fld Z hE bs "java/lang/String" "coder" "B" (.int (0 : Int32))) ∧ (Fld Z hE bs "java/lang/String" "value" "[B" (.ref bt)) ∧ (Arv Z hE bt kb .byte (1 : Int32) (B8 ([c0] : List Int32)) (.int (0 : Int32)))
set_option maxRecDepth 65536 in
set_option maxHeartbeats 40000000 in
theorem rm_make1 (l : Launch) (Z : State) (a0 : Array Value) (hw : HW a0 Z) (ws : List Jvm.Cond) (a1 : Addr) (k1 : ClassId) (c0 : Int32) (c1 : Int32) (c2 : Int32) (c3 : Int32) (c4 : Int32) (c5 : Int32) (c6 : Int32) (G1 : Int32) (h0 : Heap) (n0 : Nat) (Z0 : n0 ≤ h0.size) (V1 : Arv Z h0 a1 k1 .char (7 : Int32) ([(.int c0), (.int c1), (.int c2), (.int c3), (.int c4), (.int c5), (.int c6)]) (.int (0 : Int32))) (HN : ∀ c ∈ ([c0, c1, c2, c3, c4, c5, c6] : List Int32), ¬ c < 0 ∧ ¬ (255 : Int32) < c) (O2 : Sta Z Z.heap "java/lang/String" "COMPACT_STRINGS" "Z" (.int G1)) (P5 : ¬ (G1 = (0 : Int32))) (X00 : Old Z n0 h0) :
    MetFree l (⟨"com/example/antecedent/antecedent/EntityTypeForLabelPinLaw", "make", "([CI)Ljava/lang/String;"⟩ : MethodName) (head1 (Jvm.Cond.code (⟨"com/example/antecedent/antecedent/EntityTypeForLabelPinLaw", "make", "([CI)Ljava/lang/String;"⟩ : MethodName) method_3_code 2 (Option.some (Jvm.ClassFile.FieldType.object "java/lang/String")) :: ws) ({ frames := 4, cells := 6, slots := 18, locals := 66 } : Room)) (fun a U => a = #[(.ref a1), (.int (1 : Int32))] ∧ Z.Warmed39 U.vm ∧ U.heap = h0) (fun _ _ _ _ _ => True) (fun _ U o U' => Out U (Q_make1 Z a1 k1 c0 c1 c2 c3 c4 c5 c6 G1 h0 n0) ({ frames := 4, cells := 6, slots := 18, locals := 66 } : Room).cells ({ frames := 4, cells := 6, slots := 18, locals := 66 } : Room).slots o U') := by
  refine MetFree.of_bodySF (plainFor_of_name opn_1) hisR ?_
  intro p e s m args below meth c s₁ Bd hml0 hP hK
  obtain ⟨rfl, hZ, hh⟩ := hP
  have hx := Bd.exec
  have hby := Bd.bytes
  have hml : c.maxLocals = 2 := hml0
  have hret := Bd.returns
  have hlk : meth.locks = false := BodyLoose.notSynchronized Bd
  have hown : s.vm.findClass "com/example/antecedent/antecedent/EntityTypeForLabelPinLaw" = some m.cls := findClass_of_methodNamed Bd.named
  have hnm := (name_of_methodNamed Bd.named Bd.method).1
  have X0 : Stand p l e ({ frames := 4, cells := 6, slots := 18, locals := 66 } : Room) s m #[(.ref a1), (.int (1 : Int32))] below meth c s₁ [] 0 0 := Stand.of_body Bd
  have e0 : s₁.heap = h0 := by rw [← hh, Bd.state]; rfl
  have N0 := Fr.nil n0
  have K0 : Keep h0 h0 [] := Keep.refl h0 _
  show Go p e below (Out s (Q_make1 Z a1 k1 c0 c1 c2 c3 c4 c5 c6 G1 h0 n0) ({ frames := 4, cells := 6, slots := 18, locals := 66 } : Room).cells ({ frames := 4, cells := 6, slots := 18, locals := 66 } : Room).slots) s₁ (entryFrame m #[(.ref a1), (.int (1 : Int32))] 2)
  refine Go.cast (oef_make1 m a1 (1 : Int32)) ?_
  show Go p e below _ s₁ (mkF m 0 #[.val (.ref a1), .val (.int (1 : Int32))] [])
  have r0 := HN c0 (by simp)
  have e_0 := nar_id r0
  refine Go.by (fun t k => XS.iloadN X0.here hx rfl (hb hby od_m_3_0) rfl (XS.ifYes X0.here hx rfl (pc0 := 1) (pc' := 15) rfl (hb hby od_m_3_1) rfl ((if0 _ _).trans (feq (show ¬ ((1 : Int32) = (0 : Int32)) from (by decide))).2) (by decide) (by decide) k)) ?_
  show Go p e below _ s₁ (mkF m 15 #[.val (.ref a1), .val (.int (1 : Int32))] [])
  refine Go.by (fun t k => XS.iloadN X0.here hx rfl (hb hby od_m_3_15) rfl (XS.iconst X0.here hx rfl (hb hby od_m_3_16) (XS.icmpNo X0.here hx rfl (hb hby od_m_3_17) rfl (teq (show (1 : Int32) = (1 : Int32) from (by decide))).2 k))) ?_
  show Go p e below _ s₁ (mkF m 20 #[.val (.ref a1), .val (.int (1 : Int32))] [])
  obtain ⟨T135, h135, X135, e135, E135, A135, D135, U135, st135⟩ := newO X0 hx hZ hown (ow5 hw) (ow6 hw) (ow7 hw) e0 (g := (mkF m 20 #[.val (.ref a1), .val (.int (1 : Int32))] [])) rfl (hb hby od_m_3_20) (by decide) (by decide)
  obtain ⟨b135, g135⟩ : ∃ z, z = h0.size := ⟨_, rfl⟩
  rw [← g135] at A135 D135 U135 st135
  refine Go.by st135 ?_
  have K136 : Keep h0 h135 [] := K0.ext E135
  have O136 : Old Z n0 h135 := X00.ext E135
  show Go p e below _ T135 (mkF m 23 #[.val (.ref a1), .val (.int (1 : Int32))] [(.ref b135)])
  refine Go.by (fun t k => XS.dup X135.here hx rfl (hb hby od_m_3_23) rfl rfl (XS.iconst X135.here hx rfl (hb hby od_m_3_24) k)) ?_
  show Go p e below _ T135 (mkF m 25 #[.val (.ref a1), .val (.int (1 : Int32))] [(.int (1 : Int32)), (.ref b135), (.ref b135)])
  obtain ⟨T137, h137, k137, X137, e137, E137, A137, st137⟩ := newP X135 hx hZ (aty := .char) (ow0 hw) e135 (g := (mkF m 25 #[.val (.ref a1), .val (.int (1 : Int32))] [(.int (1 : Int32)), (.ref b135), (.ref b135)])) rfl (hb hby od_m_3_25) rfl (by decide) (cap := 1) (by decide) (by decide) (by decide) (by decide)
  obtain ⟨b137, g137⟩ : ∃ z, z = h135.size := ⟨_, rfl⟩
  rw [← g137] at A137 st137
  refine Go.by st137 ?_
  have K138 : Keep h0 h137 [] := K136.ext E137
  have O138 : Old Z n0 h137 := O136.ext E137
  show Go p e below _ T137 (mkF m 27 #[.val (.ref a1), .val (.int (1 : Int32))] [(.ref b137), (.ref b135), (.ref b135)])
  have V137 : Arv Z h137 b137 k137 .char (1 : Int32) [(.int (0 : Int32))] (.int (0 : Int32)) := (Arv.new A137 (by decide)).pad (pad_rep [] (.int (0 : Int32)) 1)
  refine Go.by (fun t k => XS.dup X137.here hx rfl (hb hby od_m_3_27) rfl rfl (XS.iconst X137.here hx rfl (hb hby od_m_3_28) (XS.aloadN X137.here hx rfl (hb hby od_m_3_29) rfl rfl (XS.iconst X137.here hx rfl (hb hby od_m_3_30) k)))) ?_
  show Go p e below _ T137 (mkF m 31 #[.val (.ref a1), .val (.int (1 : Int32))] [(.int (0 : Int32)), (.ref a1), (.int (0 : Int32)), (.ref b137), (.ref b137), (.ref b135), (.ref b135)])
  have F140 : Arv Z h137 a1 k1 .char (7 : Int32) ([(.int c0), (.int c1), (.int c2), (.int c3), (.int c4), (.int c5), (.int c6)]) (.int (0 : Int32)) := ((V1.ext E135).ext E137)
  obtain ⟨c139, A139, q139, S139, M139, G139, J139⟩ := id F140
  have i139 := inb_of S139 (j := (0 : Int32)) ⟨by decide, by decide⟩
  refine Go.by (X137.caload hx (j := (0 : Int32)) (v := (.int c0)) (by rw [e137]; exact A139.1) (State.isArrayOf_alike hZ.alike A139.2.1) A139.2.2 i139 (G139.at i139 rfl) (g := (mkF m 31 #[.val (.ref a1), .val (.int (1 : Int32))] [(.int (0 : Int32)), (.ref a1), (.int (0 : Int32)), (.ref b137), (.ref b137), (.ref b135), (.ref b135)])) rfl rfl (hb hby od_m_3_31)) ?_
  show Go p e below _ T137 (mkF m 32 #[.val (.ref a1), .val (.int (1 : Int32))] [(.int c0), (.int (0 : Int32)), (.ref b137), (.ref b137), (.ref b135), (.ref b135)])
  obtain ⟨c141, A141, q141, S141, M141, G141, J141⟩ := id V137
  obtain ⟨T141, h141, X141, e141, W141, st141⟩ := stC X137 hx hZ e137 A141 (j := (0 : Int32)) (inb_of S141 ⟨by decide, by decide⟩) (g := (mkF m 32 #[.val (.ref a1), .val (.int (1 : Int32))] [(.int c0), (.int (0 : Int32)), (.ref b137), (.ref b137), (.ref b135), (.ref b135)])) rfl rfl (hb hby od_m_3_32)
  refine Go.by st141 ?_
  have N141 := Fr.snoc X141 N0 (Nat.le_trans (Nat.le_trans Z0 E135.1) (Nat.le_of_eq g137.symm))
  have K142 : Keep h0 h141 [] := K138.wr W141 (Or.inr (Nat.le_trans E135.1 (Nat.le_of_eq g137.symm)))
  have O142 : Old Z n0 h141 := O138.wr W141 (Nat.le_trans (Nat.le_trans Z0 E135.1) (Nat.le_of_eq g137.symm))
  show Go p e below _ T141 (mkF m 33 #[.val (.ref a1), .val (.int (1 : Int32))] [(.ref b137), (.ref b135), (.ref b135)])
  have V141 : Arv Z h141 b137 k137 .char (1 : Int32) ([(.int (nar .char c0))]) (.int (0 : Int32)) := Arv.set A141 q141 S141 M141 G141 J141 (fits_nar_char _) W141 0 rfl (Nat.le_of_ble_eq_true rfl)
  rw [e_0] at V141
  have hp : ∀ c ∈ ([c0] : List Int32), ¬ c < 0 ∧ ¬ (255 : Int32) < c := by
    intro c hc; simp only [List.mem_cons, List.not_mem_nil, or_false] at hc; rcases hc with rfl
    · exact r0
  have hws : ∀ d ∈ StrChars.Road.words, d.before a0 Z = true := fun d hd => hw d ((by decide +kernel : ∀ d ∈ StrChars.Road.words, d ∈ tables_1) d hd)
  have F144 : Exa Z h141 b135 "java/lang/String" := ((A135.ext E137).wr W141)
  have F145 : Fld Z h141 b135 "java/lang/String" "value" "[B" .null := (((D135 (Or.inr (ow33 hw)) (ty := (.array .byte)) (by decide)).ext E137).other W141 (Or.inl (Nat.ne_of_lt (Nat.lt_of_lt_of_le A135.lt (Nat.le_of_eq g137.symm)))))
  have F146 : Fld Z h141 b135 "java/lang/String" "coder" "B" (.int (0 : Int32)) := (((D135 (Or.inr (ow31 hw)) (ty := .byte) (by decide)).ext E137).other W141 (Or.inl (Nat.ne_of_lt (Nat.lt_of_lt_of_le A135.lt (Nat.le_of_eq g137.symm)))))
  obtain ⟨_, _, ⟨T143, L143, k143, n143⟩, -, X143, ⟨Lc143, hQ143, l143, y143, z143⟩, st143⟩ := X141.specialBack hx (y := (⟨"java/lang/String", "<init>", "([C)V"⟩ : MethodName)) rfl hown (mvT hZ (ow8 hw)) (mvT hZ (ow9 hw)) (mvT hZ (ow10 hw)) (by decide) (StrChars.Road.backV (W := 1) hZ hws (kI := 4) (ow6 hw) (cs := ([c0] : List Int32)) (bs := ([c0] : List Int32).map (fun c => c.toInt8.toInt32)) (n := 1) (Nat.le_trans (Nat.le_trans Z0 (Nat.le_refl _)) (Nat.le_of_eq g135.symm)) (Nat.le_trans Z0 (Nat.le_trans (Nat.le_trans E135.1 E137.1) (Keep.of_wr W141).1)) F144 F145 F146 V141 (O2.ext O142.2) P5 rfl rfl (by decide) (by decide) hp rfl (by decide) (by decide)) (g := (mkF m 33 #[.val (.ref a1), .val (.int (1 : Int32))] [(.ref b137), (.ref b135), (.ref b135)])) rfl (by rw [hml]; rfl) (Steps.refl _) (a := b135) (argsL := [(.ref b137)]) (rest := [(.ref b135)]) (lenOf opd_1 rfl) rfl (by show 2 * 0 + _ ≤ _; exact Nat.le_of_eq rfl) (hb hby od_m_3_33) (fun _ _ => ⟨rfl, e141, (by decide : 2 + 1 ≤ _), (by decide : 5 + 1 ≤ _)⟩)
  dsimp only [Pt.U, Pt.locs, Pt.cells, Pt.slots] at X143 l143 y143 z143 st143 hQ143
  subst l143 y143 z143
  obtain ⟨rfl, N143q, K143q, PE143, PC143, t143, kb143, -, u143, v143, PV143, PA143⟩ := hQ143
  have N143 := Fr.app N141 N143q
  refine Go.tr st143 ?_
  have K147 : Keep h0 T143.heap [] := K142.trans K143q (allS (Or.inr (Nat.le_trans (Nat.le_refl _) (Nat.le_of_eq g135.symm))) all0)
  have O147 : Old Z n0 T143.heap := O142.keep K143q (allS (Nat.le_trans (Nat.le_trans Z0 (Nat.le_refl _)) (Nat.le_of_eq g135.symm)) all0)
  show Go p e below _ T143 (mkF m 36 #[.val (.ref a1), .val (.int (1 : Int32))] [(.ref b135)])
  exact Go.retR X143 hx hret rfl rfl rfl hlk (hb hby od_m_3_36) ⟨b135, t143, kb143, rfl, N143, K147, (Nat.le_trans (Nat.le_refl _) (Nat.le_of_eq g135.symm)), PE143, PC143, PV143, PA143⟩ (by decide) (by decide)
def Q_make2 (Z : State) (a1 : Addr) (k1 : ClassId) (c0 : Int32) (c1 : Int32) (c2 : Int32) (c3 : Int32) (c4 : Int32) (c5 : Int32) (c6 : Int32) (G1 : Int32) (h0 : Heap) (n0 : Nat) (rv : Option Value) (hE : Heap) (LE : List Loc) : Prop := ∃ bs : Addr, ∃ bt : Addr, ∃ kb : ClassId, rv = some (.ref bs) ∧ Fr n0 LE ∧ Keep h0 hE [] ∧ (h0.size ≤ bs) ∧ (Exa Z hE bs "java/lang/String") ∧ (Fld Z hE bs "java/lang/String" "coder" "B" (.int (0 : Int32))) ∧ (Fld Z hE bs "java/lang/String" "value" "[B" (.ref bt)) ∧ (Arv Z hE bt kb .byte (2 : Int32) (B8 ([c0, c1] : List Int32)) (.int (0 : Int32)))
set_option maxRecDepth 65536 in
set_option maxHeartbeats 40000000 in
theorem rm_make2 (l : Launch) (Z : State) (a0 : Array Value) (hw : HW a0 Z) (ws : List Jvm.Cond) (a1 : Addr) (k1 : ClassId) (c0 : Int32) (c1 : Int32) (c2 : Int32) (c3 : Int32) (c4 : Int32) (c5 : Int32) (c6 : Int32) (G1 : Int32) (h0 : Heap) (n0 : Nat) (Z0 : n0 ≤ h0.size) (V1 : Arv Z h0 a1 k1 .char (7 : Int32) ([(.int c0), (.int c1), (.int c2), (.int c3), (.int c4), (.int c5), (.int c6)]) (.int (0 : Int32))) (HN : ∀ c ∈ ([c0, c1, c2, c3, c4, c5, c6] : List Int32), ¬ c < 0 ∧ ¬ (255 : Int32) < c) (O2 : Sta Z Z.heap "java/lang/String" "COMPACT_STRINGS" "Z" (.int G1)) (P5 : ¬ (G1 = (0 : Int32))) (X00 : Old Z n0 h0) :
    MetFree l (⟨"com/example/antecedent/antecedent/EntityTypeForLabelPinLaw", "make", "([CI)Ljava/lang/String;"⟩ : MethodName) (head1 (Jvm.Cond.code (⟨"com/example/antecedent/antecedent/EntityTypeForLabelPinLaw", "make", "([CI)Ljava/lang/String;"⟩ : MethodName) method_3_code 2 (Option.some (Jvm.ClassFile.FieldType.object "java/lang/String")) :: ws) ({ frames := 4, cells := 6, slots := 18, locals := 66 } : Room)) (fun a U => a = #[(.ref a1), (.int (2 : Int32))] ∧ Z.Warmed39 U.vm ∧ U.heap = h0) (fun _ _ _ _ _ => True) (fun _ U o U' => Out U (Q_make2 Z a1 k1 c0 c1 c2 c3 c4 c5 c6 G1 h0 n0) ({ frames := 4, cells := 6, slots := 18, locals := 66 } : Room).cells ({ frames := 4, cells := 6, slots := 18, locals := 66 } : Room).slots o U') := by
  refine MetFree.of_bodySF (plainFor_of_name opn_1) hisR ?_
  intro p e s m args below meth c s₁ Bd hml0 hP hK
  obtain ⟨rfl, hZ, hh⟩ := hP
  have hx := Bd.exec
  have hby := Bd.bytes
  have hml : c.maxLocals = 2 := hml0
  have hret := Bd.returns
  have hlk : meth.locks = false := BodyLoose.notSynchronized Bd
  have hown : s.vm.findClass "com/example/antecedent/antecedent/EntityTypeForLabelPinLaw" = some m.cls := findClass_of_methodNamed Bd.named
  have hnm := (name_of_methodNamed Bd.named Bd.method).1
  have X0 : Stand p l e ({ frames := 4, cells := 6, slots := 18, locals := 66 } : Room) s m #[(.ref a1), (.int (2 : Int32))] below meth c s₁ [] 0 0 := Stand.of_body Bd
  have e0 : s₁.heap = h0 := by rw [← hh, Bd.state]; rfl
  have N0 := Fr.nil n0
  have K0 : Keep h0 h0 [] := Keep.refl h0 _
  show Go p e below (Out s (Q_make2 Z a1 k1 c0 c1 c2 c3 c4 c5 c6 G1 h0 n0) ({ frames := 4, cells := 6, slots := 18, locals := 66 } : Room).cells ({ frames := 4, cells := 6, slots := 18, locals := 66 } : Room).slots) s₁ (entryFrame m #[(.ref a1), (.int (2 : Int32))] 2)
  refine Go.cast (oef_make2 m a1 (2 : Int32)) ?_
  show Go p e below _ s₁ (mkF m 0 #[.val (.ref a1), .val (.int (2 : Int32))] [])
  have r0 := HN c0 (by simp)
  have e_0 := nar_id r0
  have r1 := HN c1 (by simp)
  have e_1 := nar_id r1
  refine Go.by (fun t k => XS.iloadN X0.here hx rfl (hb hby od_m_3_0) rfl (XS.ifYes X0.here hx rfl (pc0 := 1) (pc' := 15) rfl (hb hby od_m_3_1) rfl ((if0 _ _).trans (feq (show ¬ ((2 : Int32) = (0 : Int32)) from (by decide))).2) (by decide) (by decide) k)) ?_
  show Go p e below _ s₁ (mkF m 15 #[.val (.ref a1), .val (.int (2 : Int32))] [])
  refine Go.by (fun t k => XS.iloadN X0.here hx rfl (hb hby od_m_3_15) rfl (XS.iconst X0.here hx rfl (hb hby od_m_3_16) (XS.icmpYes X0.here hx rfl (pc0 := 17) (pc' := 37) rfl (hb hby od_m_3_17) rfl (feq (show ¬ ((2 : Int32) = (1 : Int32)) from (by decide))).2 (by decide) (by decide) k))) ?_
  show Go p e below _ s₁ (mkF m 37 #[.val (.ref a1), .val (.int (2 : Int32))] [])
  refine Go.by (fun t k => XS.iloadN X0.here hx rfl (hb hby od_m_3_37) rfl (XS.iconst X0.here hx rfl (hb hby od_m_3_38) (XS.icmpNo X0.here hx rfl (hb hby od_m_3_39) rfl (teq (show (2 : Int32) = (2 : Int32) from (by decide))).2 k))) ?_
  show Go p e below _ s₁ (mkF m 42 #[.val (.ref a1), .val (.int (2 : Int32))] [])
  obtain ⟨T148, h148, X148, e148, E148, A148, D148, U148, st148⟩ := newO X0 hx hZ hown (ow5 hw) (ow6 hw) (ow7 hw) e0 (g := (mkF m 42 #[.val (.ref a1), .val (.int (2 : Int32))] [])) rfl (hb hby od_m_3_42) (by decide) (by decide)
  obtain ⟨b148, g148⟩ : ∃ z, z = h0.size := ⟨_, rfl⟩
  rw [← g148] at A148 D148 U148 st148
  refine Go.by st148 ?_
  have K149 : Keep h0 h148 [] := K0.ext E148
  have O149 : Old Z n0 h148 := X00.ext E148
  show Go p e below _ T148 (mkF m 45 #[.val (.ref a1), .val (.int (2 : Int32))] [(.ref b148)])
  refine Go.by (fun t k => XS.dup X148.here hx rfl (hb hby od_m_3_45) rfl rfl (XS.iconst X148.here hx rfl (hb hby od_m_3_46) k)) ?_
  show Go p e below _ T148 (mkF m 47 #[.val (.ref a1), .val (.int (2 : Int32))] [(.int (2 : Int32)), (.ref b148), (.ref b148)])
  obtain ⟨T150, h150, k150, X150, e150, E150, A150, st150⟩ := newP X148 hx hZ (aty := .char) (ow0 hw) e148 (g := (mkF m 47 #[.val (.ref a1), .val (.int (2 : Int32))] [(.int (2 : Int32)), (.ref b148), (.ref b148)])) rfl (hb hby od_m_3_47) rfl (by decide) (cap := 2) (by decide) (by decide) (by decide) (by decide)
  obtain ⟨b150, g150⟩ : ∃ z, z = h148.size := ⟨_, rfl⟩
  rw [← g150] at A150 st150
  refine Go.by st150 ?_
  have K151 : Keep h0 h150 [] := K149.ext E150
  have O151 : Old Z n0 h150 := O149.ext E150
  show Go p e below _ T150 (mkF m 49 #[.val (.ref a1), .val (.int (2 : Int32))] [(.ref b150), (.ref b148), (.ref b148)])
  have V150 : Arv Z h150 b150 k150 .char (2 : Int32) [(.int (0 : Int32)), (.int (0 : Int32))] (.int (0 : Int32)) := (Arv.new A150 (by decide)).pad (pad_rep [] (.int (0 : Int32)) 2)
  refine Go.by (fun t k => XS.dup X150.here hx rfl (hb hby od_m_3_49) rfl rfl (XS.iconst X150.here hx rfl (hb hby od_m_3_50) (XS.aloadN X150.here hx rfl (hb hby od_m_3_51) rfl rfl (XS.iconst X150.here hx rfl (hb hby od_m_3_52) k)))) ?_
  show Go p e below _ T150 (mkF m 53 #[.val (.ref a1), .val (.int (2 : Int32))] [(.int (0 : Int32)), (.ref a1), (.int (0 : Int32)), (.ref b150), (.ref b150), (.ref b148), (.ref b148)])
  have F153 : Arv Z h150 a1 k1 .char (7 : Int32) ([(.int c0), (.int c1), (.int c2), (.int c3), (.int c4), (.int c5), (.int c6)]) (.int (0 : Int32)) := ((V1.ext E148).ext E150)
  obtain ⟨c152, A152, q152, S152, M152, G152, J152⟩ := id F153
  have i152 := inb_of S152 (j := (0 : Int32)) ⟨by decide, by decide⟩
  refine Go.by (X150.caload hx (j := (0 : Int32)) (v := (.int c0)) (by rw [e150]; exact A152.1) (State.isArrayOf_alike hZ.alike A152.2.1) A152.2.2 i152 (G152.at i152 rfl) (g := (mkF m 53 #[.val (.ref a1), .val (.int (2 : Int32))] [(.int (0 : Int32)), (.ref a1), (.int (0 : Int32)), (.ref b150), (.ref b150), (.ref b148), (.ref b148)])) rfl rfl (hb hby od_m_3_53)) ?_
  show Go p e below _ T150 (mkF m 54 #[.val (.ref a1), .val (.int (2 : Int32))] [(.int c0), (.int (0 : Int32)), (.ref b150), (.ref b150), (.ref b148), (.ref b148)])
  obtain ⟨c154, A154, q154, S154, M154, G154, J154⟩ := id V150
  obtain ⟨T154, h154, X154, e154, W154, st154⟩ := stC X150 hx hZ e150 A154 (j := (0 : Int32)) (inb_of S154 ⟨by decide, by decide⟩) (g := (mkF m 54 #[.val (.ref a1), .val (.int (2 : Int32))] [(.int c0), (.int (0 : Int32)), (.ref b150), (.ref b150), (.ref b148), (.ref b148)])) rfl rfl (hb hby od_m_3_54)
  refine Go.by st154 ?_
  have N154 := Fr.snoc X154 N0 (Nat.le_trans (Nat.le_trans Z0 E148.1) (Nat.le_of_eq g150.symm))
  have K155 : Keep h0 h154 [] := K151.wr W154 (Or.inr (Nat.le_trans E148.1 (Nat.le_of_eq g150.symm)))
  have O155 : Old Z n0 h154 := O151.wr W154 (Nat.le_trans (Nat.le_trans Z0 E148.1) (Nat.le_of_eq g150.symm))
  show Go p e below _ T154 (mkF m 55 #[.val (.ref a1), .val (.int (2 : Int32))] [(.ref b150), (.ref b148), (.ref b148)])
  have V154 : Arv Z h154 b150 k150 .char (2 : Int32) ([(.int (nar .char c0)), (.int (0 : Int32))]) (.int (0 : Int32)) := Arv.set A154 q154 S154 M154 G154 J154 (fits_nar_char _) W154 0 rfl (Nat.le_of_ble_eq_true rfl)
  rw [e_0] at V154
  refine Go.by (fun t k => XS.dup X154.here hx rfl (hb hby od_m_3_55) rfl rfl (XS.iconst X154.here hx rfl (hb hby od_m_3_56) (XS.aloadN X154.here hx rfl (hb hby od_m_3_57) rfl rfl (XS.iconst X154.here hx rfl (hb hby od_m_3_58) k)))) ?_
  show Go p e below _ T154 (mkF m 59 #[.val (.ref a1), .val (.int (2 : Int32))] [(.int (1 : Int32)), (.ref a1), (.int (1 : Int32)), (.ref b150), (.ref b150), (.ref b148), (.ref b148)])
  have F157 : Arv Z h154 a1 k1 .char (7 : Int32) ([(.int c0), (.int c1), (.int c2), (.int c3), (.int c4), (.int c5), (.int c6)]) (.int (0 : Int32)) := (F153.other W154 (Nat.ne_of_lt (Nat.lt_of_lt_of_le (V1.ext E148).lt (Nat.le_of_eq g150.symm))))
  obtain ⟨c156, A156, q156, S156, M156, G156, J156⟩ := id F157
  have i156 := inb_of S156 (j := (1 : Int32)) ⟨by decide, by decide⟩
  refine Go.by (X154.caload hx (j := (1 : Int32)) (v := (.int c1)) (by rw [e154]; exact A156.1) (State.isArrayOf_alike hZ.alike A156.2.1) A156.2.2 i156 (G156.at i156 rfl) (g := (mkF m 59 #[.val (.ref a1), .val (.int (2 : Int32))] [(.int (1 : Int32)), (.ref a1), (.int (1 : Int32)), (.ref b150), (.ref b150), (.ref b148), (.ref b148)])) rfl rfl (hb hby od_m_3_59)) ?_
  show Go p e below _ T154 (mkF m 60 #[.val (.ref a1), .val (.int (2 : Int32))] [(.int c1), (.int (1 : Int32)), (.ref b150), (.ref b150), (.ref b148), (.ref b148)])
  obtain ⟨c158, A158, q158, S158, M158, G158, J158⟩ := id V154
  obtain ⟨T158, h158, X158, e158, W158, st158⟩ := stC X154 hx hZ e154 A158 (j := (1 : Int32)) (inb_of S158 ⟨by decide, by decide⟩) (g := (mkF m 60 #[.val (.ref a1), .val (.int (2 : Int32))] [(.int c1), (.int (1 : Int32)), (.ref b150), (.ref b150), (.ref b148), (.ref b148)])) rfl rfl (hb hby od_m_3_60)
  refine Go.by st158 ?_
  have N158 := Fr.snoc X158 N154 (Nat.le_trans (Nat.le_trans Z0 E148.1) (Nat.le_of_eq g150.symm))
  have K159 : Keep h0 h158 [] := K155.wr W158 (Or.inr (Nat.le_trans E148.1 (Nat.le_of_eq g150.symm)))
  have O159 : Old Z n0 h158 := O155.wr W158 (Nat.le_trans (Nat.le_trans Z0 E148.1) (Nat.le_of_eq g150.symm))
  show Go p e below _ T158 (mkF m 61 #[.val (.ref a1), .val (.int (2 : Int32))] [(.ref b150), (.ref b148), (.ref b148)])
  have V158 : Arv Z h158 b150 k150 .char (2 : Int32) ([(.int c0), (.int (nar .char c1))]) (.int (0 : Int32)) := Arv.set A158 q158 S158 M158 G158 J158 (fits_nar_char _) W158 1 rfl (Nat.le_of_ble_eq_true rfl)
  rw [e_1] at V158
  have hp : ∀ c ∈ ([c0, c1] : List Int32), ¬ c < 0 ∧ ¬ (255 : Int32) < c := by
    intro c hc; simp only [List.mem_cons, List.not_mem_nil, or_false] at hc; rcases hc with rfl | rfl
    · exact r0
    · exact r1
  have hws : ∀ d ∈ StrChars.Road.words, d.before a0 Z = true := fun d hd => hw d ((by decide +kernel : ∀ d ∈ StrChars.Road.words, d ∈ tables_1) d hd)
  have F161 : Exa Z h158 b148 "java/lang/String" := (((A148.ext E150).wr W154).wr W158)
  have F162 : Fld Z h158 b148 "java/lang/String" "value" "[B" .null := ((((D148 (Or.inr (ow33 hw)) (ty := (.array .byte)) (by decide)).ext E150).other W154 (Or.inl (Nat.ne_of_lt (Nat.lt_of_lt_of_le A148.lt (Nat.le_of_eq g150.symm))))).other W158 (Or.inl (Nat.ne_of_lt (Nat.lt_of_lt_of_le A148.lt (Nat.le_of_eq g150.symm)))))
  have F163 : Fld Z h158 b148 "java/lang/String" "coder" "B" (.int (0 : Int32)) := ((((D148 (Or.inr (ow31 hw)) (ty := .byte) (by decide)).ext E150).other W154 (Or.inl (Nat.ne_of_lt (Nat.lt_of_lt_of_le A148.lt (Nat.le_of_eq g150.symm))))).other W158 (Or.inl (Nat.ne_of_lt (Nat.lt_of_lt_of_le A148.lt (Nat.le_of_eq g150.symm)))))
  obtain ⟨_, _, ⟨T160, L160, k160, n160⟩, -, X160, ⟨Lc160, hQ160, l160, y160, z160⟩, st160⟩ := X158.specialBack hx (y := (⟨"java/lang/String", "<init>", "([C)V"⟩ : MethodName)) rfl hown (mvT hZ (ow8 hw)) (mvT hZ (ow9 hw)) (mvT hZ (ow10 hw)) (by decide) (StrChars.Road.backV (W := 1) hZ hws (kI := 4) (ow6 hw) (cs := ([c0, c1] : List Int32)) (bs := ([c0, c1] : List Int32).map (fun c => c.toInt8.toInt32)) (n := 2) (Nat.le_trans (Nat.le_trans Z0 (Nat.le_refl _)) (Nat.le_of_eq g148.symm)) (Nat.le_trans Z0 (Nat.le_trans (Nat.le_trans (Nat.le_trans E148.1 E150.1) (Keep.of_wr W154).1) (Keep.of_wr W158).1)) F161 F162 F163 V158 (O2.ext O159.2) P5 rfl rfl (by decide) (by decide) hp rfl (by decide) (by decide)) (g := (mkF m 61 #[.val (.ref a1), .val (.int (2 : Int32))] [(.ref b150), (.ref b148), (.ref b148)])) rfl (by rw [hml]; rfl) (Steps.refl _) (a := b148) (argsL := [(.ref b150)]) (rest := [(.ref b148)]) (lenOf opd_1 rfl) rfl (by show 2 * 0 + _ ≤ _; exact Nat.le_of_eq rfl) (hb hby od_m_3_61) (fun _ _ => ⟨rfl, e158, (by decide : 2 + 1 ≤ _), (by decide : 6 + 2 ≤ _)⟩)
  dsimp only [Pt.U, Pt.locs, Pt.cells, Pt.slots] at X160 l160 y160 z160 st160 hQ160
  subst l160 y160 z160
  obtain ⟨rfl, N160q, K160q, PE160, PC160, t160, kb160, -, u160, v160, PV160, PA160⟩ := hQ160
  have N160 := Fr.app N158 N160q
  refine Go.tr st160 ?_
  have K164 : Keep h0 T160.heap [] := K159.trans K160q (allS (Or.inr (Nat.le_trans (Nat.le_refl _) (Nat.le_of_eq g148.symm))) all0)
  have O164 : Old Z n0 T160.heap := O159.keep K160q (allS (Nat.le_trans (Nat.le_trans Z0 (Nat.le_refl _)) (Nat.le_of_eq g148.symm)) all0)
  show Go p e below _ T160 (mkF m 64 #[.val (.ref a1), .val (.int (2 : Int32))] [(.ref b148)])
  exact Go.retR X160 hx hret rfl rfl rfl hlk (hb hby od_m_3_64) ⟨b148, t160, kb160, rfl, N160, K164, (Nat.le_trans (Nat.le_refl _) (Nat.le_of_eq g148.symm)), PE160, PC160, PV160, PA160⟩ (by decide) (by decide)
def Q_make3 (Z : State) (a1 : Addr) (k1 : ClassId) (c0 : Int32) (c1 : Int32) (c2 : Int32) (c3 : Int32) (c4 : Int32) (c5 : Int32) (c6 : Int32) (G1 : Int32) (h0 : Heap) (n0 : Nat) (rv : Option Value) (hE : Heap) (LE : List Loc) : Prop := ∃ bs : Addr, ∃ bt : Addr, ∃ kb : ClassId, rv = some (.ref bs) ∧ Fr n0 LE ∧ Keep h0 hE [] ∧ (h0.size ≤ bs) ∧ (Exa Z hE bs "java/lang/String") ∧ (Fld Z hE bs "java/lang/String" "coder" "B" (.int (0 : Int32))) ∧ (Fld Z hE bs "java/lang/String" "value" "[B" (.ref bt)) ∧ (Arv Z hE bt kb .byte (3 : Int32) (B8 ([c0, c1, c2] : List Int32)) (.int (0 : Int32)))
set_option maxRecDepth 65536 in
set_option maxHeartbeats 40000000 in
theorem rm_make3 (l : Launch) (Z : State) (a0 : Array Value) (hw : HW a0 Z) (ws : List Jvm.Cond) (a1 : Addr) (k1 : ClassId) (c0 : Int32) (c1 : Int32) (c2 : Int32) (c3 : Int32) (c4 : Int32) (c5 : Int32) (c6 : Int32) (G1 : Int32) (h0 : Heap) (n0 : Nat) (Z0 : n0 ≤ h0.size) (V1 : Arv Z h0 a1 k1 .char (7 : Int32) ([(.int c0), (.int c1), (.int c2), (.int c3), (.int c4), (.int c5), (.int c6)]) (.int (0 : Int32))) (HN : ∀ c ∈ ([c0, c1, c2, c3, c4, c5, c6] : List Int32), ¬ c < 0 ∧ ¬ (255 : Int32) < c) (O2 : Sta Z Z.heap "java/lang/String" "COMPACT_STRINGS" "Z" (.int G1)) (P5 : ¬ (G1 = (0 : Int32))) (X00 : Old Z n0 h0) :
    MetFree l (⟨"com/example/antecedent/antecedent/EntityTypeForLabelPinLaw", "make", "([CI)Ljava/lang/String;"⟩ : MethodName) (head1 (Jvm.Cond.code (⟨"com/example/antecedent/antecedent/EntityTypeForLabelPinLaw", "make", "([CI)Ljava/lang/String;"⟩ : MethodName) method_3_code 2 (Option.some (Jvm.ClassFile.FieldType.object "java/lang/String")) :: ws) ({ frames := 4, cells := 6, slots := 18, locals := 66 } : Room)) (fun a U => a = #[(.ref a1), (.int (3 : Int32))] ∧ Z.Warmed39 U.vm ∧ U.heap = h0) (fun _ _ _ _ _ => True) (fun _ U o U' => Out U (Q_make3 Z a1 k1 c0 c1 c2 c3 c4 c5 c6 G1 h0 n0) ({ frames := 4, cells := 6, slots := 18, locals := 66 } : Room).cells ({ frames := 4, cells := 6, slots := 18, locals := 66 } : Room).slots o U') := by
  refine MetFree.of_bodySF (plainFor_of_name opn_1) hisR ?_
  intro p e s m args below meth c s₁ Bd hml0 hP hK
  obtain ⟨rfl, hZ, hh⟩ := hP
  have hx := Bd.exec
  have hby := Bd.bytes
  have hml : c.maxLocals = 2 := hml0
  have hret := Bd.returns
  have hlk : meth.locks = false := BodyLoose.notSynchronized Bd
  have hown : s.vm.findClass "com/example/antecedent/antecedent/EntityTypeForLabelPinLaw" = some m.cls := findClass_of_methodNamed Bd.named
  have hnm := (name_of_methodNamed Bd.named Bd.method).1
  have X0 : Stand p l e ({ frames := 4, cells := 6, slots := 18, locals := 66 } : Room) s m #[(.ref a1), (.int (3 : Int32))] below meth c s₁ [] 0 0 := Stand.of_body Bd
  have e0 : s₁.heap = h0 := by rw [← hh, Bd.state]; rfl
  have N0 := Fr.nil n0
  have K0 : Keep h0 h0 [] := Keep.refl h0 _
  show Go p e below (Out s (Q_make3 Z a1 k1 c0 c1 c2 c3 c4 c5 c6 G1 h0 n0) ({ frames := 4, cells := 6, slots := 18, locals := 66 } : Room).cells ({ frames := 4, cells := 6, slots := 18, locals := 66 } : Room).slots) s₁ (entryFrame m #[(.ref a1), (.int (3 : Int32))] 2)
  refine Go.cast (oef_make3 m a1 (3 : Int32)) ?_
  show Go p e below _ s₁ (mkF m 0 #[.val (.ref a1), .val (.int (3 : Int32))] [])
  have r0 := HN c0 (by simp)
  have e_0 := nar_id r0
  have r1 := HN c1 (by simp)
  have e_1 := nar_id r1
  have r2 := HN c2 (by simp)
  have e_2 := nar_id r2
  refine Go.by (fun t k => XS.iloadN X0.here hx rfl (hb hby od_m_3_0) rfl (XS.ifYes X0.here hx rfl (pc0 := 1) (pc' := 15) rfl (hb hby od_m_3_1) rfl ((if0 _ _).trans (feq (show ¬ ((3 : Int32) = (0 : Int32)) from (by decide))).2) (by decide) (by decide) k)) ?_
  show Go p e below _ s₁ (mkF m 15 #[.val (.ref a1), .val (.int (3 : Int32))] [])
  refine Go.by (fun t k => XS.iloadN X0.here hx rfl (hb hby od_m_3_15) rfl (XS.iconst X0.here hx rfl (hb hby od_m_3_16) (XS.icmpYes X0.here hx rfl (pc0 := 17) (pc' := 37) rfl (hb hby od_m_3_17) rfl (feq (show ¬ ((3 : Int32) = (1 : Int32)) from (by decide))).2 (by decide) (by decide) k))) ?_
  show Go p e below _ s₁ (mkF m 37 #[.val (.ref a1), .val (.int (3 : Int32))] [])
  refine Go.by (fun t k => XS.iloadN X0.here hx rfl (hb hby od_m_3_37) rfl (XS.iconst X0.here hx rfl (hb hby od_m_3_38) (XS.icmpYes X0.here hx rfl (pc0 := 39) (pc' := 65) rfl (hb hby od_m_3_39) rfl (feq (show ¬ ((3 : Int32) = (2 : Int32)) from (by decide))).2 (by decide) (by decide) k))) ?_
  show Go p e below _ s₁ (mkF m 65 #[.val (.ref a1), .val (.int (3 : Int32))] [])
  refine Go.by (fun t k => XS.iloadN X0.here hx rfl (hb hby od_m_3_65) rfl (XS.iconst X0.here hx rfl (hb hby od_m_3_66) (XS.icmpNo X0.here hx rfl (hb hby od_m_3_67) rfl (teq (show (3 : Int32) = (3 : Int32) from (by decide))).2 k))) ?_
  show Go p e below _ s₁ (mkF m 70 #[.val (.ref a1), .val (.int (3 : Int32))] [])
  obtain ⟨T165, h165, X165, e165, E165, A165, D165, U165, st165⟩ := newO X0 hx hZ hown (ow5 hw) (ow6 hw) (ow7 hw) e0 (g := (mkF m 70 #[.val (.ref a1), .val (.int (3 : Int32))] [])) rfl (hb hby od_m_3_70) (by decide) (by decide)
  obtain ⟨b165, g165⟩ : ∃ z, z = h0.size := ⟨_, rfl⟩
  rw [← g165] at A165 D165 U165 st165
  refine Go.by st165 ?_
  have K166 : Keep h0 h165 [] := K0.ext E165
  have O166 : Old Z n0 h165 := X00.ext E165
  show Go p e below _ T165 (mkF m 73 #[.val (.ref a1), .val (.int (3 : Int32))] [(.ref b165)])
  refine Go.by (fun t k => XS.dup X165.here hx rfl (hb hby od_m_3_73) rfl rfl (XS.iconst X165.here hx rfl (hb hby od_m_3_74) k)) ?_
  show Go p e below _ T165 (mkF m 75 #[.val (.ref a1), .val (.int (3 : Int32))] [(.int (3 : Int32)), (.ref b165), (.ref b165)])
  obtain ⟨T167, h167, k167, X167, e167, E167, A167, st167⟩ := newP X165 hx hZ (aty := .char) (ow0 hw) e165 (g := (mkF m 75 #[.val (.ref a1), .val (.int (3 : Int32))] [(.int (3 : Int32)), (.ref b165), (.ref b165)])) rfl (hb hby od_m_3_75) rfl (by decide) (cap := 3) (by decide) (by decide) (by decide) (by decide)
  obtain ⟨b167, g167⟩ : ∃ z, z = h165.size := ⟨_, rfl⟩
  rw [← g167] at A167 st167
  refine Go.by st167 ?_
  have K168 : Keep h0 h167 [] := K166.ext E167
  have O168 : Old Z n0 h167 := O166.ext E167
  show Go p e below _ T167 (mkF m 77 #[.val (.ref a1), .val (.int (3 : Int32))] [(.ref b167), (.ref b165), (.ref b165)])
  have V167 : Arv Z h167 b167 k167 .char (3 : Int32) [(.int (0 : Int32)), (.int (0 : Int32)), (.int (0 : Int32))] (.int (0 : Int32)) := (Arv.new A167 (by decide)).pad (pad_rep [] (.int (0 : Int32)) 3)
  refine Go.by (fun t k => XS.dup X167.here hx rfl (hb hby od_m_3_77) rfl rfl (XS.iconst X167.here hx rfl (hb hby od_m_3_78) (XS.aloadN X167.here hx rfl (hb hby od_m_3_79) rfl rfl (XS.iconst X167.here hx rfl (hb hby od_m_3_80) k)))) ?_
  show Go p e below _ T167 (mkF m 81 #[.val (.ref a1), .val (.int (3 : Int32))] [(.int (0 : Int32)), (.ref a1), (.int (0 : Int32)), (.ref b167), (.ref b167), (.ref b165), (.ref b165)])
  have F170 : Arv Z h167 a1 k1 .char (7 : Int32) ([(.int c0), (.int c1), (.int c2), (.int c3), (.int c4), (.int c5), (.int c6)]) (.int (0 : Int32)) := ((V1.ext E165).ext E167)
  obtain ⟨c169, A169, q169, S169, M169, G169, J169⟩ := id F170
  have i169 := inb_of S169 (j := (0 : Int32)) ⟨by decide, by decide⟩
  refine Go.by (X167.caload hx (j := (0 : Int32)) (v := (.int c0)) (by rw [e167]; exact A169.1) (State.isArrayOf_alike hZ.alike A169.2.1) A169.2.2 i169 (G169.at i169 rfl) (g := (mkF m 81 #[.val (.ref a1), .val (.int (3 : Int32))] [(.int (0 : Int32)), (.ref a1), (.int (0 : Int32)), (.ref b167), (.ref b167), (.ref b165), (.ref b165)])) rfl rfl (hb hby od_m_3_81)) ?_
  show Go p e below _ T167 (mkF m 82 #[.val (.ref a1), .val (.int (3 : Int32))] [(.int c0), (.int (0 : Int32)), (.ref b167), (.ref b167), (.ref b165), (.ref b165)])
  obtain ⟨c171, A171, q171, S171, M171, G171, J171⟩ := id V167
  obtain ⟨T171, h171, X171, e171, W171, st171⟩ := stC X167 hx hZ e167 A171 (j := (0 : Int32)) (inb_of S171 ⟨by decide, by decide⟩) (g := (mkF m 82 #[.val (.ref a1), .val (.int (3 : Int32))] [(.int c0), (.int (0 : Int32)), (.ref b167), (.ref b167), (.ref b165), (.ref b165)])) rfl rfl (hb hby od_m_3_82)
  refine Go.by st171 ?_
  have N171 := Fr.snoc X171 N0 (Nat.le_trans (Nat.le_trans Z0 E165.1) (Nat.le_of_eq g167.symm))
  have K172 : Keep h0 h171 [] := K168.wr W171 (Or.inr (Nat.le_trans E165.1 (Nat.le_of_eq g167.symm)))
  have O172 : Old Z n0 h171 := O168.wr W171 (Nat.le_trans (Nat.le_trans Z0 E165.1) (Nat.le_of_eq g167.symm))
  show Go p e below _ T171 (mkF m 83 #[.val (.ref a1), .val (.int (3 : Int32))] [(.ref b167), (.ref b165), (.ref b165)])
  have V171 : Arv Z h171 b167 k167 .char (3 : Int32) ([(.int (nar .char c0)), (.int (0 : Int32)), (.int (0 : Int32))]) (.int (0 : Int32)) := Arv.set A171 q171 S171 M171 G171 J171 (fits_nar_char _) W171 0 rfl (Nat.le_of_ble_eq_true rfl)
  rw [e_0] at V171
  refine Go.by (fun t k => XS.dup X171.here hx rfl (hb hby od_m_3_83) rfl rfl (XS.iconst X171.here hx rfl (hb hby od_m_3_84) (XS.aloadN X171.here hx rfl (hb hby od_m_3_85) rfl rfl (XS.iconst X171.here hx rfl (hb hby od_m_3_86) k)))) ?_
  show Go p e below _ T171 (mkF m 87 #[.val (.ref a1), .val (.int (3 : Int32))] [(.int (1 : Int32)), (.ref a1), (.int (1 : Int32)), (.ref b167), (.ref b167), (.ref b165), (.ref b165)])
  have F174 : Arv Z h171 a1 k1 .char (7 : Int32) ([(.int c0), (.int c1), (.int c2), (.int c3), (.int c4), (.int c5), (.int c6)]) (.int (0 : Int32)) := (F170.other W171 (Nat.ne_of_lt (Nat.lt_of_lt_of_le (V1.ext E165).lt (Nat.le_of_eq g167.symm))))
  obtain ⟨c173, A173, q173, S173, M173, G173, J173⟩ := id F174
  have i173 := inb_of S173 (j := (1 : Int32)) ⟨by decide, by decide⟩
  refine Go.by (X171.caload hx (j := (1 : Int32)) (v := (.int c1)) (by rw [e171]; exact A173.1) (State.isArrayOf_alike hZ.alike A173.2.1) A173.2.2 i173 (G173.at i173 rfl) (g := (mkF m 87 #[.val (.ref a1), .val (.int (3 : Int32))] [(.int (1 : Int32)), (.ref a1), (.int (1 : Int32)), (.ref b167), (.ref b167), (.ref b165), (.ref b165)])) rfl rfl (hb hby od_m_3_87)) ?_
  show Go p e below _ T171 (mkF m 88 #[.val (.ref a1), .val (.int (3 : Int32))] [(.int c1), (.int (1 : Int32)), (.ref b167), (.ref b167), (.ref b165), (.ref b165)])
  obtain ⟨c175, A175, q175, S175, M175, G175, J175⟩ := id V171
  obtain ⟨T175, h175, X175, e175, W175, st175⟩ := stC X171 hx hZ e171 A175 (j := (1 : Int32)) (inb_of S175 ⟨by decide, by decide⟩) (g := (mkF m 88 #[.val (.ref a1), .val (.int (3 : Int32))] [(.int c1), (.int (1 : Int32)), (.ref b167), (.ref b167), (.ref b165), (.ref b165)])) rfl rfl (hb hby od_m_3_88)
  refine Go.by st175 ?_
  have N175 := Fr.snoc X175 N171 (Nat.le_trans (Nat.le_trans Z0 E165.1) (Nat.le_of_eq g167.symm))
  have K176 : Keep h0 h175 [] := K172.wr W175 (Or.inr (Nat.le_trans E165.1 (Nat.le_of_eq g167.symm)))
  have O176 : Old Z n0 h175 := O172.wr W175 (Nat.le_trans (Nat.le_trans Z0 E165.1) (Nat.le_of_eq g167.symm))
  show Go p e below _ T175 (mkF m 89 #[.val (.ref a1), .val (.int (3 : Int32))] [(.ref b167), (.ref b165), (.ref b165)])
  have V175 : Arv Z h175 b167 k167 .char (3 : Int32) ([(.int c0), (.int (nar .char c1)), (.int (0 : Int32))]) (.int (0 : Int32)) := Arv.set A175 q175 S175 M175 G175 J175 (fits_nar_char _) W175 1 rfl (Nat.le_of_ble_eq_true rfl)
  rw [e_1] at V175
  refine Go.by (fun t k => XS.dup X175.here hx rfl (hb hby od_m_3_89) rfl rfl (XS.iconst X175.here hx rfl (hb hby od_m_3_90) (XS.aloadN X175.here hx rfl (hb hby od_m_3_91) rfl rfl (XS.iconst X175.here hx rfl (hb hby od_m_3_92) k)))) ?_
  show Go p e below _ T175 (mkF m 93 #[.val (.ref a1), .val (.int (3 : Int32))] [(.int (2 : Int32)), (.ref a1), (.int (2 : Int32)), (.ref b167), (.ref b167), (.ref b165), (.ref b165)])
  have F178 : Arv Z h175 a1 k1 .char (7 : Int32) ([(.int c0), (.int c1), (.int c2), (.int c3), (.int c4), (.int c5), (.int c6)]) (.int (0 : Int32)) := (F174.other W175 (Nat.ne_of_lt (Nat.lt_of_lt_of_le (V1.ext E165).lt (Nat.le_of_eq g167.symm))))
  obtain ⟨c177, A177, q177, S177, M177, G177, J177⟩ := id F178
  have i177 := inb_of S177 (j := (2 : Int32)) ⟨by decide, by decide⟩
  refine Go.by (X175.caload hx (j := (2 : Int32)) (v := (.int c2)) (by rw [e175]; exact A177.1) (State.isArrayOf_alike hZ.alike A177.2.1) A177.2.2 i177 (G177.at i177 rfl) (g := (mkF m 93 #[.val (.ref a1), .val (.int (3 : Int32))] [(.int (2 : Int32)), (.ref a1), (.int (2 : Int32)), (.ref b167), (.ref b167), (.ref b165), (.ref b165)])) rfl rfl (hb hby od_m_3_93)) ?_
  show Go p e below _ T175 (mkF m 94 #[.val (.ref a1), .val (.int (3 : Int32))] [(.int c2), (.int (2 : Int32)), (.ref b167), (.ref b167), (.ref b165), (.ref b165)])
  obtain ⟨c179, A179, q179, S179, M179, G179, J179⟩ := id V175
  obtain ⟨T179, h179, X179, e179, W179, st179⟩ := stC X175 hx hZ e175 A179 (j := (2 : Int32)) (inb_of S179 ⟨by decide, by decide⟩) (g := (mkF m 94 #[.val (.ref a1), .val (.int (3 : Int32))] [(.int c2), (.int (2 : Int32)), (.ref b167), (.ref b167), (.ref b165), (.ref b165)])) rfl rfl (hb hby od_m_3_94)
  refine Go.by st179 ?_
  have N179 := Fr.snoc X179 N175 (Nat.le_trans (Nat.le_trans Z0 E165.1) (Nat.le_of_eq g167.symm))
  have K180 : Keep h0 h179 [] := K176.wr W179 (Or.inr (Nat.le_trans E165.1 (Nat.le_of_eq g167.symm)))
  have O180 : Old Z n0 h179 := O176.wr W179 (Nat.le_trans (Nat.le_trans Z0 E165.1) (Nat.le_of_eq g167.symm))
  show Go p e below _ T179 (mkF m 95 #[.val (.ref a1), .val (.int (3 : Int32))] [(.ref b167), (.ref b165), (.ref b165)])
  have V179 : Arv Z h179 b167 k167 .char (3 : Int32) ([(.int c0), (.int c1), (.int (nar .char c2))]) (.int (0 : Int32)) := Arv.set A179 q179 S179 M179 G179 J179 (fits_nar_char _) W179 2 rfl (Nat.le_of_ble_eq_true rfl)
  rw [e_2] at V179
  have hp : ∀ c ∈ ([c0, c1, c2] : List Int32), ¬ c < 0 ∧ ¬ (255 : Int32) < c := by
    intro c hc; simp only [List.mem_cons, List.not_mem_nil, or_false] at hc; rcases hc with rfl | rfl | rfl
    · exact r0
    · exact r1
    · exact r2
  have hws : ∀ d ∈ StrChars.Road.words, d.before a0 Z = true := fun d hd => hw d ((by decide +kernel : ∀ d ∈ StrChars.Road.words, d ∈ tables_1) d hd)
  have F182 : Exa Z h179 b165 "java/lang/String" := ((((A165.ext E167).wr W171).wr W175).wr W179)
  have F183 : Fld Z h179 b165 "java/lang/String" "value" "[B" .null := (((((D165 (Or.inr (ow33 hw)) (ty := (.array .byte)) (by decide)).ext E167).other W171 (Or.inl (Nat.ne_of_lt (Nat.lt_of_lt_of_le A165.lt (Nat.le_of_eq g167.symm))))).other W175 (Or.inl (Nat.ne_of_lt (Nat.lt_of_lt_of_le A165.lt (Nat.le_of_eq g167.symm))))).other W179 (Or.inl (Nat.ne_of_lt (Nat.lt_of_lt_of_le A165.lt (Nat.le_of_eq g167.symm)))))
  have F184 : Fld Z h179 b165 "java/lang/String" "coder" "B" (.int (0 : Int32)) := (((((D165 (Or.inr (ow31 hw)) (ty := .byte) (by decide)).ext E167).other W171 (Or.inl (Nat.ne_of_lt (Nat.lt_of_lt_of_le A165.lt (Nat.le_of_eq g167.symm))))).other W175 (Or.inl (Nat.ne_of_lt (Nat.lt_of_lt_of_le A165.lt (Nat.le_of_eq g167.symm))))).other W179 (Or.inl (Nat.ne_of_lt (Nat.lt_of_lt_of_le A165.lt (Nat.le_of_eq g167.symm)))))
  obtain ⟨_, _, ⟨T181, L181, k181, n181⟩, -, X181, ⟨Lc181, hQ181, l181, y181, z181⟩, st181⟩ := X179.specialBack hx (y := (⟨"java/lang/String", "<init>", "([C)V"⟩ : MethodName)) rfl hown (mvT hZ (ow8 hw)) (mvT hZ (ow9 hw)) (mvT hZ (ow10 hw)) (by decide) (StrChars.Road.backV (W := 1) hZ hws (kI := 4) (ow6 hw) (cs := ([c0, c1, c2] : List Int32)) (bs := ([c0, c1, c2] : List Int32).map (fun c => c.toInt8.toInt32)) (n := 3) (Nat.le_trans (Nat.le_trans Z0 (Nat.le_refl _)) (Nat.le_of_eq g165.symm)) (Nat.le_trans Z0 (Nat.le_trans (Nat.le_trans (Nat.le_trans (Nat.le_trans E165.1 E167.1) (Keep.of_wr W171).1) (Keep.of_wr W175).1) (Keep.of_wr W179).1)) F182 F183 F184 V179 (O2.ext O180.2) P5 rfl rfl (by decide) (by decide) hp rfl (by decide) (by decide)) (g := (mkF m 95 #[.val (.ref a1), .val (.int (3 : Int32))] [(.ref b167), (.ref b165), (.ref b165)])) rfl (by rw [hml]; rfl) (Steps.refl _) (a := b165) (argsL := [(.ref b167)]) (rest := [(.ref b165)]) (lenOf opd_1 rfl) rfl (by show 2 * 0 + _ ≤ _; exact Nat.le_of_eq rfl) (hb hby od_m_3_95) (fun _ _ => ⟨rfl, e179, (by decide : 2 + 1 ≤ _), (by decide : 7 + 3 ≤ _)⟩)
  dsimp only [Pt.U, Pt.locs, Pt.cells, Pt.slots] at X181 l181 y181 z181 st181 hQ181
  subst l181 y181 z181
  obtain ⟨rfl, N181q, K181q, PE181, PC181, t181, kb181, -, u181, v181, PV181, PA181⟩ := hQ181
  have N181 := Fr.app N179 N181q
  refine Go.tr st181 ?_
  have K185 : Keep h0 T181.heap [] := K180.trans K181q (allS (Or.inr (Nat.le_trans (Nat.le_refl _) (Nat.le_of_eq g165.symm))) all0)
  have O185 : Old Z n0 T181.heap := O180.keep K181q (allS (Nat.le_trans (Nat.le_trans Z0 (Nat.le_refl _)) (Nat.le_of_eq g165.symm)) all0)
  show Go p e below _ T181 (mkF m 98 #[.val (.ref a1), .val (.int (3 : Int32))] [(.ref b165)])
  exact Go.retR X181 hx hret rfl rfl rfl hlk (hb hby od_m_3_98) ⟨b165, t181, kb181, rfl, N181, K185, (Nat.le_trans (Nat.le_refl _) (Nat.le_of_eq g165.symm)), PE181, PC181, PV181, PA181⟩ (by decide) (by decide)
def Q_make4 (Z : State) (a1 : Addr) (k1 : ClassId) (c0 : Int32) (c1 : Int32) (c2 : Int32) (c3 : Int32) (c4 : Int32) (c5 : Int32) (c6 : Int32) (G1 : Int32) (h0 : Heap) (n0 : Nat) (rv : Option Value) (hE : Heap) (LE : List Loc) : Prop := ∃ bs : Addr, ∃ bt : Addr, ∃ kb : ClassId, rv = some (.ref bs) ∧ Fr n0 LE ∧ Keep h0 hE [] ∧ (h0.size ≤ bs) ∧ (Exa Z hE bs "java/lang/String") ∧ (Fld Z hE bs "java/lang/String" "coder" "B" (.int (0 : Int32))) ∧ (Fld Z hE bs "java/lang/String" "value" "[B" (.ref bt)) ∧ (Arv Z hE bt kb .byte (4 : Int32) (B8 ([c0, c1, c2, c3] : List Int32)) (.int (0 : Int32)))
set_option maxRecDepth 65536 in
set_option maxHeartbeats 40000000 in
theorem rm_make4 (l : Launch) (Z : State) (a0 : Array Value) (hw : HW a0 Z) (ws : List Jvm.Cond) (a1 : Addr) (k1 : ClassId) (c0 : Int32) (c1 : Int32) (c2 : Int32) (c3 : Int32) (c4 : Int32) (c5 : Int32) (c6 : Int32) (G1 : Int32) (h0 : Heap) (n0 : Nat) (Z0 : n0 ≤ h0.size) (V1 : Arv Z h0 a1 k1 .char (7 : Int32) ([(.int c0), (.int c1), (.int c2), (.int c3), (.int c4), (.int c5), (.int c6)]) (.int (0 : Int32))) (HN : ∀ c ∈ ([c0, c1, c2, c3, c4, c5, c6] : List Int32), ¬ c < 0 ∧ ¬ (255 : Int32) < c) (O2 : Sta Z Z.heap "java/lang/String" "COMPACT_STRINGS" "Z" (.int G1)) (P5 : ¬ (G1 = (0 : Int32))) (X00 : Old Z n0 h0) :
    MetFree l (⟨"com/example/antecedent/antecedent/EntityTypeForLabelPinLaw", "make", "([CI)Ljava/lang/String;"⟩ : MethodName) (head1 (Jvm.Cond.code (⟨"com/example/antecedent/antecedent/EntityTypeForLabelPinLaw", "make", "([CI)Ljava/lang/String;"⟩ : MethodName) method_3_code 2 (Option.some (Jvm.ClassFile.FieldType.object "java/lang/String")) :: ws) ({ frames := 4, cells := 6, slots := 18, locals := 66 } : Room)) (fun a U => a = #[(.ref a1), (.int (4 : Int32))] ∧ Z.Warmed39 U.vm ∧ U.heap = h0) (fun _ _ _ _ _ => True) (fun _ U o U' => Out U (Q_make4 Z a1 k1 c0 c1 c2 c3 c4 c5 c6 G1 h0 n0) ({ frames := 4, cells := 6, slots := 18, locals := 66 } : Room).cells ({ frames := 4, cells := 6, slots := 18, locals := 66 } : Room).slots o U') := by
  refine MetFree.of_bodySF (plainFor_of_name opn_1) hisR ?_
  intro p e s m args below meth c s₁ Bd hml0 hP hK
  obtain ⟨rfl, hZ, hh⟩ := hP
  have hx := Bd.exec
  have hby := Bd.bytes
  have hml : c.maxLocals = 2 := hml0
  have hret := Bd.returns
  have hlk : meth.locks = false := BodyLoose.notSynchronized Bd
  have hown : s.vm.findClass "com/example/antecedent/antecedent/EntityTypeForLabelPinLaw" = some m.cls := findClass_of_methodNamed Bd.named
  have hnm := (name_of_methodNamed Bd.named Bd.method).1
  have X0 : Stand p l e ({ frames := 4, cells := 6, slots := 18, locals := 66 } : Room) s m #[(.ref a1), (.int (4 : Int32))] below meth c s₁ [] 0 0 := Stand.of_body Bd
  have e0 : s₁.heap = h0 := by rw [← hh, Bd.state]; rfl
  have N0 := Fr.nil n0
  have K0 : Keep h0 h0 [] := Keep.refl h0 _
  show Go p e below (Out s (Q_make4 Z a1 k1 c0 c1 c2 c3 c4 c5 c6 G1 h0 n0) ({ frames := 4, cells := 6, slots := 18, locals := 66 } : Room).cells ({ frames := 4, cells := 6, slots := 18, locals := 66 } : Room).slots) s₁ (entryFrame m #[(.ref a1), (.int (4 : Int32))] 2)
  refine Go.cast (oef_make4 m a1 (4 : Int32)) ?_
  show Go p e below _ s₁ (mkF m 0 #[.val (.ref a1), .val (.int (4 : Int32))] [])
  have r0 := HN c0 (by simp)
  have e_0 := nar_id r0
  have r1 := HN c1 (by simp)
  have e_1 := nar_id r1
  have r2 := HN c2 (by simp)
  have e_2 := nar_id r2
  have r3 := HN c3 (by simp)
  have e_3 := nar_id r3
  refine Go.by (fun t k => XS.iloadN X0.here hx rfl (hb hby od_m_3_0) rfl (XS.ifYes X0.here hx rfl (pc0 := 1) (pc' := 15) rfl (hb hby od_m_3_1) rfl ((if0 _ _).trans (feq (show ¬ ((4 : Int32) = (0 : Int32)) from (by decide))).2) (by decide) (by decide) k)) ?_
  show Go p e below _ s₁ (mkF m 15 #[.val (.ref a1), .val (.int (4 : Int32))] [])
  refine Go.by (fun t k => XS.iloadN X0.here hx rfl (hb hby od_m_3_15) rfl (XS.iconst X0.here hx rfl (hb hby od_m_3_16) (XS.icmpYes X0.here hx rfl (pc0 := 17) (pc' := 37) rfl (hb hby od_m_3_17) rfl (feq (show ¬ ((4 : Int32) = (1 : Int32)) from (by decide))).2 (by decide) (by decide) k))) ?_
  show Go p e below _ s₁ (mkF m 37 #[.val (.ref a1), .val (.int (4 : Int32))] [])
  refine Go.by (fun t k => XS.iloadN X0.here hx rfl (hb hby od_m_3_37) rfl (XS.iconst X0.here hx rfl (hb hby od_m_3_38) (XS.icmpYes X0.here hx rfl (pc0 := 39) (pc' := 65) rfl (hb hby od_m_3_39) rfl (feq (show ¬ ((4 : Int32) = (2 : Int32)) from (by decide))).2 (by decide) (by decide) k))) ?_
  show Go p e below _ s₁ (mkF m 65 #[.val (.ref a1), .val (.int (4 : Int32))] [])
  refine Go.by (fun t k => XS.iloadN X0.here hx rfl (hb hby od_m_3_65) rfl (XS.iconst X0.here hx rfl (hb hby od_m_3_66) (XS.icmpYes X0.here hx rfl (pc0 := 67) (pc' := 99) rfl (hb hby od_m_3_67) rfl (feq (show ¬ ((4 : Int32) = (3 : Int32)) from (by decide))).2 (by decide) (by decide) k))) ?_
  show Go p e below _ s₁ (mkF m 99 #[.val (.ref a1), .val (.int (4 : Int32))] [])
  refine Go.by (fun t k => XS.iloadN X0.here hx rfl (hb hby od_m_3_99) rfl (XS.iconst X0.here hx rfl (hb hby od_m_3_100) (XS.icmpNo X0.here hx rfl (hb hby od_m_3_101) rfl (teq (show (4 : Int32) = (4 : Int32) from (by decide))).2 k))) ?_
  show Go p e below _ s₁ (mkF m 104 #[.val (.ref a1), .val (.int (4 : Int32))] [])
  obtain ⟨T186, h186, X186, e186, E186, A186, D186, U186, st186⟩ := newO X0 hx hZ hown (ow5 hw) (ow6 hw) (ow7 hw) e0 (g := (mkF m 104 #[.val (.ref a1), .val (.int (4 : Int32))] [])) rfl (hb hby od_m_3_104) (by decide) (by decide)
  obtain ⟨b186, g186⟩ : ∃ z, z = h0.size := ⟨_, rfl⟩
  rw [← g186] at A186 D186 U186 st186
  refine Go.by st186 ?_
  have K187 : Keep h0 h186 [] := K0.ext E186
  have O187 : Old Z n0 h186 := X00.ext E186
  show Go p e below _ T186 (mkF m 107 #[.val (.ref a1), .val (.int (4 : Int32))] [(.ref b186)])
  refine Go.by (fun t k => XS.dup X186.here hx rfl (hb hby od_m_3_107) rfl rfl (XS.iconst X186.here hx rfl (hb hby od_m_3_108) k)) ?_
  show Go p e below _ T186 (mkF m 109 #[.val (.ref a1), .val (.int (4 : Int32))] [(.int (4 : Int32)), (.ref b186), (.ref b186)])
  obtain ⟨T188, h188, k188, X188, e188, E188, A188, st188⟩ := newP X186 hx hZ (aty := .char) (ow0 hw) e186 (g := (mkF m 109 #[.val (.ref a1), .val (.int (4 : Int32))] [(.int (4 : Int32)), (.ref b186), (.ref b186)])) rfl (hb hby od_m_3_109) rfl (by decide) (cap := 4) (by decide) (by decide) (by decide) (by decide)
  obtain ⟨b188, g188⟩ : ∃ z, z = h186.size := ⟨_, rfl⟩
  rw [← g188] at A188 st188
  refine Go.by st188 ?_
  have K189 : Keep h0 h188 [] := K187.ext E188
  have O189 : Old Z n0 h188 := O187.ext E188
  show Go p e below _ T188 (mkF m 111 #[.val (.ref a1), .val (.int (4 : Int32))] [(.ref b188), (.ref b186), (.ref b186)])
  have V188 : Arv Z h188 b188 k188 .char (4 : Int32) [(.int (0 : Int32)), (.int (0 : Int32)), (.int (0 : Int32)), (.int (0 : Int32))] (.int (0 : Int32)) := (Arv.new A188 (by decide)).pad (pad_rep [] (.int (0 : Int32)) 4)
  refine Go.by (fun t k => XS.dup X188.here hx rfl (hb hby od_m_3_111) rfl rfl (XS.iconst X188.here hx rfl (hb hby od_m_3_112) (XS.aloadN X188.here hx rfl (hb hby od_m_3_113) rfl rfl (XS.iconst X188.here hx rfl (hb hby od_m_3_114) k)))) ?_
  show Go p e below _ T188 (mkF m 115 #[.val (.ref a1), .val (.int (4 : Int32))] [(.int (0 : Int32)), (.ref a1), (.int (0 : Int32)), (.ref b188), (.ref b188), (.ref b186), (.ref b186)])
  have F191 : Arv Z h188 a1 k1 .char (7 : Int32) ([(.int c0), (.int c1), (.int c2), (.int c3), (.int c4), (.int c5), (.int c6)]) (.int (0 : Int32)) := ((V1.ext E186).ext E188)
  obtain ⟨c190, A190, q190, S190, M190, G190, J190⟩ := id F191
  have i190 := inb_of S190 (j := (0 : Int32)) ⟨by decide, by decide⟩
  refine Go.by (X188.caload hx (j := (0 : Int32)) (v := (.int c0)) (by rw [e188]; exact A190.1) (State.isArrayOf_alike hZ.alike A190.2.1) A190.2.2 i190 (G190.at i190 rfl) (g := (mkF m 115 #[.val (.ref a1), .val (.int (4 : Int32))] [(.int (0 : Int32)), (.ref a1), (.int (0 : Int32)), (.ref b188), (.ref b188), (.ref b186), (.ref b186)])) rfl rfl (hb hby od_m_3_115)) ?_
  show Go p e below _ T188 (mkF m 116 #[.val (.ref a1), .val (.int (4 : Int32))] [(.int c0), (.int (0 : Int32)), (.ref b188), (.ref b188), (.ref b186), (.ref b186)])
  obtain ⟨c192, A192, q192, S192, M192, G192, J192⟩ := id V188
  obtain ⟨T192, h192, X192, e192, W192, st192⟩ := stC X188 hx hZ e188 A192 (j := (0 : Int32)) (inb_of S192 ⟨by decide, by decide⟩) (g := (mkF m 116 #[.val (.ref a1), .val (.int (4 : Int32))] [(.int c0), (.int (0 : Int32)), (.ref b188), (.ref b188), (.ref b186), (.ref b186)])) rfl rfl (hb hby od_m_3_116)
  refine Go.by st192 ?_
  have N192 := Fr.snoc X192 N0 (Nat.le_trans (Nat.le_trans Z0 E186.1) (Nat.le_of_eq g188.symm))
  have K193 : Keep h0 h192 [] := K189.wr W192 (Or.inr (Nat.le_trans E186.1 (Nat.le_of_eq g188.symm)))
  have O193 : Old Z n0 h192 := O189.wr W192 (Nat.le_trans (Nat.le_trans Z0 E186.1) (Nat.le_of_eq g188.symm))
  show Go p e below _ T192 (mkF m 117 #[.val (.ref a1), .val (.int (4 : Int32))] [(.ref b188), (.ref b186), (.ref b186)])
  have V192 : Arv Z h192 b188 k188 .char (4 : Int32) ([(.int (nar .char c0)), (.int (0 : Int32)), (.int (0 : Int32)), (.int (0 : Int32))]) (.int (0 : Int32)) := Arv.set A192 q192 S192 M192 G192 J192 (fits_nar_char _) W192 0 rfl (Nat.le_of_ble_eq_true rfl)
  rw [e_0] at V192
  refine Go.by (fun t k => XS.dup X192.here hx rfl (hb hby od_m_3_117) rfl rfl (XS.iconst X192.here hx rfl (hb hby od_m_3_118) (XS.aloadN X192.here hx rfl (hb hby od_m_3_119) rfl rfl (XS.iconst X192.here hx rfl (hb hby od_m_3_120) k)))) ?_
  show Go p e below _ T192 (mkF m 121 #[.val (.ref a1), .val (.int (4 : Int32))] [(.int (1 : Int32)), (.ref a1), (.int (1 : Int32)), (.ref b188), (.ref b188), (.ref b186), (.ref b186)])
  have F195 : Arv Z h192 a1 k1 .char (7 : Int32) ([(.int c0), (.int c1), (.int c2), (.int c3), (.int c4), (.int c5), (.int c6)]) (.int (0 : Int32)) := (F191.other W192 (Nat.ne_of_lt (Nat.lt_of_lt_of_le (V1.ext E186).lt (Nat.le_of_eq g188.symm))))
  obtain ⟨c194, A194, q194, S194, M194, G194, J194⟩ := id F195
  have i194 := inb_of S194 (j := (1 : Int32)) ⟨by decide, by decide⟩
  refine Go.by (X192.caload hx (j := (1 : Int32)) (v := (.int c1)) (by rw [e192]; exact A194.1) (State.isArrayOf_alike hZ.alike A194.2.1) A194.2.2 i194 (G194.at i194 rfl) (g := (mkF m 121 #[.val (.ref a1), .val (.int (4 : Int32))] [(.int (1 : Int32)), (.ref a1), (.int (1 : Int32)), (.ref b188), (.ref b188), (.ref b186), (.ref b186)])) rfl rfl (hb hby od_m_3_121)) ?_
  show Go p e below _ T192 (mkF m 122 #[.val (.ref a1), .val (.int (4 : Int32))] [(.int c1), (.int (1 : Int32)), (.ref b188), (.ref b188), (.ref b186), (.ref b186)])
  obtain ⟨c196, A196, q196, S196, M196, G196, J196⟩ := id V192
  obtain ⟨T196, h196, X196, e196, W196, st196⟩ := stC X192 hx hZ e192 A196 (j := (1 : Int32)) (inb_of S196 ⟨by decide, by decide⟩) (g := (mkF m 122 #[.val (.ref a1), .val (.int (4 : Int32))] [(.int c1), (.int (1 : Int32)), (.ref b188), (.ref b188), (.ref b186), (.ref b186)])) rfl rfl (hb hby od_m_3_122)
  refine Go.by st196 ?_
  have N196 := Fr.snoc X196 N192 (Nat.le_trans (Nat.le_trans Z0 E186.1) (Nat.le_of_eq g188.symm))
  have K197 : Keep h0 h196 [] := K193.wr W196 (Or.inr (Nat.le_trans E186.1 (Nat.le_of_eq g188.symm)))
  have O197 : Old Z n0 h196 := O193.wr W196 (Nat.le_trans (Nat.le_trans Z0 E186.1) (Nat.le_of_eq g188.symm))
  show Go p e below _ T196 (mkF m 123 #[.val (.ref a1), .val (.int (4 : Int32))] [(.ref b188), (.ref b186), (.ref b186)])
  have V196 : Arv Z h196 b188 k188 .char (4 : Int32) ([(.int c0), (.int (nar .char c1)), (.int (0 : Int32)), (.int (0 : Int32))]) (.int (0 : Int32)) := Arv.set A196 q196 S196 M196 G196 J196 (fits_nar_char _) W196 1 rfl (Nat.le_of_ble_eq_true rfl)
  rw [e_1] at V196
  refine Go.by (fun t k => XS.dup X196.here hx rfl (hb hby od_m_3_123) rfl rfl (XS.iconst X196.here hx rfl (hb hby od_m_3_124) (XS.aloadN X196.here hx rfl (hb hby od_m_3_125) rfl rfl (XS.iconst X196.here hx rfl (hb hby od_m_3_126) k)))) ?_
  show Go p e below _ T196 (mkF m 127 #[.val (.ref a1), .val (.int (4 : Int32))] [(.int (2 : Int32)), (.ref a1), (.int (2 : Int32)), (.ref b188), (.ref b188), (.ref b186), (.ref b186)])
  have F199 : Arv Z h196 a1 k1 .char (7 : Int32) ([(.int c0), (.int c1), (.int c2), (.int c3), (.int c4), (.int c5), (.int c6)]) (.int (0 : Int32)) := (F195.other W196 (Nat.ne_of_lt (Nat.lt_of_lt_of_le (V1.ext E186).lt (Nat.le_of_eq g188.symm))))
  obtain ⟨c198, A198, q198, S198, M198, G198, J198⟩ := id F199
  have i198 := inb_of S198 (j := (2 : Int32)) ⟨by decide, by decide⟩
  refine Go.by (X196.caload hx (j := (2 : Int32)) (v := (.int c2)) (by rw [e196]; exact A198.1) (State.isArrayOf_alike hZ.alike A198.2.1) A198.2.2 i198 (G198.at i198 rfl) (g := (mkF m 127 #[.val (.ref a1), .val (.int (4 : Int32))] [(.int (2 : Int32)), (.ref a1), (.int (2 : Int32)), (.ref b188), (.ref b188), (.ref b186), (.ref b186)])) rfl rfl (hb hby od_m_3_127)) ?_
  show Go p e below _ T196 (mkF m 128 #[.val (.ref a1), .val (.int (4 : Int32))] [(.int c2), (.int (2 : Int32)), (.ref b188), (.ref b188), (.ref b186), (.ref b186)])
  obtain ⟨c200, A200, q200, S200, M200, G200, J200⟩ := id V196
  obtain ⟨T200, h200, X200, e200, W200, st200⟩ := stC X196 hx hZ e196 A200 (j := (2 : Int32)) (inb_of S200 ⟨by decide, by decide⟩) (g := (mkF m 128 #[.val (.ref a1), .val (.int (4 : Int32))] [(.int c2), (.int (2 : Int32)), (.ref b188), (.ref b188), (.ref b186), (.ref b186)])) rfl rfl (hb hby od_m_3_128)
  refine Go.by st200 ?_
  have N200 := Fr.snoc X200 N196 (Nat.le_trans (Nat.le_trans Z0 E186.1) (Nat.le_of_eq g188.symm))
  have K201 : Keep h0 h200 [] := K197.wr W200 (Or.inr (Nat.le_trans E186.1 (Nat.le_of_eq g188.symm)))
  have O201 : Old Z n0 h200 := O197.wr W200 (Nat.le_trans (Nat.le_trans Z0 E186.1) (Nat.le_of_eq g188.symm))
  show Go p e below _ T200 (mkF m 129 #[.val (.ref a1), .val (.int (4 : Int32))] [(.ref b188), (.ref b186), (.ref b186)])
  have V200 : Arv Z h200 b188 k188 .char (4 : Int32) ([(.int c0), (.int c1), (.int (nar .char c2)), (.int (0 : Int32))]) (.int (0 : Int32)) := Arv.set A200 q200 S200 M200 G200 J200 (fits_nar_char _) W200 2 rfl (Nat.le_of_ble_eq_true rfl)
  rw [e_2] at V200
  refine Go.by (fun t k => XS.dup X200.here hx rfl (hb hby od_m_3_129) rfl rfl (XS.iconst X200.here hx rfl (hb hby od_m_3_130) (XS.aloadN X200.here hx rfl (hb hby od_m_3_131) rfl rfl (XS.iconst X200.here hx rfl (hb hby od_m_3_132) k)))) ?_
  show Go p e below _ T200 (mkF m 133 #[.val (.ref a1), .val (.int (4 : Int32))] [(.int (3 : Int32)), (.ref a1), (.int (3 : Int32)), (.ref b188), (.ref b188), (.ref b186), (.ref b186)])
  have F203 : Arv Z h200 a1 k1 .char (7 : Int32) ([(.int c0), (.int c1), (.int c2), (.int c3), (.int c4), (.int c5), (.int c6)]) (.int (0 : Int32)) := (F199.other W200 (Nat.ne_of_lt (Nat.lt_of_lt_of_le (V1.ext E186).lt (Nat.le_of_eq g188.symm))))
  obtain ⟨c202, A202, q202, S202, M202, G202, J202⟩ := id F203
  have i202 := inb_of S202 (j := (3 : Int32)) ⟨by decide, by decide⟩
  refine Go.by (X200.caload hx (j := (3 : Int32)) (v := (.int c3)) (by rw [e200]; exact A202.1) (State.isArrayOf_alike hZ.alike A202.2.1) A202.2.2 i202 (G202.at i202 rfl) (g := (mkF m 133 #[.val (.ref a1), .val (.int (4 : Int32))] [(.int (3 : Int32)), (.ref a1), (.int (3 : Int32)), (.ref b188), (.ref b188), (.ref b186), (.ref b186)])) rfl rfl (hb hby od_m_3_133)) ?_
  show Go p e below _ T200 (mkF m 134 #[.val (.ref a1), .val (.int (4 : Int32))] [(.int c3), (.int (3 : Int32)), (.ref b188), (.ref b188), (.ref b186), (.ref b186)])
  obtain ⟨c204, A204, q204, S204, M204, G204, J204⟩ := id V200
  obtain ⟨T204, h204, X204, e204, W204, st204⟩ := stC X200 hx hZ e200 A204 (j := (3 : Int32)) (inb_of S204 ⟨by decide, by decide⟩) (g := (mkF m 134 #[.val (.ref a1), .val (.int (4 : Int32))] [(.int c3), (.int (3 : Int32)), (.ref b188), (.ref b188), (.ref b186), (.ref b186)])) rfl rfl (hb hby od_m_3_134)
  refine Go.by st204 ?_
  have N204 := Fr.snoc X204 N200 (Nat.le_trans (Nat.le_trans Z0 E186.1) (Nat.le_of_eq g188.symm))
  have K205 : Keep h0 h204 [] := K201.wr W204 (Or.inr (Nat.le_trans E186.1 (Nat.le_of_eq g188.symm)))
  have O205 : Old Z n0 h204 := O201.wr W204 (Nat.le_trans (Nat.le_trans Z0 E186.1) (Nat.le_of_eq g188.symm))
  show Go p e below _ T204 (mkF m 135 #[.val (.ref a1), .val (.int (4 : Int32))] [(.ref b188), (.ref b186), (.ref b186)])
  have V204 : Arv Z h204 b188 k188 .char (4 : Int32) ([(.int c0), (.int c1), (.int c2), (.int (nar .char c3))]) (.int (0 : Int32)) := Arv.set A204 q204 S204 M204 G204 J204 (fits_nar_char _) W204 3 rfl (Nat.le_of_ble_eq_true rfl)
  rw [e_3] at V204
  have hp : ∀ c ∈ ([c0, c1, c2, c3] : List Int32), ¬ c < 0 ∧ ¬ (255 : Int32) < c := by
    intro c hc; simp only [List.mem_cons, List.not_mem_nil, or_false] at hc; rcases hc with rfl | rfl | rfl | rfl
    · exact r0
    · exact r1
    · exact r2
    · exact r3
  have hws : ∀ d ∈ StrChars.Road.words, d.before a0 Z = true := fun d hd => hw d ((by decide +kernel : ∀ d ∈ StrChars.Road.words, d ∈ tables_1) d hd)
  have F207 : Exa Z h204 b186 "java/lang/String" := (((((A186.ext E188).wr W192).wr W196).wr W200).wr W204)
  have F208 : Fld Z h204 b186 "java/lang/String" "value" "[B" .null := ((((((D186 (Or.inr (ow33 hw)) (ty := (.array .byte)) (by decide)).ext E188).other W192 (Or.inl (Nat.ne_of_lt (Nat.lt_of_lt_of_le A186.lt (Nat.le_of_eq g188.symm))))).other W196 (Or.inl (Nat.ne_of_lt (Nat.lt_of_lt_of_le A186.lt (Nat.le_of_eq g188.symm))))).other W200 (Or.inl (Nat.ne_of_lt (Nat.lt_of_lt_of_le A186.lt (Nat.le_of_eq g188.symm))))).other W204 (Or.inl (Nat.ne_of_lt (Nat.lt_of_lt_of_le A186.lt (Nat.le_of_eq g188.symm)))))
  have F209 : Fld Z h204 b186 "java/lang/String" "coder" "B" (.int (0 : Int32)) := ((((((D186 (Or.inr (ow31 hw)) (ty := .byte) (by decide)).ext E188).other W192 (Or.inl (Nat.ne_of_lt (Nat.lt_of_lt_of_le A186.lt (Nat.le_of_eq g188.symm))))).other W196 (Or.inl (Nat.ne_of_lt (Nat.lt_of_lt_of_le A186.lt (Nat.le_of_eq g188.symm))))).other W200 (Or.inl (Nat.ne_of_lt (Nat.lt_of_lt_of_le A186.lt (Nat.le_of_eq g188.symm))))).other W204 (Or.inl (Nat.ne_of_lt (Nat.lt_of_lt_of_le A186.lt (Nat.le_of_eq g188.symm)))))
  obtain ⟨_, _, ⟨T206, L206, k206, n206⟩, -, X206, ⟨Lc206, hQ206, l206, y206, z206⟩, st206⟩ := X204.specialBack hx (y := (⟨"java/lang/String", "<init>", "([C)V"⟩ : MethodName)) rfl hown (mvT hZ (ow8 hw)) (mvT hZ (ow9 hw)) (mvT hZ (ow10 hw)) (by decide) (StrChars.Road.backV (W := 1) hZ hws (kI := 4) (ow6 hw) (cs := ([c0, c1, c2, c3] : List Int32)) (bs := ([c0, c1, c2, c3] : List Int32).map (fun c => c.toInt8.toInt32)) (n := 4) (Nat.le_trans (Nat.le_trans Z0 (Nat.le_refl _)) (Nat.le_of_eq g186.symm)) (Nat.le_trans Z0 (Nat.le_trans (Nat.le_trans (Nat.le_trans (Nat.le_trans (Nat.le_trans E186.1 E188.1) (Keep.of_wr W192).1) (Keep.of_wr W196).1) (Keep.of_wr W200).1) (Keep.of_wr W204).1)) F207 F208 F209 V204 (O2.ext O205.2) P5 rfl rfl (by decide) (by decide) hp rfl (by decide) (by decide)) (g := (mkF m 135 #[.val (.ref a1), .val (.int (4 : Int32))] [(.ref b188), (.ref b186), (.ref b186)])) rfl (by rw [hml]; rfl) (Steps.refl _) (a := b186) (argsL := [(.ref b188)]) (rest := [(.ref b186)]) (lenOf opd_1 rfl) rfl (by show 2 * 0 + _ ≤ _; exact Nat.le_of_eq rfl) (hb hby od_m_3_135) (fun _ _ => ⟨rfl, e204, (by decide : 2 + 1 ≤ _), (by decide : 8 + 4 ≤ _)⟩)
  dsimp only [Pt.U, Pt.locs, Pt.cells, Pt.slots] at X206 l206 y206 z206 st206 hQ206
  subst l206 y206 z206
  obtain ⟨rfl, N206q, K206q, PE206, PC206, t206, kb206, -, u206, v206, PV206, PA206⟩ := hQ206
  have N206 := Fr.app N204 N206q
  refine Go.tr st206 ?_
  have K210 : Keep h0 T206.heap [] := K205.trans K206q (allS (Or.inr (Nat.le_trans (Nat.le_refl _) (Nat.le_of_eq g186.symm))) all0)
  have O210 : Old Z n0 T206.heap := O205.keep K206q (allS (Nat.le_trans (Nat.le_trans Z0 (Nat.le_refl _)) (Nat.le_of_eq g186.symm)) all0)
  show Go p e below _ T206 (mkF m 138 #[.val (.ref a1), .val (.int (4 : Int32))] [(.ref b186)])
  exact Go.retR X206 hx hret rfl rfl rfl hlk (hb hby od_m_3_138) ⟨b186, t206, kb206, rfl, N206, K210, (Nat.le_trans (Nat.le_refl _) (Nat.le_of_eq g186.symm)), PE206, PC206, PV206, PA206⟩ (by decide) (by decide)
def Q_make5 (Z : State) (a1 : Addr) (k1 : ClassId) (c0 : Int32) (c1 : Int32) (c2 : Int32) (c3 : Int32) (c4 : Int32) (c5 : Int32) (c6 : Int32) (G1 : Int32) (h0 : Heap) (n0 : Nat) (rv : Option Value) (hE : Heap) (LE : List Loc) : Prop := ∃ bs : Addr, ∃ bt : Addr, ∃ kb : ClassId, rv = some (.ref bs) ∧ Fr n0 LE ∧ Keep h0 hE [] ∧ (h0.size ≤ bs) ∧ (Exa Z hE bs "java/lang/String") ∧ (Fld Z hE bs "java/lang/String" "coder" "B" (.int (0 : Int32))) ∧ (Fld Z hE bs "java/lang/String" "value" "[B" (.ref bt)) ∧ (Arv Z hE bt kb .byte (5 : Int32) (B8 ([c0, c1, c2, c3, c4] : List Int32)) (.int (0 : Int32)))
set_option maxRecDepth 65536 in
set_option maxHeartbeats 40000000 in
theorem rm_make5 (l : Launch) (Z : State) (a0 : Array Value) (hw : HW a0 Z) (ws : List Jvm.Cond) (a1 : Addr) (k1 : ClassId) (c0 : Int32) (c1 : Int32) (c2 : Int32) (c3 : Int32) (c4 : Int32) (c5 : Int32) (c6 : Int32) (G1 : Int32) (h0 : Heap) (n0 : Nat) (Z0 : n0 ≤ h0.size) (V1 : Arv Z h0 a1 k1 .char (7 : Int32) ([(.int c0), (.int c1), (.int c2), (.int c3), (.int c4), (.int c5), (.int c6)]) (.int (0 : Int32))) (HN : ∀ c ∈ ([c0, c1, c2, c3, c4, c5, c6] : List Int32), ¬ c < 0 ∧ ¬ (255 : Int32) < c) (O2 : Sta Z Z.heap "java/lang/String" "COMPACT_STRINGS" "Z" (.int G1)) (P5 : ¬ (G1 = (0 : Int32))) (X00 : Old Z n0 h0) :
    MetFree l (⟨"com/example/antecedent/antecedent/EntityTypeForLabelPinLaw", "make", "([CI)Ljava/lang/String;"⟩ : MethodName) (head1 (Jvm.Cond.code (⟨"com/example/antecedent/antecedent/EntityTypeForLabelPinLaw", "make", "([CI)Ljava/lang/String;"⟩ : MethodName) method_3_code 2 (Option.some (Jvm.ClassFile.FieldType.object "java/lang/String")) :: ws) ({ frames := 4, cells := 6, slots := 18, locals := 66 } : Room)) (fun a U => a = #[(.ref a1), (.int (5 : Int32))] ∧ Z.Warmed39 U.vm ∧ U.heap = h0) (fun _ _ _ _ _ => True) (fun _ U o U' => Out U (Q_make5 Z a1 k1 c0 c1 c2 c3 c4 c5 c6 G1 h0 n0) ({ frames := 4, cells := 6, slots := 18, locals := 66 } : Room).cells ({ frames := 4, cells := 6, slots := 18, locals := 66 } : Room).slots o U') := by
  refine MetFree.of_bodySF (plainFor_of_name opn_1) hisR ?_
  intro p e s m args below meth c s₁ Bd hml0 hP hK
  obtain ⟨rfl, hZ, hh⟩ := hP
  have hx := Bd.exec
  have hby := Bd.bytes
  have hml : c.maxLocals = 2 := hml0
  have hret := Bd.returns
  have hlk : meth.locks = false := BodyLoose.notSynchronized Bd
  have hown : s.vm.findClass "com/example/antecedent/antecedent/EntityTypeForLabelPinLaw" = some m.cls := findClass_of_methodNamed Bd.named
  have hnm := (name_of_methodNamed Bd.named Bd.method).1
  have X0 : Stand p l e ({ frames := 4, cells := 6, slots := 18, locals := 66 } : Room) s m #[(.ref a1), (.int (5 : Int32))] below meth c s₁ [] 0 0 := Stand.of_body Bd
  have e0 : s₁.heap = h0 := by rw [← hh, Bd.state]; rfl
  have N0 := Fr.nil n0
  have K0 : Keep h0 h0 [] := Keep.refl h0 _
  show Go p e below (Out s (Q_make5 Z a1 k1 c0 c1 c2 c3 c4 c5 c6 G1 h0 n0) ({ frames := 4, cells := 6, slots := 18, locals := 66 } : Room).cells ({ frames := 4, cells := 6, slots := 18, locals := 66 } : Room).slots) s₁ (entryFrame m #[(.ref a1), (.int (5 : Int32))] 2)
  refine Go.cast (oef_make5 m a1 (5 : Int32)) ?_
  show Go p e below _ s₁ (mkF m 0 #[.val (.ref a1), .val (.int (5 : Int32))] [])
  have r0 := HN c0 (by simp)
  have e_0 := nar_id r0
  have r1 := HN c1 (by simp)
  have e_1 := nar_id r1
  have r2 := HN c2 (by simp)
  have e_2 := nar_id r2
  have r3 := HN c3 (by simp)
  have e_3 := nar_id r3
  have r4 := HN c4 (by simp)
  have e_4 := nar_id r4
  refine Go.by (fun t k => XS.iloadN X0.here hx rfl (hb hby od_m_3_0) rfl (XS.ifYes X0.here hx rfl (pc0 := 1) (pc' := 15) rfl (hb hby od_m_3_1) rfl ((if0 _ _).trans (feq (show ¬ ((5 : Int32) = (0 : Int32)) from (by decide))).2) (by decide) (by decide) k)) ?_
  show Go p e below _ s₁ (mkF m 15 #[.val (.ref a1), .val (.int (5 : Int32))] [])
  refine Go.by (fun t k => XS.iloadN X0.here hx rfl (hb hby od_m_3_15) rfl (XS.iconst X0.here hx rfl (hb hby od_m_3_16) (XS.icmpYes X0.here hx rfl (pc0 := 17) (pc' := 37) rfl (hb hby od_m_3_17) rfl (feq (show ¬ ((5 : Int32) = (1 : Int32)) from (by decide))).2 (by decide) (by decide) k))) ?_
  show Go p e below _ s₁ (mkF m 37 #[.val (.ref a1), .val (.int (5 : Int32))] [])
  refine Go.by (fun t k => XS.iloadN X0.here hx rfl (hb hby od_m_3_37) rfl (XS.iconst X0.here hx rfl (hb hby od_m_3_38) (XS.icmpYes X0.here hx rfl (pc0 := 39) (pc' := 65) rfl (hb hby od_m_3_39) rfl (feq (show ¬ ((5 : Int32) = (2 : Int32)) from (by decide))).2 (by decide) (by decide) k))) ?_
  show Go p e below _ s₁ (mkF m 65 #[.val (.ref a1), .val (.int (5 : Int32))] [])
  refine Go.by (fun t k => XS.iloadN X0.here hx rfl (hb hby od_m_3_65) rfl (XS.iconst X0.here hx rfl (hb hby od_m_3_66) (XS.icmpYes X0.here hx rfl (pc0 := 67) (pc' := 99) rfl (hb hby od_m_3_67) rfl (feq (show ¬ ((5 : Int32) = (3 : Int32)) from (by decide))).2 (by decide) (by decide) k))) ?_
  show Go p e below _ s₁ (mkF m 99 #[.val (.ref a1), .val (.int (5 : Int32))] [])
  refine Go.by (fun t k => XS.iloadN X0.here hx rfl (hb hby od_m_3_99) rfl (XS.iconst X0.here hx rfl (hb hby od_m_3_100) (XS.icmpYes X0.here hx rfl (pc0 := 101) (pc' := 139) rfl (hb hby od_m_3_101) rfl (feq (show ¬ ((5 : Int32) = (4 : Int32)) from (by decide))).2 (by decide) (by decide) k))) ?_
  show Go p e below _ s₁ (mkF m 139 #[.val (.ref a1), .val (.int (5 : Int32))] [])
  refine Go.by (fun t k => XS.iloadN X0.here hx rfl (hb hby od_m_3_139) rfl (XS.iconst X0.here hx rfl (hb hby od_m_3_140) (XS.icmpNo X0.here hx rfl (hb hby od_m_3_141) rfl (teq (show (5 : Int32) = (5 : Int32) from (by decide))).2 k))) ?_
  show Go p e below _ s₁ (mkF m 144 #[.val (.ref a1), .val (.int (5 : Int32))] [])
  obtain ⟨T211, h211, X211, e211, E211, A211, D211, U211, st211⟩ := newO X0 hx hZ hown (ow5 hw) (ow6 hw) (ow7 hw) e0 (g := (mkF m 144 #[.val (.ref a1), .val (.int (5 : Int32))] [])) rfl (hb hby od_m_3_144) (by decide) (by decide)
  obtain ⟨b211, g211⟩ : ∃ z, z = h0.size := ⟨_, rfl⟩
  rw [← g211] at A211 D211 U211 st211
  refine Go.by st211 ?_
  have K212 : Keep h0 h211 [] := K0.ext E211
  have O212 : Old Z n0 h211 := X00.ext E211
  show Go p e below _ T211 (mkF m 147 #[.val (.ref a1), .val (.int (5 : Int32))] [(.ref b211)])
  refine Go.by (fun t k => XS.dup X211.here hx rfl (hb hby od_m_3_147) rfl rfl (XS.iconst X211.here hx rfl (hb hby od_m_3_148) k)) ?_
  show Go p e below _ T211 (mkF m 149 #[.val (.ref a1), .val (.int (5 : Int32))] [(.int (5 : Int32)), (.ref b211), (.ref b211)])
  obtain ⟨T213, h213, k213, X213, e213, E213, A213, st213⟩ := newP X211 hx hZ (aty := .char) (ow0 hw) e211 (g := (mkF m 149 #[.val (.ref a1), .val (.int (5 : Int32))] [(.int (5 : Int32)), (.ref b211), (.ref b211)])) rfl (hb hby od_m_3_149) rfl (by decide) (cap := 5) (by decide) (by decide) (by decide) (by decide)
  obtain ⟨b213, g213⟩ : ∃ z, z = h211.size := ⟨_, rfl⟩
  rw [← g213] at A213 st213
  refine Go.by st213 ?_
  have K214 : Keep h0 h213 [] := K212.ext E213
  have O214 : Old Z n0 h213 := O212.ext E213
  show Go p e below _ T213 (mkF m 151 #[.val (.ref a1), .val (.int (5 : Int32))] [(.ref b213), (.ref b211), (.ref b211)])
  have V213 : Arv Z h213 b213 k213 .char (5 : Int32) [(.int (0 : Int32)), (.int (0 : Int32)), (.int (0 : Int32)), (.int (0 : Int32)), (.int (0 : Int32))] (.int (0 : Int32)) := (Arv.new A213 (by decide)).pad (pad_rep [] (.int (0 : Int32)) 5)
  refine Go.by (fun t k => XS.dup X213.here hx rfl (hb hby od_m_3_151) rfl rfl (XS.iconst X213.here hx rfl (hb hby od_m_3_152) (XS.aloadN X213.here hx rfl (hb hby od_m_3_153) rfl rfl (XS.iconst X213.here hx rfl (hb hby od_m_3_154) k)))) ?_
  show Go p e below _ T213 (mkF m 155 #[.val (.ref a1), .val (.int (5 : Int32))] [(.int (0 : Int32)), (.ref a1), (.int (0 : Int32)), (.ref b213), (.ref b213), (.ref b211), (.ref b211)])
  have F216 : Arv Z h213 a1 k1 .char (7 : Int32) ([(.int c0), (.int c1), (.int c2), (.int c3), (.int c4), (.int c5), (.int c6)]) (.int (0 : Int32)) := ((V1.ext E211).ext E213)
  obtain ⟨c215, A215, q215, S215, M215, G215, J215⟩ := id F216
  have i215 := inb_of S215 (j := (0 : Int32)) ⟨by decide, by decide⟩
  refine Go.by (X213.caload hx (j := (0 : Int32)) (v := (.int c0)) (by rw [e213]; exact A215.1) (State.isArrayOf_alike hZ.alike A215.2.1) A215.2.2 i215 (G215.at i215 rfl) (g := (mkF m 155 #[.val (.ref a1), .val (.int (5 : Int32))] [(.int (0 : Int32)), (.ref a1), (.int (0 : Int32)), (.ref b213), (.ref b213), (.ref b211), (.ref b211)])) rfl rfl (hb hby od_m_3_155)) ?_
  show Go p e below _ T213 (mkF m 156 #[.val (.ref a1), .val (.int (5 : Int32))] [(.int c0), (.int (0 : Int32)), (.ref b213), (.ref b213), (.ref b211), (.ref b211)])
  obtain ⟨c217, A217, q217, S217, M217, G217, J217⟩ := id V213
  obtain ⟨T217, h217, X217, e217, W217, st217⟩ := stC X213 hx hZ e213 A217 (j := (0 : Int32)) (inb_of S217 ⟨by decide, by decide⟩) (g := (mkF m 156 #[.val (.ref a1), .val (.int (5 : Int32))] [(.int c0), (.int (0 : Int32)), (.ref b213), (.ref b213), (.ref b211), (.ref b211)])) rfl rfl (hb hby od_m_3_156)
  refine Go.by st217 ?_
  have N217 := Fr.snoc X217 N0 (Nat.le_trans (Nat.le_trans Z0 E211.1) (Nat.le_of_eq g213.symm))
  have K218 : Keep h0 h217 [] := K214.wr W217 (Or.inr (Nat.le_trans E211.1 (Nat.le_of_eq g213.symm)))
  have O218 : Old Z n0 h217 := O214.wr W217 (Nat.le_trans (Nat.le_trans Z0 E211.1) (Nat.le_of_eq g213.symm))
  show Go p e below _ T217 (mkF m 157 #[.val (.ref a1), .val (.int (5 : Int32))] [(.ref b213), (.ref b211), (.ref b211)])
  have V217 : Arv Z h217 b213 k213 .char (5 : Int32) ([(.int (nar .char c0)), (.int (0 : Int32)), (.int (0 : Int32)), (.int (0 : Int32)), (.int (0 : Int32))]) (.int (0 : Int32)) := Arv.set A217 q217 S217 M217 G217 J217 (fits_nar_char _) W217 0 rfl (Nat.le_of_ble_eq_true rfl)
  rw [e_0] at V217
  refine Go.by (fun t k => XS.dup X217.here hx rfl (hb hby od_m_3_157) rfl rfl (XS.iconst X217.here hx rfl (hb hby od_m_3_158) (XS.aloadN X217.here hx rfl (hb hby od_m_3_159) rfl rfl (XS.iconst X217.here hx rfl (hb hby od_m_3_160) k)))) ?_
  show Go p e below _ T217 (mkF m 161 #[.val (.ref a1), .val (.int (5 : Int32))] [(.int (1 : Int32)), (.ref a1), (.int (1 : Int32)), (.ref b213), (.ref b213), (.ref b211), (.ref b211)])
  have F220 : Arv Z h217 a1 k1 .char (7 : Int32) ([(.int c0), (.int c1), (.int c2), (.int c3), (.int c4), (.int c5), (.int c6)]) (.int (0 : Int32)) := (F216.other W217 (Nat.ne_of_lt (Nat.lt_of_lt_of_le (V1.ext E211).lt (Nat.le_of_eq g213.symm))))
  obtain ⟨c219, A219, q219, S219, M219, G219, J219⟩ := id F220
  have i219 := inb_of S219 (j := (1 : Int32)) ⟨by decide, by decide⟩
  refine Go.by (X217.caload hx (j := (1 : Int32)) (v := (.int c1)) (by rw [e217]; exact A219.1) (State.isArrayOf_alike hZ.alike A219.2.1) A219.2.2 i219 (G219.at i219 rfl) (g := (mkF m 161 #[.val (.ref a1), .val (.int (5 : Int32))] [(.int (1 : Int32)), (.ref a1), (.int (1 : Int32)), (.ref b213), (.ref b213), (.ref b211), (.ref b211)])) rfl rfl (hb hby od_m_3_161)) ?_
  show Go p e below _ T217 (mkF m 162 #[.val (.ref a1), .val (.int (5 : Int32))] [(.int c1), (.int (1 : Int32)), (.ref b213), (.ref b213), (.ref b211), (.ref b211)])
  obtain ⟨c221, A221, q221, S221, M221, G221, J221⟩ := id V217
  obtain ⟨T221, h221, X221, e221, W221, st221⟩ := stC X217 hx hZ e217 A221 (j := (1 : Int32)) (inb_of S221 ⟨by decide, by decide⟩) (g := (mkF m 162 #[.val (.ref a1), .val (.int (5 : Int32))] [(.int c1), (.int (1 : Int32)), (.ref b213), (.ref b213), (.ref b211), (.ref b211)])) rfl rfl (hb hby od_m_3_162)
  refine Go.by st221 ?_
  have N221 := Fr.snoc X221 N217 (Nat.le_trans (Nat.le_trans Z0 E211.1) (Nat.le_of_eq g213.symm))
  have K222 : Keep h0 h221 [] := K218.wr W221 (Or.inr (Nat.le_trans E211.1 (Nat.le_of_eq g213.symm)))
  have O222 : Old Z n0 h221 := O218.wr W221 (Nat.le_trans (Nat.le_trans Z0 E211.1) (Nat.le_of_eq g213.symm))
  show Go p e below _ T221 (mkF m 163 #[.val (.ref a1), .val (.int (5 : Int32))] [(.ref b213), (.ref b211), (.ref b211)])
  have V221 : Arv Z h221 b213 k213 .char (5 : Int32) ([(.int c0), (.int (nar .char c1)), (.int (0 : Int32)), (.int (0 : Int32)), (.int (0 : Int32))]) (.int (0 : Int32)) := Arv.set A221 q221 S221 M221 G221 J221 (fits_nar_char _) W221 1 rfl (Nat.le_of_ble_eq_true rfl)
  rw [e_1] at V221
  refine Go.by (fun t k => XS.dup X221.here hx rfl (hb hby od_m_3_163) rfl rfl (XS.iconst X221.here hx rfl (hb hby od_m_3_164) (XS.aloadN X221.here hx rfl (hb hby od_m_3_165) rfl rfl (XS.iconst X221.here hx rfl (hb hby od_m_3_166) k)))) ?_
  show Go p e below _ T221 (mkF m 167 #[.val (.ref a1), .val (.int (5 : Int32))] [(.int (2 : Int32)), (.ref a1), (.int (2 : Int32)), (.ref b213), (.ref b213), (.ref b211), (.ref b211)])
  have F224 : Arv Z h221 a1 k1 .char (7 : Int32) ([(.int c0), (.int c1), (.int c2), (.int c3), (.int c4), (.int c5), (.int c6)]) (.int (0 : Int32)) := (F220.other W221 (Nat.ne_of_lt (Nat.lt_of_lt_of_le (V1.ext E211).lt (Nat.le_of_eq g213.symm))))
  obtain ⟨c223, A223, q223, S223, M223, G223, J223⟩ := id F224
  have i223 := inb_of S223 (j := (2 : Int32)) ⟨by decide, by decide⟩
  refine Go.by (X221.caload hx (j := (2 : Int32)) (v := (.int c2)) (by rw [e221]; exact A223.1) (State.isArrayOf_alike hZ.alike A223.2.1) A223.2.2 i223 (G223.at i223 rfl) (g := (mkF m 167 #[.val (.ref a1), .val (.int (5 : Int32))] [(.int (2 : Int32)), (.ref a1), (.int (2 : Int32)), (.ref b213), (.ref b213), (.ref b211), (.ref b211)])) rfl rfl (hb hby od_m_3_167)) ?_
  show Go p e below _ T221 (mkF m 168 #[.val (.ref a1), .val (.int (5 : Int32))] [(.int c2), (.int (2 : Int32)), (.ref b213), (.ref b213), (.ref b211), (.ref b211)])
  obtain ⟨c225, A225, q225, S225, M225, G225, J225⟩ := id V221
  obtain ⟨T225, h225, X225, e225, W225, st225⟩ := stC X221 hx hZ e221 A225 (j := (2 : Int32)) (inb_of S225 ⟨by decide, by decide⟩) (g := (mkF m 168 #[.val (.ref a1), .val (.int (5 : Int32))] [(.int c2), (.int (2 : Int32)), (.ref b213), (.ref b213), (.ref b211), (.ref b211)])) rfl rfl (hb hby od_m_3_168)
  refine Go.by st225 ?_
  have N225 := Fr.snoc X225 N221 (Nat.le_trans (Nat.le_trans Z0 E211.1) (Nat.le_of_eq g213.symm))
  have K226 : Keep h0 h225 [] := K222.wr W225 (Or.inr (Nat.le_trans E211.1 (Nat.le_of_eq g213.symm)))
  have O226 : Old Z n0 h225 := O222.wr W225 (Nat.le_trans (Nat.le_trans Z0 E211.1) (Nat.le_of_eq g213.symm))
  show Go p e below _ T225 (mkF m 169 #[.val (.ref a1), .val (.int (5 : Int32))] [(.ref b213), (.ref b211), (.ref b211)])
  have V225 : Arv Z h225 b213 k213 .char (5 : Int32) ([(.int c0), (.int c1), (.int (nar .char c2)), (.int (0 : Int32)), (.int (0 : Int32))]) (.int (0 : Int32)) := Arv.set A225 q225 S225 M225 G225 J225 (fits_nar_char _) W225 2 rfl (Nat.le_of_ble_eq_true rfl)
  rw [e_2] at V225
  refine Go.by (fun t k => XS.dup X225.here hx rfl (hb hby od_m_3_169) rfl rfl (XS.iconst X225.here hx rfl (hb hby od_m_3_170) (XS.aloadN X225.here hx rfl (hb hby od_m_3_171) rfl rfl (XS.iconst X225.here hx rfl (hb hby od_m_3_172) k)))) ?_
  show Go p e below _ T225 (mkF m 173 #[.val (.ref a1), .val (.int (5 : Int32))] [(.int (3 : Int32)), (.ref a1), (.int (3 : Int32)), (.ref b213), (.ref b213), (.ref b211), (.ref b211)])
  have F228 : Arv Z h225 a1 k1 .char (7 : Int32) ([(.int c0), (.int c1), (.int c2), (.int c3), (.int c4), (.int c5), (.int c6)]) (.int (0 : Int32)) := (F224.other W225 (Nat.ne_of_lt (Nat.lt_of_lt_of_le (V1.ext E211).lt (Nat.le_of_eq g213.symm))))
  obtain ⟨c227, A227, q227, S227, M227, G227, J227⟩ := id F228
  have i227 := inb_of S227 (j := (3 : Int32)) ⟨by decide, by decide⟩
  refine Go.by (X225.caload hx (j := (3 : Int32)) (v := (.int c3)) (by rw [e225]; exact A227.1) (State.isArrayOf_alike hZ.alike A227.2.1) A227.2.2 i227 (G227.at i227 rfl) (g := (mkF m 173 #[.val (.ref a1), .val (.int (5 : Int32))] [(.int (3 : Int32)), (.ref a1), (.int (3 : Int32)), (.ref b213), (.ref b213), (.ref b211), (.ref b211)])) rfl rfl (hb hby od_m_3_173)) ?_
  show Go p e below _ T225 (mkF m 174 #[.val (.ref a1), .val (.int (5 : Int32))] [(.int c3), (.int (3 : Int32)), (.ref b213), (.ref b213), (.ref b211), (.ref b211)])
  obtain ⟨c229, A229, q229, S229, M229, G229, J229⟩ := id V225
  obtain ⟨T229, h229, X229, e229, W229, st229⟩ := stC X225 hx hZ e225 A229 (j := (3 : Int32)) (inb_of S229 ⟨by decide, by decide⟩) (g := (mkF m 174 #[.val (.ref a1), .val (.int (5 : Int32))] [(.int c3), (.int (3 : Int32)), (.ref b213), (.ref b213), (.ref b211), (.ref b211)])) rfl rfl (hb hby od_m_3_174)
  refine Go.by st229 ?_
  have N229 := Fr.snoc X229 N225 (Nat.le_trans (Nat.le_trans Z0 E211.1) (Nat.le_of_eq g213.symm))
  have K230 : Keep h0 h229 [] := K226.wr W229 (Or.inr (Nat.le_trans E211.1 (Nat.le_of_eq g213.symm)))
  have O230 : Old Z n0 h229 := O226.wr W229 (Nat.le_trans (Nat.le_trans Z0 E211.1) (Nat.le_of_eq g213.symm))
  show Go p e below _ T229 (mkF m 175 #[.val (.ref a1), .val (.int (5 : Int32))] [(.ref b213), (.ref b211), (.ref b211)])
  have V229 : Arv Z h229 b213 k213 .char (5 : Int32) ([(.int c0), (.int c1), (.int c2), (.int (nar .char c3)), (.int (0 : Int32))]) (.int (0 : Int32)) := Arv.set A229 q229 S229 M229 G229 J229 (fits_nar_char _) W229 3 rfl (Nat.le_of_ble_eq_true rfl)
  rw [e_3] at V229
  refine Go.by (fun t k => XS.dup X229.here hx rfl (hb hby od_m_3_175) rfl rfl (XS.iconst X229.here hx rfl (hb hby od_m_3_176) (XS.aloadN X229.here hx rfl (hb hby od_m_3_177) rfl rfl (XS.iconst X229.here hx rfl (hb hby od_m_3_178) k)))) ?_
  show Go p e below _ T229 (mkF m 179 #[.val (.ref a1), .val (.int (5 : Int32))] [(.int (4 : Int32)), (.ref a1), (.int (4 : Int32)), (.ref b213), (.ref b213), (.ref b211), (.ref b211)])
  have F232 : Arv Z h229 a1 k1 .char (7 : Int32) ([(.int c0), (.int c1), (.int c2), (.int c3), (.int c4), (.int c5), (.int c6)]) (.int (0 : Int32)) := (F228.other W229 (Nat.ne_of_lt (Nat.lt_of_lt_of_le (V1.ext E211).lt (Nat.le_of_eq g213.symm))))
  obtain ⟨c231, A231, q231, S231, M231, G231, J231⟩ := id F232
  have i231 := inb_of S231 (j := (4 : Int32)) ⟨by decide, by decide⟩
  refine Go.by (X229.caload hx (j := (4 : Int32)) (v := (.int c4)) (by rw [e229]; exact A231.1) (State.isArrayOf_alike hZ.alike A231.2.1) A231.2.2 i231 (G231.at i231 rfl) (g := (mkF m 179 #[.val (.ref a1), .val (.int (5 : Int32))] [(.int (4 : Int32)), (.ref a1), (.int (4 : Int32)), (.ref b213), (.ref b213), (.ref b211), (.ref b211)])) rfl rfl (hb hby od_m_3_179)) ?_
  show Go p e below _ T229 (mkF m 180 #[.val (.ref a1), .val (.int (5 : Int32))] [(.int c4), (.int (4 : Int32)), (.ref b213), (.ref b213), (.ref b211), (.ref b211)])
  obtain ⟨c233, A233, q233, S233, M233, G233, J233⟩ := id V229
  obtain ⟨T233, h233, X233, e233, W233, st233⟩ := stC X229 hx hZ e229 A233 (j := (4 : Int32)) (inb_of S233 ⟨by decide, by decide⟩) (g := (mkF m 180 #[.val (.ref a1), .val (.int (5 : Int32))] [(.int c4), (.int (4 : Int32)), (.ref b213), (.ref b213), (.ref b211), (.ref b211)])) rfl rfl (hb hby od_m_3_180)
  refine Go.by st233 ?_
  have N233 := Fr.snoc X233 N229 (Nat.le_trans (Nat.le_trans Z0 E211.1) (Nat.le_of_eq g213.symm))
  have K234 : Keep h0 h233 [] := K230.wr W233 (Or.inr (Nat.le_trans E211.1 (Nat.le_of_eq g213.symm)))
  have O234 : Old Z n0 h233 := O230.wr W233 (Nat.le_trans (Nat.le_trans Z0 E211.1) (Nat.le_of_eq g213.symm))
  show Go p e below _ T233 (mkF m 181 #[.val (.ref a1), .val (.int (5 : Int32))] [(.ref b213), (.ref b211), (.ref b211)])
  have V233 : Arv Z h233 b213 k213 .char (5 : Int32) ([(.int c0), (.int c1), (.int c2), (.int c3), (.int (nar .char c4))]) (.int (0 : Int32)) := Arv.set A233 q233 S233 M233 G233 J233 (fits_nar_char _) W233 4 rfl (Nat.le_of_ble_eq_true rfl)
  rw [e_4] at V233
  have hp : ∀ c ∈ ([c0, c1, c2, c3, c4] : List Int32), ¬ c < 0 ∧ ¬ (255 : Int32) < c := by
    intro c hc; simp only [List.mem_cons, List.not_mem_nil, or_false] at hc; rcases hc with rfl | rfl | rfl | rfl | rfl
    · exact r0
    · exact r1
    · exact r2
    · exact r3
    · exact r4
  have hws : ∀ d ∈ StrChars.Road.words, d.before a0 Z = true := fun d hd => hw d ((by decide +kernel : ∀ d ∈ StrChars.Road.words, d ∈ tables_1) d hd)
  have F236 : Exa Z h233 b211 "java/lang/String" := ((((((A211.ext E213).wr W217).wr W221).wr W225).wr W229).wr W233)
  have F237 : Fld Z h233 b211 "java/lang/String" "value" "[B" .null := (((((((D211 (Or.inr (ow33 hw)) (ty := (.array .byte)) (by decide)).ext E213).other W217 (Or.inl (Nat.ne_of_lt (Nat.lt_of_lt_of_le A211.lt (Nat.le_of_eq g213.symm))))).other W221 (Or.inl (Nat.ne_of_lt (Nat.lt_of_lt_of_le A211.lt (Nat.le_of_eq g213.symm))))).other W225 (Or.inl (Nat.ne_of_lt (Nat.lt_of_lt_of_le A211.lt (Nat.le_of_eq g213.symm))))).other W229 (Or.inl (Nat.ne_of_lt (Nat.lt_of_lt_of_le A211.lt (Nat.le_of_eq g213.symm))))).other W233 (Or.inl (Nat.ne_of_lt (Nat.lt_of_lt_of_le A211.lt (Nat.le_of_eq g213.symm)))))
  have F238 : Fld Z h233 b211 "java/lang/String" "coder" "B" (.int (0 : Int32)) := (((((((D211 (Or.inr (ow31 hw)) (ty := .byte) (by decide)).ext E213).other W217 (Or.inl (Nat.ne_of_lt (Nat.lt_of_lt_of_le A211.lt (Nat.le_of_eq g213.symm))))).other W221 (Or.inl (Nat.ne_of_lt (Nat.lt_of_lt_of_le A211.lt (Nat.le_of_eq g213.symm))))).other W225 (Or.inl (Nat.ne_of_lt (Nat.lt_of_lt_of_le A211.lt (Nat.le_of_eq g213.symm))))).other W229 (Or.inl (Nat.ne_of_lt (Nat.lt_of_lt_of_le A211.lt (Nat.le_of_eq g213.symm))))).other W233 (Or.inl (Nat.ne_of_lt (Nat.lt_of_lt_of_le A211.lt (Nat.le_of_eq g213.symm)))))
  obtain ⟨_, _, ⟨T235, L235, k235, n235⟩, -, X235, ⟨Lc235, hQ235, l235, y235, z235⟩, st235⟩ := X233.specialBack hx (y := (⟨"java/lang/String", "<init>", "([C)V"⟩ : MethodName)) rfl hown (mvT hZ (ow8 hw)) (mvT hZ (ow9 hw)) (mvT hZ (ow10 hw)) (by decide) (StrChars.Road.backV (W := 1) hZ hws (kI := 4) (ow6 hw) (cs := ([c0, c1, c2, c3, c4] : List Int32)) (bs := ([c0, c1, c2, c3, c4] : List Int32).map (fun c => c.toInt8.toInt32)) (n := 5) (Nat.le_trans (Nat.le_trans Z0 (Nat.le_refl _)) (Nat.le_of_eq g211.symm)) (Nat.le_trans Z0 (Nat.le_trans (Nat.le_trans (Nat.le_trans (Nat.le_trans (Nat.le_trans (Nat.le_trans E211.1 E213.1) (Keep.of_wr W217).1) (Keep.of_wr W221).1) (Keep.of_wr W225).1) (Keep.of_wr W229).1) (Keep.of_wr W233).1)) F236 F237 F238 V233 (O2.ext O234.2) P5 rfl rfl (by decide) (by decide) hp rfl (by decide) (by decide)) (g := (mkF m 181 #[.val (.ref a1), .val (.int (5 : Int32))] [(.ref b213), (.ref b211), (.ref b211)])) rfl (by rw [hml]; rfl) (Steps.refl _) (a := b211) (argsL := [(.ref b213)]) (rest := [(.ref b211)]) (lenOf opd_1 rfl) rfl (by show 2 * 0 + _ ≤ _; exact Nat.le_of_eq rfl) (hb hby od_m_3_181) (fun _ _ => ⟨rfl, e233, (by decide : 2 + 1 ≤ _), (by decide : 9 + 5 ≤ _)⟩)
  dsimp only [Pt.U, Pt.locs, Pt.cells, Pt.slots] at X235 l235 y235 z235 st235 hQ235
  subst l235 y235 z235
  obtain ⟨rfl, N235q, K235q, PE235, PC235, t235, kb235, -, u235, v235, PV235, PA235⟩ := hQ235
  have N235 := Fr.app N233 N235q
  refine Go.tr st235 ?_
  have K239 : Keep h0 T235.heap [] := K234.trans K235q (allS (Or.inr (Nat.le_trans (Nat.le_refl _) (Nat.le_of_eq g211.symm))) all0)
  have O239 : Old Z n0 T235.heap := O234.keep K235q (allS (Nat.le_trans (Nat.le_trans Z0 (Nat.le_refl _)) (Nat.le_of_eq g211.symm)) all0)
  show Go p e below _ T235 (mkF m 184 #[.val (.ref a1), .val (.int (5 : Int32))] [(.ref b211)])
  exact Go.retR X235 hx hret rfl rfl rfl hlk (hb hby od_m_3_184) ⟨b211, t235, kb235, rfl, N235, K239, (Nat.le_trans (Nat.le_refl _) (Nat.le_of_eq g211.symm)), PE235, PC235, PV235, PA235⟩ (by decide) (by decide)
def Q_make6 (Z : State) (a1 : Addr) (k1 : ClassId) (c0 : Int32) (c1 : Int32) (c2 : Int32) (c3 : Int32) (c4 : Int32) (c5 : Int32) (c6 : Int32) (G1 : Int32) (h0 : Heap) (n0 : Nat) (rv : Option Value) (hE : Heap) (LE : List Loc) : Prop := ∃ bs : Addr, ∃ bt : Addr, ∃ kb : ClassId, rv = some (.ref bs) ∧ Fr n0 LE ∧ Keep h0 hE [] ∧ (h0.size ≤ bs) ∧ (Exa Z hE bs "java/lang/String") ∧ (Fld Z hE bs "java/lang/String" "coder" "B" (.int (0 : Int32))) ∧ (Fld Z hE bs "java/lang/String" "value" "[B" (.ref bt)) ∧ (Arv Z hE bt kb .byte (6 : Int32) (B8 ([c0, c1, c2, c3, c4, c5] : List Int32)) (.int (0 : Int32)))
set_option maxRecDepth 65536 in
set_option maxHeartbeats 40000000 in
theorem rm_make6 (l : Launch) (Z : State) (a0 : Array Value) (hw : HW a0 Z) (ws : List Jvm.Cond) (a1 : Addr) (k1 : ClassId) (c0 : Int32) (c1 : Int32) (c2 : Int32) (c3 : Int32) (c4 : Int32) (c5 : Int32) (c6 : Int32) (G1 : Int32) (h0 : Heap) (n0 : Nat) (Z0 : n0 ≤ h0.size) (V1 : Arv Z h0 a1 k1 .char (7 : Int32) ([(.int c0), (.int c1), (.int c2), (.int c3), (.int c4), (.int c5), (.int c6)]) (.int (0 : Int32))) (HN : ∀ c ∈ ([c0, c1, c2, c3, c4, c5, c6] : List Int32), ¬ c < 0 ∧ ¬ (255 : Int32) < c) (O2 : Sta Z Z.heap "java/lang/String" "COMPACT_STRINGS" "Z" (.int G1)) (P5 : ¬ (G1 = (0 : Int32))) (X00 : Old Z n0 h0) :
    MetFree l (⟨"com/example/antecedent/antecedent/EntityTypeForLabelPinLaw", "make", "([CI)Ljava/lang/String;"⟩ : MethodName) (head1 (Jvm.Cond.code (⟨"com/example/antecedent/antecedent/EntityTypeForLabelPinLaw", "make", "([CI)Ljava/lang/String;"⟩ : MethodName) method_3_code 2 (Option.some (Jvm.ClassFile.FieldType.object "java/lang/String")) :: ws) ({ frames := 4, cells := 6, slots := 18, locals := 66 } : Room)) (fun a U => a = #[(.ref a1), (.int (6 : Int32))] ∧ Z.Warmed39 U.vm ∧ U.heap = h0) (fun _ _ _ _ _ => True) (fun _ U o U' => Out U (Q_make6 Z a1 k1 c0 c1 c2 c3 c4 c5 c6 G1 h0 n0) ({ frames := 4, cells := 6, slots := 18, locals := 66 } : Room).cells ({ frames := 4, cells := 6, slots := 18, locals := 66 } : Room).slots o U') := by
  refine MetFree.of_bodySF (plainFor_of_name opn_1) hisR ?_
  intro p e s m args below meth c s₁ Bd hml0 hP hK
  obtain ⟨rfl, hZ, hh⟩ := hP
  have hx := Bd.exec
  have hby := Bd.bytes
  have hml : c.maxLocals = 2 := hml0
  have hret := Bd.returns
  have hlk : meth.locks = false := BodyLoose.notSynchronized Bd
  have hown : s.vm.findClass "com/example/antecedent/antecedent/EntityTypeForLabelPinLaw" = some m.cls := findClass_of_methodNamed Bd.named
  have hnm := (name_of_methodNamed Bd.named Bd.method).1
  have X0 : Stand p l e ({ frames := 4, cells := 6, slots := 18, locals := 66 } : Room) s m #[(.ref a1), (.int (6 : Int32))] below meth c s₁ [] 0 0 := Stand.of_body Bd
  have e0 : s₁.heap = h0 := by rw [← hh, Bd.state]; rfl
  have N0 := Fr.nil n0
  have K0 : Keep h0 h0 [] := Keep.refl h0 _
  show Go p e below (Out s (Q_make6 Z a1 k1 c0 c1 c2 c3 c4 c5 c6 G1 h0 n0) ({ frames := 4, cells := 6, slots := 18, locals := 66 } : Room).cells ({ frames := 4, cells := 6, slots := 18, locals := 66 } : Room).slots) s₁ (entryFrame m #[(.ref a1), (.int (6 : Int32))] 2)
  refine Go.cast (oef_make6 m a1 (6 : Int32)) ?_
  show Go p e below _ s₁ (mkF m 0 #[.val (.ref a1), .val (.int (6 : Int32))] [])
  have r0 := HN c0 (by simp)
  have e_0 := nar_id r0
  have r1 := HN c1 (by simp)
  have e_1 := nar_id r1
  have r2 := HN c2 (by simp)
  have e_2 := nar_id r2
  have r3 := HN c3 (by simp)
  have e_3 := nar_id r3
  have r4 := HN c4 (by simp)
  have e_4 := nar_id r4
  have r5 := HN c5 (by simp)
  have e_5 := nar_id r5
  refine Go.by (fun t k => XS.iloadN X0.here hx rfl (hb hby od_m_3_0) rfl (XS.ifYes X0.here hx rfl (pc0 := 1) (pc' := 15) rfl (hb hby od_m_3_1) rfl ((if0 _ _).trans (feq (show ¬ ((6 : Int32) = (0 : Int32)) from (by decide))).2) (by decide) (by decide) k)) ?_
  show Go p e below _ s₁ (mkF m 15 #[.val (.ref a1), .val (.int (6 : Int32))] [])
  refine Go.by (fun t k => XS.iloadN X0.here hx rfl (hb hby od_m_3_15) rfl (XS.iconst X0.here hx rfl (hb hby od_m_3_16) (XS.icmpYes X0.here hx rfl (pc0 := 17) (pc' := 37) rfl (hb hby od_m_3_17) rfl (feq (show ¬ ((6 : Int32) = (1 : Int32)) from (by decide))).2 (by decide) (by decide) k))) ?_
  show Go p e below _ s₁ (mkF m 37 #[.val (.ref a1), .val (.int (6 : Int32))] [])
  refine Go.by (fun t k => XS.iloadN X0.here hx rfl (hb hby od_m_3_37) rfl (XS.iconst X0.here hx rfl (hb hby od_m_3_38) (XS.icmpYes X0.here hx rfl (pc0 := 39) (pc' := 65) rfl (hb hby od_m_3_39) rfl (feq (show ¬ ((6 : Int32) = (2 : Int32)) from (by decide))).2 (by decide) (by decide) k))) ?_
  show Go p e below _ s₁ (mkF m 65 #[.val (.ref a1), .val (.int (6 : Int32))] [])
  refine Go.by (fun t k => XS.iloadN X0.here hx rfl (hb hby od_m_3_65) rfl (XS.iconst X0.here hx rfl (hb hby od_m_3_66) (XS.icmpYes X0.here hx rfl (pc0 := 67) (pc' := 99) rfl (hb hby od_m_3_67) rfl (feq (show ¬ ((6 : Int32) = (3 : Int32)) from (by decide))).2 (by decide) (by decide) k))) ?_
  show Go p e below _ s₁ (mkF m 99 #[.val (.ref a1), .val (.int (6 : Int32))] [])
  refine Go.by (fun t k => XS.iloadN X0.here hx rfl (hb hby od_m_3_99) rfl (XS.iconst X0.here hx rfl (hb hby od_m_3_100) (XS.icmpYes X0.here hx rfl (pc0 := 101) (pc' := 139) rfl (hb hby od_m_3_101) rfl (feq (show ¬ ((6 : Int32) = (4 : Int32)) from (by decide))).2 (by decide) (by decide) k))) ?_
  show Go p e below _ s₁ (mkF m 139 #[.val (.ref a1), .val (.int (6 : Int32))] [])
  refine Go.by (fun t k => XS.iloadN X0.here hx rfl (hb hby od_m_3_139) rfl (XS.iconst X0.here hx rfl (hb hby od_m_3_140) (XS.icmpYes X0.here hx rfl (pc0 := 141) (pc' := 185) rfl (hb hby od_m_3_141) rfl (feq (show ¬ ((6 : Int32) = (5 : Int32)) from (by decide))).2 (by decide) (by decide) k))) ?_
  show Go p e below _ s₁ (mkF m 185 #[.val (.ref a1), .val (.int (6 : Int32))] [])
  refine Go.by (fun t k => XS.iloadN X0.here hx rfl (hb hby od_m_3_185) rfl (XS.bipush X0.here hx rfl (hb hby od_m_3_186) (XS.icmpNo X0.here hx rfl (hb hby od_m_3_188) rfl (teq (show (6 : Int32) = (6 : Int32) from (by decide))).2 k))) ?_
  show Go p e below _ s₁ (mkF m 191 #[.val (.ref a1), .val (.int (6 : Int32))] [])
  obtain ⟨T240, h240, X240, e240, E240, A240, D240, U240, st240⟩ := newO X0 hx hZ hown (ow5 hw) (ow6 hw) (ow7 hw) e0 (g := (mkF m 191 #[.val (.ref a1), .val (.int (6 : Int32))] [])) rfl (hb hby od_m_3_191) (by decide) (by decide)
  obtain ⟨b240, g240⟩ : ∃ z, z = h0.size := ⟨_, rfl⟩
  rw [← g240] at A240 D240 U240 st240
  refine Go.by st240 ?_
  have K241 : Keep h0 h240 [] := K0.ext E240
  have O241 : Old Z n0 h240 := X00.ext E240
  show Go p e below _ T240 (mkF m 194 #[.val (.ref a1), .val (.int (6 : Int32))] [(.ref b240)])
  refine Go.by (fun t k => XS.dup X240.here hx rfl (hb hby od_m_3_194) rfl rfl (XS.bipush X240.here hx rfl (hb hby od_m_3_195) k)) ?_
  show Go p e below _ T240 (mkF m 197 #[.val (.ref a1), .val (.int (6 : Int32))] [(.int (6 : Int32)), (.ref b240), (.ref b240)])
  obtain ⟨T242, h242, k242, X242, e242, E242, A242, st242⟩ := newP X240 hx hZ (aty := .char) (ow0 hw) e240 (g := (mkF m 197 #[.val (.ref a1), .val (.int (6 : Int32))] [(.int (6 : Int32)), (.ref b240), (.ref b240)])) rfl (hb hby od_m_3_197) rfl (by decide) (cap := 6) (by decide) (by decide) (by decide) (by decide)
  obtain ⟨b242, g242⟩ : ∃ z, z = h240.size := ⟨_, rfl⟩
  rw [← g242] at A242 st242
  refine Go.by st242 ?_
  have K243 : Keep h0 h242 [] := K241.ext E242
  have O243 : Old Z n0 h242 := O241.ext E242
  show Go p e below _ T242 (mkF m 199 #[.val (.ref a1), .val (.int (6 : Int32))] [(.ref b242), (.ref b240), (.ref b240)])
  have V242 : Arv Z h242 b242 k242 .char (6 : Int32) [(.int (0 : Int32)), (.int (0 : Int32)), (.int (0 : Int32)), (.int (0 : Int32)), (.int (0 : Int32)), (.int (0 : Int32))] (.int (0 : Int32)) := (Arv.new A242 (by decide)).pad (pad_rep [] (.int (0 : Int32)) 6)
  refine Go.by (fun t k => XS.dup X242.here hx rfl (hb hby od_m_3_199) rfl rfl (XS.iconst X242.here hx rfl (hb hby od_m_3_200) (XS.aloadN X242.here hx rfl (hb hby od_m_3_201) rfl rfl (XS.iconst X242.here hx rfl (hb hby od_m_3_202) k)))) ?_
  show Go p e below _ T242 (mkF m 203 #[.val (.ref a1), .val (.int (6 : Int32))] [(.int (0 : Int32)), (.ref a1), (.int (0 : Int32)), (.ref b242), (.ref b242), (.ref b240), (.ref b240)])
  have F245 : Arv Z h242 a1 k1 .char (7 : Int32) ([(.int c0), (.int c1), (.int c2), (.int c3), (.int c4), (.int c5), (.int c6)]) (.int (0 : Int32)) := ((V1.ext E240).ext E242)
  obtain ⟨c244, A244, q244, S244, M244, G244, J244⟩ := id F245
  have i244 := inb_of S244 (j := (0 : Int32)) ⟨by decide, by decide⟩
  refine Go.by (X242.caload hx (j := (0 : Int32)) (v := (.int c0)) (by rw [e242]; exact A244.1) (State.isArrayOf_alike hZ.alike A244.2.1) A244.2.2 i244 (G244.at i244 rfl) (g := (mkF m 203 #[.val (.ref a1), .val (.int (6 : Int32))] [(.int (0 : Int32)), (.ref a1), (.int (0 : Int32)), (.ref b242), (.ref b242), (.ref b240), (.ref b240)])) rfl rfl (hb hby od_m_3_203)) ?_
  show Go p e below _ T242 (mkF m 204 #[.val (.ref a1), .val (.int (6 : Int32))] [(.int c0), (.int (0 : Int32)), (.ref b242), (.ref b242), (.ref b240), (.ref b240)])
  obtain ⟨c246, A246, q246, S246, M246, G246, J246⟩ := id V242
  obtain ⟨T246, h246, X246, e246, W246, st246⟩ := stC X242 hx hZ e242 A246 (j := (0 : Int32)) (inb_of S246 ⟨by decide, by decide⟩) (g := (mkF m 204 #[.val (.ref a1), .val (.int (6 : Int32))] [(.int c0), (.int (0 : Int32)), (.ref b242), (.ref b242), (.ref b240), (.ref b240)])) rfl rfl (hb hby od_m_3_204)
  refine Go.by st246 ?_
  have N246 := Fr.snoc X246 N0 (Nat.le_trans (Nat.le_trans Z0 E240.1) (Nat.le_of_eq g242.symm))
  have K247 : Keep h0 h246 [] := K243.wr W246 (Or.inr (Nat.le_trans E240.1 (Nat.le_of_eq g242.symm)))
  have O247 : Old Z n0 h246 := O243.wr W246 (Nat.le_trans (Nat.le_trans Z0 E240.1) (Nat.le_of_eq g242.symm))
  show Go p e below _ T246 (mkF m 205 #[.val (.ref a1), .val (.int (6 : Int32))] [(.ref b242), (.ref b240), (.ref b240)])
  have V246 : Arv Z h246 b242 k242 .char (6 : Int32) ([(.int (nar .char c0)), (.int (0 : Int32)), (.int (0 : Int32)), (.int (0 : Int32)), (.int (0 : Int32)), (.int (0 : Int32))]) (.int (0 : Int32)) := Arv.set A246 q246 S246 M246 G246 J246 (fits_nar_char _) W246 0 rfl (Nat.le_of_ble_eq_true rfl)
  rw [e_0] at V246
  refine Go.by (fun t k => XS.dup X246.here hx rfl (hb hby od_m_3_205) rfl rfl (XS.iconst X246.here hx rfl (hb hby od_m_3_206) (XS.aloadN X246.here hx rfl (hb hby od_m_3_207) rfl rfl (XS.iconst X246.here hx rfl (hb hby od_m_3_208) k)))) ?_
  show Go p e below _ T246 (mkF m 209 #[.val (.ref a1), .val (.int (6 : Int32))] [(.int (1 : Int32)), (.ref a1), (.int (1 : Int32)), (.ref b242), (.ref b242), (.ref b240), (.ref b240)])
  have F249 : Arv Z h246 a1 k1 .char (7 : Int32) ([(.int c0), (.int c1), (.int c2), (.int c3), (.int c4), (.int c5), (.int c6)]) (.int (0 : Int32)) := (F245.other W246 (Nat.ne_of_lt (Nat.lt_of_lt_of_le (V1.ext E240).lt (Nat.le_of_eq g242.symm))))
  obtain ⟨c248, A248, q248, S248, M248, G248, J248⟩ := id F249
  have i248 := inb_of S248 (j := (1 : Int32)) ⟨by decide, by decide⟩
  refine Go.by (X246.caload hx (j := (1 : Int32)) (v := (.int c1)) (by rw [e246]; exact A248.1) (State.isArrayOf_alike hZ.alike A248.2.1) A248.2.2 i248 (G248.at i248 rfl) (g := (mkF m 209 #[.val (.ref a1), .val (.int (6 : Int32))] [(.int (1 : Int32)), (.ref a1), (.int (1 : Int32)), (.ref b242), (.ref b242), (.ref b240), (.ref b240)])) rfl rfl (hb hby od_m_3_209)) ?_
  show Go p e below _ T246 (mkF m 210 #[.val (.ref a1), .val (.int (6 : Int32))] [(.int c1), (.int (1 : Int32)), (.ref b242), (.ref b242), (.ref b240), (.ref b240)])
  obtain ⟨c250, A250, q250, S250, M250, G250, J250⟩ := id V246
  obtain ⟨T250, h250, X250, e250, W250, st250⟩ := stC X246 hx hZ e246 A250 (j := (1 : Int32)) (inb_of S250 ⟨by decide, by decide⟩) (g := (mkF m 210 #[.val (.ref a1), .val (.int (6 : Int32))] [(.int c1), (.int (1 : Int32)), (.ref b242), (.ref b242), (.ref b240), (.ref b240)])) rfl rfl (hb hby od_m_3_210)
  refine Go.by st250 ?_
  have N250 := Fr.snoc X250 N246 (Nat.le_trans (Nat.le_trans Z0 E240.1) (Nat.le_of_eq g242.symm))
  have K251 : Keep h0 h250 [] := K247.wr W250 (Or.inr (Nat.le_trans E240.1 (Nat.le_of_eq g242.symm)))
  have O251 : Old Z n0 h250 := O247.wr W250 (Nat.le_trans (Nat.le_trans Z0 E240.1) (Nat.le_of_eq g242.symm))
  show Go p e below _ T250 (mkF m 211 #[.val (.ref a1), .val (.int (6 : Int32))] [(.ref b242), (.ref b240), (.ref b240)])
  have V250 : Arv Z h250 b242 k242 .char (6 : Int32) ([(.int c0), (.int (nar .char c1)), (.int (0 : Int32)), (.int (0 : Int32)), (.int (0 : Int32)), (.int (0 : Int32))]) (.int (0 : Int32)) := Arv.set A250 q250 S250 M250 G250 J250 (fits_nar_char _) W250 1 rfl (Nat.le_of_ble_eq_true rfl)
  rw [e_1] at V250
  refine Go.by (fun t k => XS.dup X250.here hx rfl (hb hby od_m_3_211) rfl rfl (XS.iconst X250.here hx rfl (hb hby od_m_3_212) (XS.aloadN X250.here hx rfl (hb hby od_m_3_213) rfl rfl (XS.iconst X250.here hx rfl (hb hby od_m_3_214) k)))) ?_
  show Go p e below _ T250 (mkF m 215 #[.val (.ref a1), .val (.int (6 : Int32))] [(.int (2 : Int32)), (.ref a1), (.int (2 : Int32)), (.ref b242), (.ref b242), (.ref b240), (.ref b240)])
  have F253 : Arv Z h250 a1 k1 .char (7 : Int32) ([(.int c0), (.int c1), (.int c2), (.int c3), (.int c4), (.int c5), (.int c6)]) (.int (0 : Int32)) := (F249.other W250 (Nat.ne_of_lt (Nat.lt_of_lt_of_le (V1.ext E240).lt (Nat.le_of_eq g242.symm))))
  obtain ⟨c252, A252, q252, S252, M252, G252, J252⟩ := id F253
  have i252 := inb_of S252 (j := (2 : Int32)) ⟨by decide, by decide⟩
  refine Go.by (X250.caload hx (j := (2 : Int32)) (v := (.int c2)) (by rw [e250]; exact A252.1) (State.isArrayOf_alike hZ.alike A252.2.1) A252.2.2 i252 (G252.at i252 rfl) (g := (mkF m 215 #[.val (.ref a1), .val (.int (6 : Int32))] [(.int (2 : Int32)), (.ref a1), (.int (2 : Int32)), (.ref b242), (.ref b242), (.ref b240), (.ref b240)])) rfl rfl (hb hby od_m_3_215)) ?_
  show Go p e below _ T250 (mkF m 216 #[.val (.ref a1), .val (.int (6 : Int32))] [(.int c2), (.int (2 : Int32)), (.ref b242), (.ref b242), (.ref b240), (.ref b240)])
  obtain ⟨c254, A254, q254, S254, M254, G254, J254⟩ := id V250
  obtain ⟨T254, h254, X254, e254, W254, st254⟩ := stC X250 hx hZ e250 A254 (j := (2 : Int32)) (inb_of S254 ⟨by decide, by decide⟩) (g := (mkF m 216 #[.val (.ref a1), .val (.int (6 : Int32))] [(.int c2), (.int (2 : Int32)), (.ref b242), (.ref b242), (.ref b240), (.ref b240)])) rfl rfl (hb hby od_m_3_216)
  refine Go.by st254 ?_
  have N254 := Fr.snoc X254 N250 (Nat.le_trans (Nat.le_trans Z0 E240.1) (Nat.le_of_eq g242.symm))
  have K255 : Keep h0 h254 [] := K251.wr W254 (Or.inr (Nat.le_trans E240.1 (Nat.le_of_eq g242.symm)))
  have O255 : Old Z n0 h254 := O251.wr W254 (Nat.le_trans (Nat.le_trans Z0 E240.1) (Nat.le_of_eq g242.symm))
  show Go p e below _ T254 (mkF m 217 #[.val (.ref a1), .val (.int (6 : Int32))] [(.ref b242), (.ref b240), (.ref b240)])
  have V254 : Arv Z h254 b242 k242 .char (6 : Int32) ([(.int c0), (.int c1), (.int (nar .char c2)), (.int (0 : Int32)), (.int (0 : Int32)), (.int (0 : Int32))]) (.int (0 : Int32)) := Arv.set A254 q254 S254 M254 G254 J254 (fits_nar_char _) W254 2 rfl (Nat.le_of_ble_eq_true rfl)
  rw [e_2] at V254
  refine Go.by (fun t k => XS.dup X254.here hx rfl (hb hby od_m_3_217) rfl rfl (XS.iconst X254.here hx rfl (hb hby od_m_3_218) (XS.aloadN X254.here hx rfl (hb hby od_m_3_219) rfl rfl (XS.iconst X254.here hx rfl (hb hby od_m_3_220) k)))) ?_
  show Go p e below _ T254 (mkF m 221 #[.val (.ref a1), .val (.int (6 : Int32))] [(.int (3 : Int32)), (.ref a1), (.int (3 : Int32)), (.ref b242), (.ref b242), (.ref b240), (.ref b240)])
  have F257 : Arv Z h254 a1 k1 .char (7 : Int32) ([(.int c0), (.int c1), (.int c2), (.int c3), (.int c4), (.int c5), (.int c6)]) (.int (0 : Int32)) := (F253.other W254 (Nat.ne_of_lt (Nat.lt_of_lt_of_le (V1.ext E240).lt (Nat.le_of_eq g242.symm))))
  obtain ⟨c256, A256, q256, S256, M256, G256, J256⟩ := id F257
  have i256 := inb_of S256 (j := (3 : Int32)) ⟨by decide, by decide⟩
  refine Go.by (X254.caload hx (j := (3 : Int32)) (v := (.int c3)) (by rw [e254]; exact A256.1) (State.isArrayOf_alike hZ.alike A256.2.1) A256.2.2 i256 (G256.at i256 rfl) (g := (mkF m 221 #[.val (.ref a1), .val (.int (6 : Int32))] [(.int (3 : Int32)), (.ref a1), (.int (3 : Int32)), (.ref b242), (.ref b242), (.ref b240), (.ref b240)])) rfl rfl (hb hby od_m_3_221)) ?_
  show Go p e below _ T254 (mkF m 222 #[.val (.ref a1), .val (.int (6 : Int32))] [(.int c3), (.int (3 : Int32)), (.ref b242), (.ref b242), (.ref b240), (.ref b240)])
  obtain ⟨c258, A258, q258, S258, M258, G258, J258⟩ := id V254
  obtain ⟨T258, h258, X258, e258, W258, st258⟩ := stC X254 hx hZ e254 A258 (j := (3 : Int32)) (inb_of S258 ⟨by decide, by decide⟩) (g := (mkF m 222 #[.val (.ref a1), .val (.int (6 : Int32))] [(.int c3), (.int (3 : Int32)), (.ref b242), (.ref b242), (.ref b240), (.ref b240)])) rfl rfl (hb hby od_m_3_222)
  refine Go.by st258 ?_
  have N258 := Fr.snoc X258 N254 (Nat.le_trans (Nat.le_trans Z0 E240.1) (Nat.le_of_eq g242.symm))
  have K259 : Keep h0 h258 [] := K255.wr W258 (Or.inr (Nat.le_trans E240.1 (Nat.le_of_eq g242.symm)))
  have O259 : Old Z n0 h258 := O255.wr W258 (Nat.le_trans (Nat.le_trans Z0 E240.1) (Nat.le_of_eq g242.symm))
  show Go p e below _ T258 (mkF m 223 #[.val (.ref a1), .val (.int (6 : Int32))] [(.ref b242), (.ref b240), (.ref b240)])
  have V258 : Arv Z h258 b242 k242 .char (6 : Int32) ([(.int c0), (.int c1), (.int c2), (.int (nar .char c3)), (.int (0 : Int32)), (.int (0 : Int32))]) (.int (0 : Int32)) := Arv.set A258 q258 S258 M258 G258 J258 (fits_nar_char _) W258 3 rfl (Nat.le_of_ble_eq_true rfl)
  rw [e_3] at V258
  refine Go.by (fun t k => XS.dup X258.here hx rfl (hb hby od_m_3_223) rfl rfl (XS.iconst X258.here hx rfl (hb hby od_m_3_224) (XS.aloadN X258.here hx rfl (hb hby od_m_3_225) rfl rfl (XS.iconst X258.here hx rfl (hb hby od_m_3_226) k)))) ?_
  show Go p e below _ T258 (mkF m 227 #[.val (.ref a1), .val (.int (6 : Int32))] [(.int (4 : Int32)), (.ref a1), (.int (4 : Int32)), (.ref b242), (.ref b242), (.ref b240), (.ref b240)])
  have F261 : Arv Z h258 a1 k1 .char (7 : Int32) ([(.int c0), (.int c1), (.int c2), (.int c3), (.int c4), (.int c5), (.int c6)]) (.int (0 : Int32)) := (F257.other W258 (Nat.ne_of_lt (Nat.lt_of_lt_of_le (V1.ext E240).lt (Nat.le_of_eq g242.symm))))
  obtain ⟨c260, A260, q260, S260, M260, G260, J260⟩ := id F261
  have i260 := inb_of S260 (j := (4 : Int32)) ⟨by decide, by decide⟩
  refine Go.by (X258.caload hx (j := (4 : Int32)) (v := (.int c4)) (by rw [e258]; exact A260.1) (State.isArrayOf_alike hZ.alike A260.2.1) A260.2.2 i260 (G260.at i260 rfl) (g := (mkF m 227 #[.val (.ref a1), .val (.int (6 : Int32))] [(.int (4 : Int32)), (.ref a1), (.int (4 : Int32)), (.ref b242), (.ref b242), (.ref b240), (.ref b240)])) rfl rfl (hb hby od_m_3_227)) ?_
  show Go p e below _ T258 (mkF m 228 #[.val (.ref a1), .val (.int (6 : Int32))] [(.int c4), (.int (4 : Int32)), (.ref b242), (.ref b242), (.ref b240), (.ref b240)])
  obtain ⟨c262, A262, q262, S262, M262, G262, J262⟩ := id V258
  obtain ⟨T262, h262, X262, e262, W262, st262⟩ := stC X258 hx hZ e258 A262 (j := (4 : Int32)) (inb_of S262 ⟨by decide, by decide⟩) (g := (mkF m 228 #[.val (.ref a1), .val (.int (6 : Int32))] [(.int c4), (.int (4 : Int32)), (.ref b242), (.ref b242), (.ref b240), (.ref b240)])) rfl rfl (hb hby od_m_3_228)
  refine Go.by st262 ?_
  have N262 := Fr.snoc X262 N258 (Nat.le_trans (Nat.le_trans Z0 E240.1) (Nat.le_of_eq g242.symm))
  have K263 : Keep h0 h262 [] := K259.wr W262 (Or.inr (Nat.le_trans E240.1 (Nat.le_of_eq g242.symm)))
  have O263 : Old Z n0 h262 := O259.wr W262 (Nat.le_trans (Nat.le_trans Z0 E240.1) (Nat.le_of_eq g242.symm))
  show Go p e below _ T262 (mkF m 229 #[.val (.ref a1), .val (.int (6 : Int32))] [(.ref b242), (.ref b240), (.ref b240)])
  have V262 : Arv Z h262 b242 k242 .char (6 : Int32) ([(.int c0), (.int c1), (.int c2), (.int c3), (.int (nar .char c4)), (.int (0 : Int32))]) (.int (0 : Int32)) := Arv.set A262 q262 S262 M262 G262 J262 (fits_nar_char _) W262 4 rfl (Nat.le_of_ble_eq_true rfl)
  rw [e_4] at V262
  refine Go.by (fun t k => XS.dup X262.here hx rfl (hb hby od_m_3_229) rfl rfl (XS.iconst X262.here hx rfl (hb hby od_m_3_230) (XS.aloadN X262.here hx rfl (hb hby od_m_3_231) rfl rfl (XS.iconst X262.here hx rfl (hb hby od_m_3_232) k)))) ?_
  show Go p e below _ T262 (mkF m 233 #[.val (.ref a1), .val (.int (6 : Int32))] [(.int (5 : Int32)), (.ref a1), (.int (5 : Int32)), (.ref b242), (.ref b242), (.ref b240), (.ref b240)])
  have F265 : Arv Z h262 a1 k1 .char (7 : Int32) ([(.int c0), (.int c1), (.int c2), (.int c3), (.int c4), (.int c5), (.int c6)]) (.int (0 : Int32)) := (F261.other W262 (Nat.ne_of_lt (Nat.lt_of_lt_of_le (V1.ext E240).lt (Nat.le_of_eq g242.symm))))
  obtain ⟨c264, A264, q264, S264, M264, G264, J264⟩ := id F265
  have i264 := inb_of S264 (j := (5 : Int32)) ⟨by decide, by decide⟩
  refine Go.by (X262.caload hx (j := (5 : Int32)) (v := (.int c5)) (by rw [e262]; exact A264.1) (State.isArrayOf_alike hZ.alike A264.2.1) A264.2.2 i264 (G264.at i264 rfl) (g := (mkF m 233 #[.val (.ref a1), .val (.int (6 : Int32))] [(.int (5 : Int32)), (.ref a1), (.int (5 : Int32)), (.ref b242), (.ref b242), (.ref b240), (.ref b240)])) rfl rfl (hb hby od_m_3_233)) ?_
  show Go p e below _ T262 (mkF m 234 #[.val (.ref a1), .val (.int (6 : Int32))] [(.int c5), (.int (5 : Int32)), (.ref b242), (.ref b242), (.ref b240), (.ref b240)])
  obtain ⟨c266, A266, q266, S266, M266, G266, J266⟩ := id V262
  obtain ⟨T266, h266, X266, e266, W266, st266⟩ := stC X262 hx hZ e262 A266 (j := (5 : Int32)) (inb_of S266 ⟨by decide, by decide⟩) (g := (mkF m 234 #[.val (.ref a1), .val (.int (6 : Int32))] [(.int c5), (.int (5 : Int32)), (.ref b242), (.ref b242), (.ref b240), (.ref b240)])) rfl rfl (hb hby od_m_3_234)
  refine Go.by st266 ?_
  have N266 := Fr.snoc X266 N262 (Nat.le_trans (Nat.le_trans Z0 E240.1) (Nat.le_of_eq g242.symm))
  have K267 : Keep h0 h266 [] := K263.wr W266 (Or.inr (Nat.le_trans E240.1 (Nat.le_of_eq g242.symm)))
  have O267 : Old Z n0 h266 := O263.wr W266 (Nat.le_trans (Nat.le_trans Z0 E240.1) (Nat.le_of_eq g242.symm))
  show Go p e below _ T266 (mkF m 235 #[.val (.ref a1), .val (.int (6 : Int32))] [(.ref b242), (.ref b240), (.ref b240)])
  have V266 : Arv Z h266 b242 k242 .char (6 : Int32) ([(.int c0), (.int c1), (.int c2), (.int c3), (.int c4), (.int (nar .char c5))]) (.int (0 : Int32)) := Arv.set A266 q266 S266 M266 G266 J266 (fits_nar_char _) W266 5 rfl (Nat.le_of_ble_eq_true rfl)
  rw [e_5] at V266
  have hp : ∀ c ∈ ([c0, c1, c2, c3, c4, c5] : List Int32), ¬ c < 0 ∧ ¬ (255 : Int32) < c := by
    intro c hc; simp only [List.mem_cons, List.not_mem_nil, or_false] at hc; rcases hc with rfl | rfl | rfl | rfl | rfl | rfl
    · exact r0
    · exact r1
    · exact r2
    · exact r3
    · exact r4
    · exact r5
  have hws : ∀ d ∈ StrChars.Road.words, d.before a0 Z = true := fun d hd => hw d ((by decide +kernel : ∀ d ∈ StrChars.Road.words, d ∈ tables_1) d hd)
  have F269 : Exa Z h266 b240 "java/lang/String" := (((((((A240.ext E242).wr W246).wr W250).wr W254).wr W258).wr W262).wr W266)
  have F270 : Fld Z h266 b240 "java/lang/String" "value" "[B" .null := ((((((((D240 (Or.inr (ow33 hw)) (ty := (.array .byte)) (by decide)).ext E242).other W246 (Or.inl (Nat.ne_of_lt (Nat.lt_of_lt_of_le A240.lt (Nat.le_of_eq g242.symm))))).other W250 (Or.inl (Nat.ne_of_lt (Nat.lt_of_lt_of_le A240.lt (Nat.le_of_eq g242.symm))))).other W254 (Or.inl (Nat.ne_of_lt (Nat.lt_of_lt_of_le A240.lt (Nat.le_of_eq g242.symm))))).other W258 (Or.inl (Nat.ne_of_lt (Nat.lt_of_lt_of_le A240.lt (Nat.le_of_eq g242.symm))))).other W262 (Or.inl (Nat.ne_of_lt (Nat.lt_of_lt_of_le A240.lt (Nat.le_of_eq g242.symm))))).other W266 (Or.inl (Nat.ne_of_lt (Nat.lt_of_lt_of_le A240.lt (Nat.le_of_eq g242.symm)))))
  have F271 : Fld Z h266 b240 "java/lang/String" "coder" "B" (.int (0 : Int32)) := ((((((((D240 (Or.inr (ow31 hw)) (ty := .byte) (by decide)).ext E242).other W246 (Or.inl (Nat.ne_of_lt (Nat.lt_of_lt_of_le A240.lt (Nat.le_of_eq g242.symm))))).other W250 (Or.inl (Nat.ne_of_lt (Nat.lt_of_lt_of_le A240.lt (Nat.le_of_eq g242.symm))))).other W254 (Or.inl (Nat.ne_of_lt (Nat.lt_of_lt_of_le A240.lt (Nat.le_of_eq g242.symm))))).other W258 (Or.inl (Nat.ne_of_lt (Nat.lt_of_lt_of_le A240.lt (Nat.le_of_eq g242.symm))))).other W262 (Or.inl (Nat.ne_of_lt (Nat.lt_of_lt_of_le A240.lt (Nat.le_of_eq g242.symm))))).other W266 (Or.inl (Nat.ne_of_lt (Nat.lt_of_lt_of_le A240.lt (Nat.le_of_eq g242.symm)))))
  obtain ⟨_, _, ⟨T268, L268, k268, n268⟩, -, X268, ⟨Lc268, hQ268, l268, y268, z268⟩, st268⟩ := X266.specialBack hx (y := (⟨"java/lang/String", "<init>", "([C)V"⟩ : MethodName)) rfl hown (mvT hZ (ow8 hw)) (mvT hZ (ow9 hw)) (mvT hZ (ow10 hw)) (by decide) (StrChars.Road.backV (W := 1) hZ hws (kI := 4) (ow6 hw) (cs := ([c0, c1, c2, c3, c4, c5] : List Int32)) (bs := ([c0, c1, c2, c3, c4, c5] : List Int32).map (fun c => c.toInt8.toInt32)) (n := 6) (Nat.le_trans (Nat.le_trans Z0 (Nat.le_refl _)) (Nat.le_of_eq g240.symm)) (Nat.le_trans Z0 (Nat.le_trans (Nat.le_trans (Nat.le_trans (Nat.le_trans (Nat.le_trans (Nat.le_trans (Nat.le_trans E240.1 E242.1) (Keep.of_wr W246).1) (Keep.of_wr W250).1) (Keep.of_wr W254).1) (Keep.of_wr W258).1) (Keep.of_wr W262).1) (Keep.of_wr W266).1)) F269 F270 F271 V266 (O2.ext O267.2) P5 rfl rfl (by decide) (by decide) hp rfl (by decide) (by decide)) (g := (mkF m 235 #[.val (.ref a1), .val (.int (6 : Int32))] [(.ref b242), (.ref b240), (.ref b240)])) rfl (by rw [hml]; rfl) (Steps.refl _) (a := b240) (argsL := [(.ref b242)]) (rest := [(.ref b240)]) (lenOf opd_1 rfl) rfl (by show 2 * 0 + _ ≤ _; exact Nat.le_of_eq rfl) (hb hby od_m_3_235) (fun _ _ => ⟨rfl, e266, (by decide : 2 + 1 ≤ _), (by decide : 10 + 6 ≤ _)⟩)
  dsimp only [Pt.U, Pt.locs, Pt.cells, Pt.slots] at X268 l268 y268 z268 st268 hQ268
  subst l268 y268 z268
  obtain ⟨rfl, N268q, K268q, PE268, PC268, t268, kb268, -, u268, v268, PV268, PA268⟩ := hQ268
  have N268 := Fr.app N266 N268q
  refine Go.tr st268 ?_
  have K272 : Keep h0 T268.heap [] := K267.trans K268q (allS (Or.inr (Nat.le_trans (Nat.le_refl _) (Nat.le_of_eq g240.symm))) all0)
  have O272 : Old Z n0 T268.heap := O267.keep K268q (allS (Nat.le_trans (Nat.le_trans Z0 (Nat.le_refl _)) (Nat.le_of_eq g240.symm)) all0)
  show Go p e below _ T268 (mkF m 238 #[.val (.ref a1), .val (.int (6 : Int32))] [(.ref b240)])
  exact Go.retR X268 hx hret rfl rfl rfl hlk (hb hby od_m_3_238) ⟨b240, t268, kb268, rfl, N268, K272, (Nat.le_trans (Nat.le_refl _) (Nat.le_of_eq g240.symm)), PE268, PC268, PV268, PA268⟩ (by decide) (by decide)
def Q_make7 (Z : State) (a1 : Addr) (k1 : ClassId) (c0 : Int32) (c1 : Int32) (c2 : Int32) (c3 : Int32) (c4 : Int32) (c5 : Int32) (c6 : Int32) (G1 : Int32) (h0 : Heap) (n0 : Nat) (rv : Option Value) (hE : Heap) (LE : List Loc) : Prop := ∃ bs : Addr, ∃ bt : Addr, ∃ kb : ClassId, rv = some (.ref bs) ∧ Fr n0 LE ∧ Keep h0 hE [] ∧ (h0.size ≤ bs) ∧ (Exa Z hE bs "java/lang/String") ∧ (Fld Z hE bs "java/lang/String" "coder" "B" (.int (0 : Int32))) ∧ (Fld Z hE bs "java/lang/String" "value" "[B" (.ref bt)) ∧ (Arv Z hE bt kb .byte (7 : Int32) (B8 ([c0, c1, c2, c3, c4, c5, c6] : List Int32)) (.int (0 : Int32)))
set_option maxRecDepth 65536 in
set_option maxHeartbeats 40000000 in
theorem rm_make7 (l : Launch) (Z : State) (a0 : Array Value) (hw : HW a0 Z) (ws : List Jvm.Cond) (a1 : Addr) (k1 : ClassId) (c0 : Int32) (c1 : Int32) (c2 : Int32) (c3 : Int32) (c4 : Int32) (c5 : Int32) (c6 : Int32) (G1 : Int32) (h0 : Heap) (n0 : Nat) (Z0 : n0 ≤ h0.size) (V1 : Arv Z h0 a1 k1 .char (7 : Int32) ([(.int c0), (.int c1), (.int c2), (.int c3), (.int c4), (.int c5), (.int c6)]) (.int (0 : Int32))) (HN : ∀ c ∈ ([c0, c1, c2, c3, c4, c5, c6] : List Int32), ¬ c < 0 ∧ ¬ (255 : Int32) < c) (O2 : Sta Z Z.heap "java/lang/String" "COMPACT_STRINGS" "Z" (.int G1)) (P5 : ¬ (G1 = (0 : Int32))) (X00 : Old Z n0 h0) :
    MetFree l (⟨"com/example/antecedent/antecedent/EntityTypeForLabelPinLaw", "make", "([CI)Ljava/lang/String;"⟩ : MethodName) (head1 (Jvm.Cond.code (⟨"com/example/antecedent/antecedent/EntityTypeForLabelPinLaw", "make", "([CI)Ljava/lang/String;"⟩ : MethodName) method_3_code 2 (Option.some (Jvm.ClassFile.FieldType.object "java/lang/String")) :: ws) ({ frames := 4, cells := 6, slots := 18, locals := 66 } : Room)) (fun a U => a = #[(.ref a1), (.int (7 : Int32))] ∧ Z.Warmed39 U.vm ∧ U.heap = h0) (fun _ _ _ _ _ => True) (fun _ U o U' => Out U (Q_make7 Z a1 k1 c0 c1 c2 c3 c4 c5 c6 G1 h0 n0) ({ frames := 4, cells := 6, slots := 18, locals := 66 } : Room).cells ({ frames := 4, cells := 6, slots := 18, locals := 66 } : Room).slots o U') := by
  refine MetFree.of_bodySF (plainFor_of_name opn_1) hisR ?_
  intro p e s m args below meth c s₁ Bd hml0 hP hK
  obtain ⟨rfl, hZ, hh⟩ := hP
  have hx := Bd.exec
  have hby := Bd.bytes
  have hml : c.maxLocals = 2 := hml0
  have hret := Bd.returns
  have hlk : meth.locks = false := BodyLoose.notSynchronized Bd
  have hown : s.vm.findClass "com/example/antecedent/antecedent/EntityTypeForLabelPinLaw" = some m.cls := findClass_of_methodNamed Bd.named
  have hnm := (name_of_methodNamed Bd.named Bd.method).1
  have X0 : Stand p l e ({ frames := 4, cells := 6, slots := 18, locals := 66 } : Room) s m #[(.ref a1), (.int (7 : Int32))] below meth c s₁ [] 0 0 := Stand.of_body Bd
  have e0 : s₁.heap = h0 := by rw [← hh, Bd.state]; rfl
  have N0 := Fr.nil n0
  have K0 : Keep h0 h0 [] := Keep.refl h0 _
  show Go p e below (Out s (Q_make7 Z a1 k1 c0 c1 c2 c3 c4 c5 c6 G1 h0 n0) ({ frames := 4, cells := 6, slots := 18, locals := 66 } : Room).cells ({ frames := 4, cells := 6, slots := 18, locals := 66 } : Room).slots) s₁ (entryFrame m #[(.ref a1), (.int (7 : Int32))] 2)
  refine Go.cast (oef_make7 m a1 (7 : Int32)) ?_
  show Go p e below _ s₁ (mkF m 0 #[.val (.ref a1), .val (.int (7 : Int32))] [])
  have r0 := HN c0 (by simp)
  have e_0 := nar_id r0
  have r1 := HN c1 (by simp)
  have e_1 := nar_id r1
  have r2 := HN c2 (by simp)
  have e_2 := nar_id r2
  have r3 := HN c3 (by simp)
  have e_3 := nar_id r3
  have r4 := HN c4 (by simp)
  have e_4 := nar_id r4
  have r5 := HN c5 (by simp)
  have e_5 := nar_id r5
  have r6 := HN c6 (by simp)
  have e_6 := nar_id r6
  refine Go.by (fun t k => XS.iloadN X0.here hx rfl (hb hby od_m_3_0) rfl (XS.ifYes X0.here hx rfl (pc0 := 1) (pc' := 15) rfl (hb hby od_m_3_1) rfl ((if0 _ _).trans (feq (show ¬ ((7 : Int32) = (0 : Int32)) from (by decide))).2) (by decide) (by decide) k)) ?_
  show Go p e below _ s₁ (mkF m 15 #[.val (.ref a1), .val (.int (7 : Int32))] [])
  refine Go.by (fun t k => XS.iloadN X0.here hx rfl (hb hby od_m_3_15) rfl (XS.iconst X0.here hx rfl (hb hby od_m_3_16) (XS.icmpYes X0.here hx rfl (pc0 := 17) (pc' := 37) rfl (hb hby od_m_3_17) rfl (feq (show ¬ ((7 : Int32) = (1 : Int32)) from (by decide))).2 (by decide) (by decide) k))) ?_
  show Go p e below _ s₁ (mkF m 37 #[.val (.ref a1), .val (.int (7 : Int32))] [])
  refine Go.by (fun t k => XS.iloadN X0.here hx rfl (hb hby od_m_3_37) rfl (XS.iconst X0.here hx rfl (hb hby od_m_3_38) (XS.icmpYes X0.here hx rfl (pc0 := 39) (pc' := 65) rfl (hb hby od_m_3_39) rfl (feq (show ¬ ((7 : Int32) = (2 : Int32)) from (by decide))).2 (by decide) (by decide) k))) ?_
  show Go p e below _ s₁ (mkF m 65 #[.val (.ref a1), .val (.int (7 : Int32))] [])
  refine Go.by (fun t k => XS.iloadN X0.here hx rfl (hb hby od_m_3_65) rfl (XS.iconst X0.here hx rfl (hb hby od_m_3_66) (XS.icmpYes X0.here hx rfl (pc0 := 67) (pc' := 99) rfl (hb hby od_m_3_67) rfl (feq (show ¬ ((7 : Int32) = (3 : Int32)) from (by decide))).2 (by decide) (by decide) k))) ?_
  show Go p e below _ s₁ (mkF m 99 #[.val (.ref a1), .val (.int (7 : Int32))] [])
  refine Go.by (fun t k => XS.iloadN X0.here hx rfl (hb hby od_m_3_99) rfl (XS.iconst X0.here hx rfl (hb hby od_m_3_100) (XS.icmpYes X0.here hx rfl (pc0 := 101) (pc' := 139) rfl (hb hby od_m_3_101) rfl (feq (show ¬ ((7 : Int32) = (4 : Int32)) from (by decide))).2 (by decide) (by decide) k))) ?_
  show Go p e below _ s₁ (mkF m 139 #[.val (.ref a1), .val (.int (7 : Int32))] [])
  refine Go.by (fun t k => XS.iloadN X0.here hx rfl (hb hby od_m_3_139) rfl (XS.iconst X0.here hx rfl (hb hby od_m_3_140) (XS.icmpYes X0.here hx rfl (pc0 := 141) (pc' := 185) rfl (hb hby od_m_3_141) rfl (feq (show ¬ ((7 : Int32) = (5 : Int32)) from (by decide))).2 (by decide) (by decide) k))) ?_
  show Go p e below _ s₁ (mkF m 185 #[.val (.ref a1), .val (.int (7 : Int32))] [])
  refine Go.by (fun t k => XS.iloadN X0.here hx rfl (hb hby od_m_3_185) rfl (XS.bipush X0.here hx rfl (hb hby od_m_3_186) (XS.icmpYes X0.here hx rfl (pc0 := 188) (pc' := 239) rfl (hb hby od_m_3_188) rfl (feq (show ¬ ((7 : Int32) = (6 : Int32)) from (by decide))).2 (by decide) (by decide) k))) ?_
  show Go p e below _ s₁ (mkF m 239 #[.val (.ref a1), .val (.int (7 : Int32))] [])
  obtain ⟨T273, h273, X273, e273, E273, A273, D273, U273, st273⟩ := newO X0 hx hZ hown (ow5 hw) (ow6 hw) (ow7 hw) e0 (g := (mkF m 239 #[.val (.ref a1), .val (.int (7 : Int32))] [])) rfl (hb hby od_m_3_239) (by decide) (by decide)
  obtain ⟨b273, g273⟩ : ∃ z, z = h0.size := ⟨_, rfl⟩
  rw [← g273] at A273 D273 U273 st273
  refine Go.by st273 ?_
  have K274 : Keep h0 h273 [] := K0.ext E273
  have O274 : Old Z n0 h273 := X00.ext E273
  show Go p e below _ T273 (mkF m 242 #[.val (.ref a1), .val (.int (7 : Int32))] [(.ref b273)])
  refine Go.by (fun t k => XS.dup X273.here hx rfl (hb hby od_m_3_242) rfl rfl (XS.bipush X273.here hx rfl (hb hby od_m_3_243) k)) ?_
  show Go p e below _ T273 (mkF m 245 #[.val (.ref a1), .val (.int (7 : Int32))] [(.int (7 : Int32)), (.ref b273), (.ref b273)])
  obtain ⟨T275, h275, k275, X275, e275, E275, A275, st275⟩ := newP X273 hx hZ (aty := .char) (ow0 hw) e273 (g := (mkF m 245 #[.val (.ref a1), .val (.int (7 : Int32))] [(.int (7 : Int32)), (.ref b273), (.ref b273)])) rfl (hb hby od_m_3_245) rfl (by decide) (cap := 7) (by decide) (by decide) (by decide) (by decide)
  obtain ⟨b275, g275⟩ : ∃ z, z = h273.size := ⟨_, rfl⟩
  rw [← g275] at A275 st275
  refine Go.by st275 ?_
  have K276 : Keep h0 h275 [] := K274.ext E275
  have O276 : Old Z n0 h275 := O274.ext E275
  show Go p e below _ T275 (mkF m 247 #[.val (.ref a1), .val (.int (7 : Int32))] [(.ref b275), (.ref b273), (.ref b273)])
  have V275 : Arv Z h275 b275 k275 .char (7 : Int32) [(.int (0 : Int32)), (.int (0 : Int32)), (.int (0 : Int32)), (.int (0 : Int32)), (.int (0 : Int32)), (.int (0 : Int32)), (.int (0 : Int32))] (.int (0 : Int32)) := (Arv.new A275 (by decide)).pad (pad_rep [] (.int (0 : Int32)) 7)
  refine Go.by (fun t k => XS.dup X275.here hx rfl (hb hby od_m_3_247) rfl rfl (XS.iconst X275.here hx rfl (hb hby od_m_3_248) (XS.aloadN X275.here hx rfl (hb hby od_m_3_249) rfl rfl (XS.iconst X275.here hx rfl (hb hby od_m_3_250) k)))) ?_
  show Go p e below _ T275 (mkF m 251 #[.val (.ref a1), .val (.int (7 : Int32))] [(.int (0 : Int32)), (.ref a1), (.int (0 : Int32)), (.ref b275), (.ref b275), (.ref b273), (.ref b273)])
  have F278 : Arv Z h275 a1 k1 .char (7 : Int32) ([(.int c0), (.int c1), (.int c2), (.int c3), (.int c4), (.int c5), (.int c6)]) (.int (0 : Int32)) := ((V1.ext E273).ext E275)
  obtain ⟨c277, A277, q277, S277, M277, G277, J277⟩ := id F278
  have i277 := inb_of S277 (j := (0 : Int32)) ⟨by decide, by decide⟩
  refine Go.by (X275.caload hx (j := (0 : Int32)) (v := (.int c0)) (by rw [e275]; exact A277.1) (State.isArrayOf_alike hZ.alike A277.2.1) A277.2.2 i277 (G277.at i277 rfl) (g := (mkF m 251 #[.val (.ref a1), .val (.int (7 : Int32))] [(.int (0 : Int32)), (.ref a1), (.int (0 : Int32)), (.ref b275), (.ref b275), (.ref b273), (.ref b273)])) rfl rfl (hb hby od_m_3_251)) ?_
  show Go p e below _ T275 (mkF m 252 #[.val (.ref a1), .val (.int (7 : Int32))] [(.int c0), (.int (0 : Int32)), (.ref b275), (.ref b275), (.ref b273), (.ref b273)])
  obtain ⟨c279, A279, q279, S279, M279, G279, J279⟩ := id V275
  obtain ⟨T279, h279, X279, e279, W279, st279⟩ := stC X275 hx hZ e275 A279 (j := (0 : Int32)) (inb_of S279 ⟨by decide, by decide⟩) (g := (mkF m 252 #[.val (.ref a1), .val (.int (7 : Int32))] [(.int c0), (.int (0 : Int32)), (.ref b275), (.ref b275), (.ref b273), (.ref b273)])) rfl rfl (hb hby od_m_3_252)
  refine Go.by st279 ?_
  have N279 := Fr.snoc X279 N0 (Nat.le_trans (Nat.le_trans Z0 E273.1) (Nat.le_of_eq g275.symm))
  have K280 : Keep h0 h279 [] := K276.wr W279 (Or.inr (Nat.le_trans E273.1 (Nat.le_of_eq g275.symm)))
  have O280 : Old Z n0 h279 := O276.wr W279 (Nat.le_trans (Nat.le_trans Z0 E273.1) (Nat.le_of_eq g275.symm))
  show Go p e below _ T279 (mkF m 253 #[.val (.ref a1), .val (.int (7 : Int32))] [(.ref b275), (.ref b273), (.ref b273)])
  have V279 : Arv Z h279 b275 k275 .char (7 : Int32) ([(.int (nar .char c0)), (.int (0 : Int32)), (.int (0 : Int32)), (.int (0 : Int32)), (.int (0 : Int32)), (.int (0 : Int32)), (.int (0 : Int32))]) (.int (0 : Int32)) := Arv.set A279 q279 S279 M279 G279 J279 (fits_nar_char _) W279 0 rfl (Nat.le_of_ble_eq_true rfl)
  rw [e_0] at V279
  refine Go.by (fun t k => XS.dup X279.here hx rfl (hb hby od_m_3_253) rfl rfl (XS.iconst X279.here hx rfl (hb hby od_m_3_254) (XS.aloadN X279.here hx rfl (hb hby od_m_3_255) rfl rfl (XS.iconst X279.here hx rfl (hb hby od_m_3_256) k)))) ?_
  show Go p e below _ T279 (mkF m 257 #[.val (.ref a1), .val (.int (7 : Int32))] [(.int (1 : Int32)), (.ref a1), (.int (1 : Int32)), (.ref b275), (.ref b275), (.ref b273), (.ref b273)])
  have F282 : Arv Z h279 a1 k1 .char (7 : Int32) ([(.int c0), (.int c1), (.int c2), (.int c3), (.int c4), (.int c5), (.int c6)]) (.int (0 : Int32)) := (F278.other W279 (Nat.ne_of_lt (Nat.lt_of_lt_of_le (V1.ext E273).lt (Nat.le_of_eq g275.symm))))
  obtain ⟨c281, A281, q281, S281, M281, G281, J281⟩ := id F282
  have i281 := inb_of S281 (j := (1 : Int32)) ⟨by decide, by decide⟩
  refine Go.by (X279.caload hx (j := (1 : Int32)) (v := (.int c1)) (by rw [e279]; exact A281.1) (State.isArrayOf_alike hZ.alike A281.2.1) A281.2.2 i281 (G281.at i281 rfl) (g := (mkF m 257 #[.val (.ref a1), .val (.int (7 : Int32))] [(.int (1 : Int32)), (.ref a1), (.int (1 : Int32)), (.ref b275), (.ref b275), (.ref b273), (.ref b273)])) rfl rfl (hb hby od_m_3_257)) ?_
  show Go p e below _ T279 (mkF m 258 #[.val (.ref a1), .val (.int (7 : Int32))] [(.int c1), (.int (1 : Int32)), (.ref b275), (.ref b275), (.ref b273), (.ref b273)])
  obtain ⟨c283, A283, q283, S283, M283, G283, J283⟩ := id V279
  obtain ⟨T283, h283, X283, e283, W283, st283⟩ := stC X279 hx hZ e279 A283 (j := (1 : Int32)) (inb_of S283 ⟨by decide, by decide⟩) (g := (mkF m 258 #[.val (.ref a1), .val (.int (7 : Int32))] [(.int c1), (.int (1 : Int32)), (.ref b275), (.ref b275), (.ref b273), (.ref b273)])) rfl rfl (hb hby od_m_3_258)
  refine Go.by st283 ?_
  have N283 := Fr.snoc X283 N279 (Nat.le_trans (Nat.le_trans Z0 E273.1) (Nat.le_of_eq g275.symm))
  have K284 : Keep h0 h283 [] := K280.wr W283 (Or.inr (Nat.le_trans E273.1 (Nat.le_of_eq g275.symm)))
  have O284 : Old Z n0 h283 := O280.wr W283 (Nat.le_trans (Nat.le_trans Z0 E273.1) (Nat.le_of_eq g275.symm))
  show Go p e below _ T283 (mkF m 259 #[.val (.ref a1), .val (.int (7 : Int32))] [(.ref b275), (.ref b273), (.ref b273)])
  have V283 : Arv Z h283 b275 k275 .char (7 : Int32) ([(.int c0), (.int (nar .char c1)), (.int (0 : Int32)), (.int (0 : Int32)), (.int (0 : Int32)), (.int (0 : Int32)), (.int (0 : Int32))]) (.int (0 : Int32)) := Arv.set A283 q283 S283 M283 G283 J283 (fits_nar_char _) W283 1 rfl (Nat.le_of_ble_eq_true rfl)
  rw [e_1] at V283
  refine Go.by (fun t k => XS.dup X283.here hx rfl (hb hby od_m_3_259) rfl rfl (XS.iconst X283.here hx rfl (hb hby od_m_3_260) (XS.aloadN X283.here hx rfl (hb hby od_m_3_261) rfl rfl (XS.iconst X283.here hx rfl (hb hby od_m_3_262) k)))) ?_
  show Go p e below _ T283 (mkF m 263 #[.val (.ref a1), .val (.int (7 : Int32))] [(.int (2 : Int32)), (.ref a1), (.int (2 : Int32)), (.ref b275), (.ref b275), (.ref b273), (.ref b273)])
  have F286 : Arv Z h283 a1 k1 .char (7 : Int32) ([(.int c0), (.int c1), (.int c2), (.int c3), (.int c4), (.int c5), (.int c6)]) (.int (0 : Int32)) := (F282.other W283 (Nat.ne_of_lt (Nat.lt_of_lt_of_le (V1.ext E273).lt (Nat.le_of_eq g275.symm))))
  obtain ⟨c285, A285, q285, S285, M285, G285, J285⟩ := id F286
  have i285 := inb_of S285 (j := (2 : Int32)) ⟨by decide, by decide⟩
  refine Go.by (X283.caload hx (j := (2 : Int32)) (v := (.int c2)) (by rw [e283]; exact A285.1) (State.isArrayOf_alike hZ.alike A285.2.1) A285.2.2 i285 (G285.at i285 rfl) (g := (mkF m 263 #[.val (.ref a1), .val (.int (7 : Int32))] [(.int (2 : Int32)), (.ref a1), (.int (2 : Int32)), (.ref b275), (.ref b275), (.ref b273), (.ref b273)])) rfl rfl (hb hby od_m_3_263)) ?_
  show Go p e below _ T283 (mkF m 264 #[.val (.ref a1), .val (.int (7 : Int32))] [(.int c2), (.int (2 : Int32)), (.ref b275), (.ref b275), (.ref b273), (.ref b273)])
  obtain ⟨c287, A287, q287, S287, M287, G287, J287⟩ := id V283
  obtain ⟨T287, h287, X287, e287, W287, st287⟩ := stC X283 hx hZ e283 A287 (j := (2 : Int32)) (inb_of S287 ⟨by decide, by decide⟩) (g := (mkF m 264 #[.val (.ref a1), .val (.int (7 : Int32))] [(.int c2), (.int (2 : Int32)), (.ref b275), (.ref b275), (.ref b273), (.ref b273)])) rfl rfl (hb hby od_m_3_264)
  refine Go.by st287 ?_
  have N287 := Fr.snoc X287 N283 (Nat.le_trans (Nat.le_trans Z0 E273.1) (Nat.le_of_eq g275.symm))
  have K288 : Keep h0 h287 [] := K284.wr W287 (Or.inr (Nat.le_trans E273.1 (Nat.le_of_eq g275.symm)))
  have O288 : Old Z n0 h287 := O284.wr W287 (Nat.le_trans (Nat.le_trans Z0 E273.1) (Nat.le_of_eq g275.symm))
  show Go p e below _ T287 (mkF m 265 #[.val (.ref a1), .val (.int (7 : Int32))] [(.ref b275), (.ref b273), (.ref b273)])
  have V287 : Arv Z h287 b275 k275 .char (7 : Int32) ([(.int c0), (.int c1), (.int (nar .char c2)), (.int (0 : Int32)), (.int (0 : Int32)), (.int (0 : Int32)), (.int (0 : Int32))]) (.int (0 : Int32)) := Arv.set A287 q287 S287 M287 G287 J287 (fits_nar_char _) W287 2 rfl (Nat.le_of_ble_eq_true rfl)
  rw [e_2] at V287
  refine Go.by (fun t k => XS.dup X287.here hx rfl (hb hby od_m_3_265) rfl rfl (XS.iconst X287.here hx rfl (hb hby od_m_3_266) (XS.aloadN X287.here hx rfl (hb hby od_m_3_267) rfl rfl (XS.iconst X287.here hx rfl (hb hby od_m_3_268) k)))) ?_
  show Go p e below _ T287 (mkF m 269 #[.val (.ref a1), .val (.int (7 : Int32))] [(.int (3 : Int32)), (.ref a1), (.int (3 : Int32)), (.ref b275), (.ref b275), (.ref b273), (.ref b273)])
  have F290 : Arv Z h287 a1 k1 .char (7 : Int32) ([(.int c0), (.int c1), (.int c2), (.int c3), (.int c4), (.int c5), (.int c6)]) (.int (0 : Int32)) := (F286.other W287 (Nat.ne_of_lt (Nat.lt_of_lt_of_le (V1.ext E273).lt (Nat.le_of_eq g275.symm))))
  obtain ⟨c289, A289, q289, S289, M289, G289, J289⟩ := id F290
  have i289 := inb_of S289 (j := (3 : Int32)) ⟨by decide, by decide⟩
  refine Go.by (X287.caload hx (j := (3 : Int32)) (v := (.int c3)) (by rw [e287]; exact A289.1) (State.isArrayOf_alike hZ.alike A289.2.1) A289.2.2 i289 (G289.at i289 rfl) (g := (mkF m 269 #[.val (.ref a1), .val (.int (7 : Int32))] [(.int (3 : Int32)), (.ref a1), (.int (3 : Int32)), (.ref b275), (.ref b275), (.ref b273), (.ref b273)])) rfl rfl (hb hby od_m_3_269)) ?_
  show Go p e below _ T287 (mkF m 270 #[.val (.ref a1), .val (.int (7 : Int32))] [(.int c3), (.int (3 : Int32)), (.ref b275), (.ref b275), (.ref b273), (.ref b273)])
  obtain ⟨c291, A291, q291, S291, M291, G291, J291⟩ := id V287
  obtain ⟨T291, h291, X291, e291, W291, st291⟩ := stC X287 hx hZ e287 A291 (j := (3 : Int32)) (inb_of S291 ⟨by decide, by decide⟩) (g := (mkF m 270 #[.val (.ref a1), .val (.int (7 : Int32))] [(.int c3), (.int (3 : Int32)), (.ref b275), (.ref b275), (.ref b273), (.ref b273)])) rfl rfl (hb hby od_m_3_270)
  refine Go.by st291 ?_
  have N291 := Fr.snoc X291 N287 (Nat.le_trans (Nat.le_trans Z0 E273.1) (Nat.le_of_eq g275.symm))
  have K292 : Keep h0 h291 [] := K288.wr W291 (Or.inr (Nat.le_trans E273.1 (Nat.le_of_eq g275.symm)))
  have O292 : Old Z n0 h291 := O288.wr W291 (Nat.le_trans (Nat.le_trans Z0 E273.1) (Nat.le_of_eq g275.symm))
  show Go p e below _ T291 (mkF m 271 #[.val (.ref a1), .val (.int (7 : Int32))] [(.ref b275), (.ref b273), (.ref b273)])
  have V291 : Arv Z h291 b275 k275 .char (7 : Int32) ([(.int c0), (.int c1), (.int c2), (.int (nar .char c3)), (.int (0 : Int32)), (.int (0 : Int32)), (.int (0 : Int32))]) (.int (0 : Int32)) := Arv.set A291 q291 S291 M291 G291 J291 (fits_nar_char _) W291 3 rfl (Nat.le_of_ble_eq_true rfl)
  rw [e_3] at V291
  refine Go.by (fun t k => XS.dup X291.here hx rfl (hb hby od_m_3_271) rfl rfl (XS.iconst X291.here hx rfl (hb hby od_m_3_272) (XS.aloadN X291.here hx rfl (hb hby od_m_3_273) rfl rfl (XS.iconst X291.here hx rfl (hb hby od_m_3_274) k)))) ?_
  show Go p e below _ T291 (mkF m 275 #[.val (.ref a1), .val (.int (7 : Int32))] [(.int (4 : Int32)), (.ref a1), (.int (4 : Int32)), (.ref b275), (.ref b275), (.ref b273), (.ref b273)])
  have F294 : Arv Z h291 a1 k1 .char (7 : Int32) ([(.int c0), (.int c1), (.int c2), (.int c3), (.int c4), (.int c5), (.int c6)]) (.int (0 : Int32)) := (F290.other W291 (Nat.ne_of_lt (Nat.lt_of_lt_of_le (V1.ext E273).lt (Nat.le_of_eq g275.symm))))
  obtain ⟨c293, A293, q293, S293, M293, G293, J293⟩ := id F294
  have i293 := inb_of S293 (j := (4 : Int32)) ⟨by decide, by decide⟩
  refine Go.by (X291.caload hx (j := (4 : Int32)) (v := (.int c4)) (by rw [e291]; exact A293.1) (State.isArrayOf_alike hZ.alike A293.2.1) A293.2.2 i293 (G293.at i293 rfl) (g := (mkF m 275 #[.val (.ref a1), .val (.int (7 : Int32))] [(.int (4 : Int32)), (.ref a1), (.int (4 : Int32)), (.ref b275), (.ref b275), (.ref b273), (.ref b273)])) rfl rfl (hb hby od_m_3_275)) ?_
  show Go p e below _ T291 (mkF m 276 #[.val (.ref a1), .val (.int (7 : Int32))] [(.int c4), (.int (4 : Int32)), (.ref b275), (.ref b275), (.ref b273), (.ref b273)])
  obtain ⟨c295, A295, q295, S295, M295, G295, J295⟩ := id V291
  obtain ⟨T295, h295, X295, e295, W295, st295⟩ := stC X291 hx hZ e291 A295 (j := (4 : Int32)) (inb_of S295 ⟨by decide, by decide⟩) (g := (mkF m 276 #[.val (.ref a1), .val (.int (7 : Int32))] [(.int c4), (.int (4 : Int32)), (.ref b275), (.ref b275), (.ref b273), (.ref b273)])) rfl rfl (hb hby od_m_3_276)
  refine Go.by st295 ?_
  have N295 := Fr.snoc X295 N291 (Nat.le_trans (Nat.le_trans Z0 E273.1) (Nat.le_of_eq g275.symm))
  have K296 : Keep h0 h295 [] := K292.wr W295 (Or.inr (Nat.le_trans E273.1 (Nat.le_of_eq g275.symm)))
  have O296 : Old Z n0 h295 := O292.wr W295 (Nat.le_trans (Nat.le_trans Z0 E273.1) (Nat.le_of_eq g275.symm))
  show Go p e below _ T295 (mkF m 277 #[.val (.ref a1), .val (.int (7 : Int32))] [(.ref b275), (.ref b273), (.ref b273)])
  have V295 : Arv Z h295 b275 k275 .char (7 : Int32) ([(.int c0), (.int c1), (.int c2), (.int c3), (.int (nar .char c4)), (.int (0 : Int32)), (.int (0 : Int32))]) (.int (0 : Int32)) := Arv.set A295 q295 S295 M295 G295 J295 (fits_nar_char _) W295 4 rfl (Nat.le_of_ble_eq_true rfl)
  rw [e_4] at V295
  refine Go.by (fun t k => XS.dup X295.here hx rfl (hb hby od_m_3_277) rfl rfl (XS.iconst X295.here hx rfl (hb hby od_m_3_278) (XS.aloadN X295.here hx rfl (hb hby od_m_3_279) rfl rfl (XS.iconst X295.here hx rfl (hb hby od_m_3_280) k)))) ?_
  show Go p e below _ T295 (mkF m 281 #[.val (.ref a1), .val (.int (7 : Int32))] [(.int (5 : Int32)), (.ref a1), (.int (5 : Int32)), (.ref b275), (.ref b275), (.ref b273), (.ref b273)])
  have F298 : Arv Z h295 a1 k1 .char (7 : Int32) ([(.int c0), (.int c1), (.int c2), (.int c3), (.int c4), (.int c5), (.int c6)]) (.int (0 : Int32)) := (F294.other W295 (Nat.ne_of_lt (Nat.lt_of_lt_of_le (V1.ext E273).lt (Nat.le_of_eq g275.symm))))
  obtain ⟨c297, A297, q297, S297, M297, G297, J297⟩ := id F298
  have i297 := inb_of S297 (j := (5 : Int32)) ⟨by decide, by decide⟩
  refine Go.by (X295.caload hx (j := (5 : Int32)) (v := (.int c5)) (by rw [e295]; exact A297.1) (State.isArrayOf_alike hZ.alike A297.2.1) A297.2.2 i297 (G297.at i297 rfl) (g := (mkF m 281 #[.val (.ref a1), .val (.int (7 : Int32))] [(.int (5 : Int32)), (.ref a1), (.int (5 : Int32)), (.ref b275), (.ref b275), (.ref b273), (.ref b273)])) rfl rfl (hb hby od_m_3_281)) ?_
  show Go p e below _ T295 (mkF m 282 #[.val (.ref a1), .val (.int (7 : Int32))] [(.int c5), (.int (5 : Int32)), (.ref b275), (.ref b275), (.ref b273), (.ref b273)])
  obtain ⟨c299, A299, q299, S299, M299, G299, J299⟩ := id V295
  obtain ⟨T299, h299, X299, e299, W299, st299⟩ := stC X295 hx hZ e295 A299 (j := (5 : Int32)) (inb_of S299 ⟨by decide, by decide⟩) (g := (mkF m 282 #[.val (.ref a1), .val (.int (7 : Int32))] [(.int c5), (.int (5 : Int32)), (.ref b275), (.ref b275), (.ref b273), (.ref b273)])) rfl rfl (hb hby od_m_3_282)
  refine Go.by st299 ?_
  have N299 := Fr.snoc X299 N295 (Nat.le_trans (Nat.le_trans Z0 E273.1) (Nat.le_of_eq g275.symm))
  have K300 : Keep h0 h299 [] := K296.wr W299 (Or.inr (Nat.le_trans E273.1 (Nat.le_of_eq g275.symm)))
  have O300 : Old Z n0 h299 := O296.wr W299 (Nat.le_trans (Nat.le_trans Z0 E273.1) (Nat.le_of_eq g275.symm))
  show Go p e below _ T299 (mkF m 283 #[.val (.ref a1), .val (.int (7 : Int32))] [(.ref b275), (.ref b273), (.ref b273)])
  have V299 : Arv Z h299 b275 k275 .char (7 : Int32) ([(.int c0), (.int c1), (.int c2), (.int c3), (.int c4), (.int (nar .char c5)), (.int (0 : Int32))]) (.int (0 : Int32)) := Arv.set A299 q299 S299 M299 G299 J299 (fits_nar_char _) W299 5 rfl (Nat.le_of_ble_eq_true rfl)
  rw [e_5] at V299
  refine Go.by (fun t k => XS.dup X299.here hx rfl (hb hby od_m_3_283) rfl rfl (XS.bipush X299.here hx rfl (hb hby od_m_3_284) (XS.aloadN X299.here hx rfl (hb hby od_m_3_286) rfl rfl (XS.bipush X299.here hx rfl (hb hby od_m_3_287) k)))) ?_
  show Go p e below _ T299 (mkF m 289 #[.val (.ref a1), .val (.int (7 : Int32))] [(.int (6 : Int32)), (.ref a1), (.int (6 : Int32)), (.ref b275), (.ref b275), (.ref b273), (.ref b273)])
  have F302 : Arv Z h299 a1 k1 .char (7 : Int32) ([(.int c0), (.int c1), (.int c2), (.int c3), (.int c4), (.int c5), (.int c6)]) (.int (0 : Int32)) := (F298.other W299 (Nat.ne_of_lt (Nat.lt_of_lt_of_le (V1.ext E273).lt (Nat.le_of_eq g275.symm))))
  obtain ⟨c301, A301, q301, S301, M301, G301, J301⟩ := id F302
  have i301 := inb_of S301 (j := (6 : Int32)) ⟨by decide, by decide⟩
  refine Go.by (X299.caload hx (j := (6 : Int32)) (v := (.int c6)) (by rw [e299]; exact A301.1) (State.isArrayOf_alike hZ.alike A301.2.1) A301.2.2 i301 (G301.at i301 rfl) (g := (mkF m 289 #[.val (.ref a1), .val (.int (7 : Int32))] [(.int (6 : Int32)), (.ref a1), (.int (6 : Int32)), (.ref b275), (.ref b275), (.ref b273), (.ref b273)])) rfl rfl (hb hby od_m_3_289)) ?_
  show Go p e below _ T299 (mkF m 290 #[.val (.ref a1), .val (.int (7 : Int32))] [(.int c6), (.int (6 : Int32)), (.ref b275), (.ref b275), (.ref b273), (.ref b273)])
  obtain ⟨c303, A303, q303, S303, M303, G303, J303⟩ := id V299
  obtain ⟨T303, h303, X303, e303, W303, st303⟩ := stC X299 hx hZ e299 A303 (j := (6 : Int32)) (inb_of S303 ⟨by decide, by decide⟩) (g := (mkF m 290 #[.val (.ref a1), .val (.int (7 : Int32))] [(.int c6), (.int (6 : Int32)), (.ref b275), (.ref b275), (.ref b273), (.ref b273)])) rfl rfl (hb hby od_m_3_290)
  refine Go.by st303 ?_
  have N303 := Fr.snoc X303 N299 (Nat.le_trans (Nat.le_trans Z0 E273.1) (Nat.le_of_eq g275.symm))
  have K304 : Keep h0 h303 [] := K300.wr W303 (Or.inr (Nat.le_trans E273.1 (Nat.le_of_eq g275.symm)))
  have O304 : Old Z n0 h303 := O300.wr W303 (Nat.le_trans (Nat.le_trans Z0 E273.1) (Nat.le_of_eq g275.symm))
  show Go p e below _ T303 (mkF m 291 #[.val (.ref a1), .val (.int (7 : Int32))] [(.ref b275), (.ref b273), (.ref b273)])
  have V303 : Arv Z h303 b275 k275 .char (7 : Int32) ([(.int c0), (.int c1), (.int c2), (.int c3), (.int c4), (.int c5), (.int (nar .char c6))]) (.int (0 : Int32)) := Arv.set A303 q303 S303 M303 G303 J303 (fits_nar_char _) W303 6 rfl (Nat.le_of_ble_eq_true rfl)
  rw [e_6] at V303
  have hp : ∀ c ∈ ([c0, c1, c2, c3, c4, c5, c6] : List Int32), ¬ c < 0 ∧ ¬ (255 : Int32) < c := by
    intro c hc; simp only [List.mem_cons, List.not_mem_nil, or_false] at hc; rcases hc with rfl | rfl | rfl | rfl | rfl | rfl | rfl
    · exact r0
    · exact r1
    · exact r2
    · exact r3
    · exact r4
    · exact r5
    · exact r6
  have hws : ∀ d ∈ StrChars.Road.words, d.before a0 Z = true := fun d hd => hw d ((by decide +kernel : ∀ d ∈ StrChars.Road.words, d ∈ tables_1) d hd)
  have F306 : Exa Z h303 b273 "java/lang/String" := ((((((((A273.ext E275).wr W279).wr W283).wr W287).wr W291).wr W295).wr W299).wr W303)
  have F307 : Fld Z h303 b273 "java/lang/String" "value" "[B" .null := (((((((((D273 (Or.inr (ow33 hw)) (ty := (.array .byte)) (by decide)).ext E275).other W279 (Or.inl (Nat.ne_of_lt (Nat.lt_of_lt_of_le A273.lt (Nat.le_of_eq g275.symm))))).other W283 (Or.inl (Nat.ne_of_lt (Nat.lt_of_lt_of_le A273.lt (Nat.le_of_eq g275.symm))))).other W287 (Or.inl (Nat.ne_of_lt (Nat.lt_of_lt_of_le A273.lt (Nat.le_of_eq g275.symm))))).other W291 (Or.inl (Nat.ne_of_lt (Nat.lt_of_lt_of_le A273.lt (Nat.le_of_eq g275.symm))))).other W295 (Or.inl (Nat.ne_of_lt (Nat.lt_of_lt_of_le A273.lt (Nat.le_of_eq g275.symm))))).other W299 (Or.inl (Nat.ne_of_lt (Nat.lt_of_lt_of_le A273.lt (Nat.le_of_eq g275.symm))))).other W303 (Or.inl (Nat.ne_of_lt (Nat.lt_of_lt_of_le A273.lt (Nat.le_of_eq g275.symm)))))
  have F308 : Fld Z h303 b273 "java/lang/String" "coder" "B" (.int (0 : Int32)) := (((((((((D273 (Or.inr (ow31 hw)) (ty := .byte) (by decide)).ext E275).other W279 (Or.inl (Nat.ne_of_lt (Nat.lt_of_lt_of_le A273.lt (Nat.le_of_eq g275.symm))))).other W283 (Or.inl (Nat.ne_of_lt (Nat.lt_of_lt_of_le A273.lt (Nat.le_of_eq g275.symm))))).other W287 (Or.inl (Nat.ne_of_lt (Nat.lt_of_lt_of_le A273.lt (Nat.le_of_eq g275.symm))))).other W291 (Or.inl (Nat.ne_of_lt (Nat.lt_of_lt_of_le A273.lt (Nat.le_of_eq g275.symm))))).other W295 (Or.inl (Nat.ne_of_lt (Nat.lt_of_lt_of_le A273.lt (Nat.le_of_eq g275.symm))))).other W299 (Or.inl (Nat.ne_of_lt (Nat.lt_of_lt_of_le A273.lt (Nat.le_of_eq g275.symm))))).other W303 (Or.inl (Nat.ne_of_lt (Nat.lt_of_lt_of_le A273.lt (Nat.le_of_eq g275.symm)))))
  obtain ⟨_, _, ⟨T305, L305, k305, n305⟩, -, X305, ⟨Lc305, hQ305, l305, y305, z305⟩, st305⟩ := X303.specialBack hx (y := (⟨"java/lang/String", "<init>", "([C)V"⟩ : MethodName)) rfl hown (mvT hZ (ow8 hw)) (mvT hZ (ow9 hw)) (mvT hZ (ow10 hw)) (by decide) (StrChars.Road.backV (W := 1) hZ hws (kI := 4) (ow6 hw) (cs := ([c0, c1, c2, c3, c4, c5, c6] : List Int32)) (bs := ([c0, c1, c2, c3, c4, c5, c6] : List Int32).map (fun c => c.toInt8.toInt32)) (n := 7) (Nat.le_trans (Nat.le_trans Z0 (Nat.le_refl _)) (Nat.le_of_eq g273.symm)) (Nat.le_trans Z0 (Nat.le_trans (Nat.le_trans (Nat.le_trans (Nat.le_trans (Nat.le_trans (Nat.le_trans (Nat.le_trans (Nat.le_trans E273.1 E275.1) (Keep.of_wr W279).1) (Keep.of_wr W283).1) (Keep.of_wr W287).1) (Keep.of_wr W291).1) (Keep.of_wr W295).1) (Keep.of_wr W299).1) (Keep.of_wr W303).1)) F306 F307 F308 V303 (O2.ext O304.2) P5 rfl rfl (by decide) (by decide) hp rfl (by decide) (by decide)) (g := (mkF m 291 #[.val (.ref a1), .val (.int (7 : Int32))] [(.ref b275), (.ref b273), (.ref b273)])) rfl (by rw [hml]; rfl) (Steps.refl _) (a := b273) (argsL := [(.ref b275)]) (rest := [(.ref b273)]) (lenOf opd_1 rfl) rfl (by show 2 * 0 + _ ≤ _; exact Nat.le_of_eq rfl) (hb hby od_m_3_291) (fun _ _ => ⟨rfl, e303, (by decide : 2 + 1 ≤ _), (by decide : 11 + 7 ≤ _)⟩)
  dsimp only [Pt.U, Pt.locs, Pt.cells, Pt.slots] at X305 l305 y305 z305 st305 hQ305
  subst l305 y305 z305
  obtain ⟨rfl, N305q, K305q, PE305, PC305, t305, kb305, -, u305, v305, PV305, PA305⟩ := hQ305
  have N305 := Fr.app N303 N305q
  refine Go.tr st305 ?_
  have K309 : Keep h0 T305.heap [] := K304.trans K305q (allS (Or.inr (Nat.le_trans (Nat.le_refl _) (Nat.le_of_eq g273.symm))) all0)
  have O309 : Old Z n0 T305.heap := O304.keep K305q (allS (Nat.le_trans (Nat.le_trans Z0 (Nat.le_refl _)) (Nat.le_of_eq g273.symm)) all0)
  show Go p e below _ T305 (mkF m 294 #[.val (.ref a1), .val (.int (7 : Int32))] [(.ref b273)])
  exact Go.retR X305 hx hret rfl rfl rfl hlk (hb hby od_m_3_294) ⟨b273, t305, kb305, rfl, N305, K309, (Nat.le_trans (Nat.le_refl _) (Nat.le_of_eq g273.symm)), PE305, PC305, PV305, PA305⟩ (by decide) (by decide)
def Q_oempty (Z : State) (em : Addr) (h0 : Heap) (n0 : Nat) (rv : Option Value) (hE : Heap) (LE : List Loc) : Prop := rv = some (.ref em) ∧ Fr n0 LE ∧ hE = h0
set_option maxRecDepth 65536 in
set_option maxHeartbeats 40000000 in
theorem rm_oempty (l : Launch) (Z : State) (a0 : Array Value) (hw : HW a0 Z) (ws : List Jvm.Cond) (em : Addr) (h0 : Heap) (n0 : Nat) (Z0 : n0 ≤ h0.size) (O6 : Sta Z Z.heap "java/util/Optional" "EMPTY" "Ljava/util/Optional;" (.ref em)) (X00 : Old Z n0 h0) :
    MetFree l (⟨"java/util/Optional", "empty", "()Ljava/util/Optional;"⟩ : MethodName) (head1 (Jvm.Cond.code (⟨"java/util/Optional", "empty", "()Ljava/util/Optional;"⟩ : MethodName) jdk_32_method_1_code 1 (Option.some (Jvm.ClassFile.FieldType.object "java/util/Optional")) :: ws) ({ frames := 0, cells := 0, slots := 0, locals := 0 } : Room)) (fun a U => a = #[] ∧ Z.Warmed39 U.vm ∧ U.heap = h0) (fun _ _ _ _ _ => True) (fun _ U o U' => Out U (Q_oempty Z em h0 n0) ({ frames := 0, cells := 0, slots := 0, locals := 0 } : Room).cells ({ frames := 0, cells := 0, slots := 0, locals := 0 } : Room).slots o U') := by
  refine MetFree.of_bodySF (plainFor_of_name opn_2) hisR ?_
  intro p e s m args below meth c s₁ Bd hml0 hP hK
  obtain ⟨rfl, hZ, hh⟩ := hP
  have hx := Bd.exec
  have hby := Bd.bytes
  have hml : c.maxLocals = 1 := hml0
  have hret := Bd.returns
  have hlk : meth.locks = false := BodyLoose.notSynchronized Bd
  have hown : s.vm.findClass "java/util/Optional" = some m.cls := findClass_of_methodNamed Bd.named
  have hnm := (name_of_methodNamed Bd.named Bd.method).1
  have X0 : Stand p l e ({ frames := 0, cells := 0, slots := 0, locals := 0 } : Room) s m #[] below meth c s₁ [] 0 0 := Stand.of_body Bd
  have e0 : s₁.heap = h0 := by rw [← hh, Bd.state]; rfl
  have N0 := Fr.nil n0
  show Go p e below (Out s (Q_oempty Z em h0 n0) ({ frames := 0, cells := 0, slots := 0, locals := 0 } : Room).cells ({ frames := 0, cells := 0, slots := 0, locals := 0 } : Room).slots) s₁ (entryFrame m #[] 1)
  refine Go.cast (oef_oempty m ) ?_
  show Go p e below _ s₁ (mkF m 0 #[.unset] [])
  obtain ⟨T310, X310, e310, st310⟩ := getS2 X0 hx hZ hown (host := "") (Or.inl (ow56 hw)) Via.refl e0 (O6.ext X00.2) (g := (mkF m 0 #[.unset] [])) rfl (hb hby od_jdk_32_m_1_0)
  refine Go.by st310 ?_
  show Go p e below _ T310 (mkF m 3 #[.unset] [(.ref em)])
  refine Go.by (fun t k => XS.astoreN X310.here hx rfl (hb hby od_jdk_32_m_1_3) rfl rfl (l' := #[.val (.ref em)]) rfl (XS.aloadN X310.here hx rfl (hb hby od_jdk_32_m_1_4) rfl rfl k)) ?_
  show Go p e below _ T310 (mkF m 5 #[.val (.ref em)] [(.ref em)])
  exact Go.retR X310 hx hret rfl rfl rfl hlk (hb hby od_jdk_32_m_1_5) (by first | (rw [e310]; exact ⟨rfl, N0, rfl⟩) | exact ⟨rfl, N0, rfl⟩) (by decide) (by decide)
def Q_rnn (Z : State) (a1 : Addr) (h0 : Heap) (n0 : Nat) (rv : Option Value) (hE : Heap) (LE : List Loc) : Prop := rv = some (.ref a1) ∧ Fr n0 LE ∧ hE = h0
set_option maxRecDepth 65536 in
set_option maxHeartbeats 40000000 in
theorem rm_rnn (l : Launch) (Z : State) (a0 : Array Value) (hw : HW a0 Z) (ws : List Jvm.Cond) (a1 : Addr) (h0 : Heap) (n0 : Nat) (Z0 : n0 ≤ h0.size)  :
    MetFree l (⟨"java/util/Objects", "requireNonNull", "(Ljava/lang/Object;)Ljava/lang/Object;"⟩ : MethodName) (head1 (Jvm.Cond.code (⟨"java/util/Objects", "requireNonNull", "(Ljava/lang/Object;)Ljava/lang/Object;"⟩ : MethodName) jdk_31_method_10_code 1 (Option.some (Jvm.ClassFile.FieldType.object "java/lang/Object")) :: ws) ({ frames := 0, cells := 0, slots := 0, locals := 0 } : Room)) (fun a U => a = #[(.ref a1)] ∧ Z.Warmed39 U.vm ∧ U.heap = h0) (fun _ _ _ _ _ => True) (fun _ U o U' => Out U (Q_rnn Z a1 h0 n0) ({ frames := 0, cells := 0, slots := 0, locals := 0 } : Room).cells ({ frames := 0, cells := 0, slots := 0, locals := 0 } : Room).slots o U') := by
  refine MetFree.of_bodySF (plainFor_of_name opn_3) hisR ?_
  intro p e s m args below meth c s₁ Bd hml0 hP hK
  obtain ⟨rfl, hZ, hh⟩ := hP
  have hx := Bd.exec
  have hby := Bd.bytes
  have hml : c.maxLocals = 1 := hml0
  have hret := Bd.returns
  have hlk : meth.locks = false := BodyLoose.notSynchronized Bd
  have hown : s.vm.findClass "java/util/Objects" = some m.cls := findClass_of_methodNamed Bd.named
  have hnm := (name_of_methodNamed Bd.named Bd.method).1
  have X0 : Stand p l e ({ frames := 0, cells := 0, slots := 0, locals := 0 } : Room) s m #[(.ref a1)] below meth c s₁ [] 0 0 := Stand.of_body Bd
  have e0 : s₁.heap = h0 := by rw [← hh, Bd.state]; rfl
  have N0 := Fr.nil n0
  show Go p e below (Out s (Q_rnn Z a1 h0 n0) ({ frames := 0, cells := 0, slots := 0, locals := 0 } : Room).cells ({ frames := 0, cells := 0, slots := 0, locals := 0 } : Room).slots) s₁ (entryFrame m #[(.ref a1)] 1)
  refine Go.cast (oef_rnn m a1) ?_
  show Go p e below _ s₁ (mkF m 0 #[.val (.ref a1)] [])
  refine Go.by (fun t k => XS.aloadN X0.here hx rfl (hb hby od_jdk_31_m_10_0) rfl rfl (XS.ifnonnullYes X0.here hx rfl (pc0 := 1) (pc' := 12) rfl (hb hby od_jdk_31_m_10_1) rfl (by decide) (by decide) (XS.aloadN X0.here hx rfl (hb hby od_jdk_31_m_10_12) rfl rfl k))) ?_
  show Go p e below _ s₁ (mkF m 13 #[.val (.ref a1)] [(.ref a1)])
  exact Go.retR X0 hx hret rfl rfl rfl hlk (hb hby od_jdk_31_m_10_13) (by first | (rw [e0]; exact ⟨rfl, N0, rfl⟩) | exact ⟨rfl, N0, rfl⟩) (by decide) (by decide)
def Q_oinit (Z : State) (a1 : Addr) (a2 : Addr) (h0 : Heap) (n0 : Nat) (rv : Option Value) (hE : Heap) (LE : List Loc) : Prop := rv = none ∧ Fr n0 LE ∧ Keep h0 hE [a1] ∧ (Exa Z hE a1 "java/util/Optional") ∧ (Fld Z hE a1 "java/util/Optional" "value" "Ljava/lang/Object;" (.ref a2))
set_option maxRecDepth 65536 in
set_option maxHeartbeats 40000000 in
theorem rm_oinit (l : Launch) (Z : State) (a0 : Array Value) (hw : HW a0 Z) (ws : List Jvm.Cond) (a1 : Addr) (a2 : Addr) (h0 : Heap) (n0 : Nat) (Z0 : n0 ≤ h0.size) (E1 : Exa Z h0 a1 "java/util/Optional") (g_a1 : n0 ≤ a1) (F1 : Fld Z h0 a1 "java/util/Optional" "value" "Ljava/lang/Object;" .null) :
    MetFree l (⟨"java/util/Optional", "<init>", "(Ljava/lang/Object;)V"⟩ : MethodName) (head1 (Jvm.Cond.code (⟨"java/util/Optional", "<init>", "(Ljava/lang/Object;)V"⟩ : MethodName) jdk_32_method_2_code 2 (Option.none : Option Jvm.ClassFile.FieldType) :: ws) ({ frames := 1, cells := 0, slots := 0, locals := 12 } : Room)) (fun a U => a = #[(.ref a1), (.ref a2)] ∧ Z.Warmed39 U.vm ∧ U.heap = h0) (fun _ _ _ _ _ => True) (fun _ U o U' => Out U (Q_oinit Z a1 a2 h0 n0) ({ frames := 1, cells := 0, slots := 0, locals := 12 } : Room).cells ({ frames := 1, cells := 0, slots := 0, locals := 12 } : Room).slots o U') := by
  refine MetFree.of_bodySF (plainFor_of_name opn_2) hisR ?_
  intro p e s m args below meth c s₁ Bd hml0 hP hK
  obtain ⟨rfl, hZ, hh⟩ := hP
  have hx := Bd.exec
  have hby := Bd.bytes
  have hml : c.maxLocals = 2 := hml0
  have hret := Bd.returns
  have hlk : meth.locks = false := BodyLoose.notSynchronized Bd
  have hown : s.vm.findClass "java/util/Optional" = some m.cls := findClass_of_methodNamed Bd.named
  have hnm := (name_of_methodNamed Bd.named Bd.method).1
  have X0 : Stand p l e ({ frames := 1, cells := 0, slots := 0, locals := 12 } : Room) s m #[(.ref a1), (.ref a2)] below meth c s₁ [] 0 0 := Stand.of_body Bd
  have e0 : s₁.heap = h0 := by rw [← hh, Bd.state]; rfl
  have N0 := Fr.nil n0
  have K0 : Keep h0 h0 [a1] := Keep.refl h0 _
  show Go p e below (Out s (Q_oinit Z a1 a2 h0 n0) ({ frames := 1, cells := 0, slots := 0, locals := 12 } : Room).cells ({ frames := 1, cells := 0, slots := 0, locals := 12 } : Room).slots) s₁ (entryFrame m #[(.ref a1), (.ref a2)] 2)
  refine Go.cast (oef_oinit m a1 a2) ?_
  show Go p e below _ s₁ (mkF m 0 #[.val (.ref a1), .val (.ref a2)] [])
  refine Go.by (fun t k => XS.aloadN X0.here hx rfl (hb hby od_jdk_32_m_2_0) rfl rfl k) ?_
  show Go p e below _ s₁ (mkF m 1 #[.val (.ref a1), .val (.ref a2)] [(.ref a1)])
  obtain ⟨T311, X311, e311, st311⟩ := initO X0 hx hZ hown (ow98 hw) (ow16 hw) (ow17 hw) e0 (g := (mkF m 1 #[.val (.ref a1), .val (.ref a2)] [(.ref a1)])) rfl (by rw [hml]; rfl) rfl (hb hby od_jdk_32_m_2_1) (by decide) (W := 0) (by show 2 * 0 + _ ≤ _; exact Nat.le_of_eq rfl) (by decide)
  refine Go.by st311 ?_
  show Go p e below _ T311 (mkF m 4 #[.val (.ref a1), .val (.ref a2)] [])
  refine Go.by (fun t k => XS.aloadN X311.here hx rfl (hb hby od_jdk_32_m_2_4) rfl rfl (XS.aloadN X311.here hx rfl (hb hby od_jdk_32_m_2_5) rfl rfl k)) ?_
  show Go p e below _ T311 (mkF m 6 #[.val (.ref a1), .val (.ref a2)] [(.ref a2), (.ref a1)])
  obtain ⟨T312, h312, X312, e312, W312, st312⟩ := putF X311 hx hZ hown (host := "") (Or.inl (ow82 hw)) Via.refl e311 F1 E1 (Or.inr ⟨(ow83 hw), rfl, hnm⟩) (ow89 hw) (ty := (.object "java/lang/Object")) (by decide) rfl rfl (g := (mkF m 6 #[.val (.ref a1), .val (.ref a2)] [(.ref a2), (.ref a1)])) rfl rfl (hb hby od_jdk_32_m_2_6)
  refine Go.by st312 ?_
  have N312 := Fr.snoc X312 N0 g_a1
  have K313 : Keep h0 h312 [a1] := K0.wr W312 (Or.inl (List.mem_of_getElem? (i := 0) rfl))
  show Go p e below _ T312 (mkF m 9 #[.val (.ref a1), .val (.ref a2)] [])
  have F314 : Exa Z h312 a1 "java/util/Optional" := (E1.wr W312)
  exact Go.ret0 X312 hx hret hlk (hb hby od_jdk_32_m_2_9) (by first | (rw [e312]; exact ⟨rfl, N312, K313, F314, (F1.same W312)⟩) | exact ⟨rfl, N312, K313, F314, (F1.same W312)⟩) (by decide) (by decide)
def Q_oof (Z : State) (a2 : Addr) (h0 : Heap) (n0 : Nat) (rv : Option Value) (hE : Heap) (LE : List Loc) : Prop := ∃ bo : Addr, rv = some (.ref bo) ∧ Fr n0 LE ∧ Keep h0 hE [] ∧ (h0.size ≤ bo) ∧ (Exa Z hE bo "java/util/Optional") ∧ (Fld Z hE bo "java/util/Optional" "value" "Ljava/lang/Object;" (.ref a2))
set_option maxRecDepth 65536 in
set_option maxHeartbeats 40000000 in
theorem rm_oof (l : Launch) (Z : State) (a0 : Array Value) (hw : HW a0 Z) (ws : List Jvm.Cond) (a2 : Addr) (h0 : Heap) (n0 : Nat) (Z0 : n0 ≤ h0.size)  :
    MetFree l (⟨"java/util/Optional", "of", "(Ljava/lang/Object;)Ljava/util/Optional;"⟩ : MethodName) (head1 (Jvm.Cond.code (⟨"java/util/Optional", "of", "(Ljava/lang/Object;)Ljava/util/Optional;"⟩ : MethodName) jdk_32_method_3_code 1 (Option.some (Jvm.ClassFile.FieldType.object "java/util/Optional")) :: ws) ({ frames := 2, cells := 1, slots := 1, locals := 27 } : Room)) (fun a U => a = #[(.ref a2)] ∧ Z.Warmed39 U.vm ∧ U.heap = h0) (fun _ _ _ _ _ => True) (fun _ U o U' => Out U (Q_oof Z a2 h0 n0) ({ frames := 2, cells := 1, slots := 1, locals := 27 } : Room).cells ({ frames := 2, cells := 1, slots := 1, locals := 27 } : Room).slots o U') := by
  refine MetFree.of_bodySF (plainFor_of_name opn_2) hisR ?_
  intro p e s m args below meth c s₁ Bd hml0 hP hK
  obtain ⟨rfl, hZ, hh⟩ := hP
  have hx := Bd.exec
  have hby := Bd.bytes
  have hml : c.maxLocals = 1 := hml0
  have hret := Bd.returns
  have hlk : meth.locks = false := BodyLoose.notSynchronized Bd
  have hown : s.vm.findClass "java/util/Optional" = some m.cls := findClass_of_methodNamed Bd.named
  have hnm := (name_of_methodNamed Bd.named Bd.method).1
  have X0 : Stand p l e ({ frames := 2, cells := 1, slots := 1, locals := 27 } : Room) s m #[(.ref a2)] below meth c s₁ [] 0 0 := Stand.of_body Bd
  have e0 : s₁.heap = h0 := by rw [← hh, Bd.state]; rfl
  have N0 := Fr.nil n0
  have K0 : Keep h0 h0 [] := Keep.refl h0 _
  show Go p e below (Out s (Q_oof Z a2 h0 n0) ({ frames := 2, cells := 1, slots := 1, locals := 27 } : Room).cells ({ frames := 2, cells := 1, slots := 1, locals := 27 } : Room).slots) s₁ (entryFrame m #[(.ref a2)] 1)
  refine Go.cast (oef_oof m a2) ?_
  show Go p e below _ s₁ (mkF m 0 #[.val (.ref a2)] [])
  obtain ⟨T315, h315, X315, e315, E315, A315, D315, U315, st315⟩ := newO X0 hx hZ hown (ow88 hw) (ow89 hw) (ow54 hw) e0 (g := (mkF m 0 #[.val (.ref a2)] [])) rfl (hb hby od_jdk_32_m_3_0) (by decide) (by decide)
  obtain ⟨b315, g315⟩ : ∃ z, z = h0.size := ⟨_, rfl⟩
  rw [← g315] at A315 D315 U315 st315
  refine Go.by st315 ?_
  have K316 : Keep h0 h315 [] := K0.ext E315
  show Go p e below _ T315 (mkF m 3 #[.val (.ref a2)] [(.ref b315)])
  refine Go.by (fun t k => XS.dup X315.here hx rfl (hb hby od_jdk_32_m_3_3) rfl rfl (XS.aloadN X315.here hx rfl (hb hby od_jdk_32_m_3_4) rfl rfl k)) ?_
  show Go p e below _ T315 (mkF m 5 #[.val (.ref a2)] [(.ref a2), (.ref b315), (.ref b315)])
  obtain ⟨_, _, ⟨T317, L317, k317, n317⟩, -, X317, ⟨Lc317, hQ317, l317, y317, z317⟩, st317⟩ := Jvm.LawKit.callS X315 hx (y := (⟨"java/util/Objects", "requireNonNull", "(Ljava/lang/Object;)Ljava/lang/Object;"⟩ : MethodName)) hown (mvT hZ (ow90 hw)) (mvT hZ (ow91 hw)) (mvT hZ (ow92 hw)) (mvT hZ (ow93 hw)) (by decide) (backOf (W := 2) (rm_rnn l Z a0 hw [] a2 h315 n0 (Nat.le_trans Z0 E315.1) ) hZ (ow93 hw) (ow92 hw) (by decide) (by decide)) (g := (mkF m 5 #[.val (.ref a2)] [(.ref a2), (.ref b315), (.ref b315)])) rfl (by rw [hml]; rfl) (argsL := [(.ref a2)]) (rest := [(.ref b315), (.ref b315)]) (lenOf opd_2 rfl) rfl (by show 2 * 0 + _ ≤ _; exact Nat.le_of_eq rfl) (hb hby od_jdk_32_m_3_5) (fun _ _ => ⟨rfl, e315, (by decide : 1 + 0 ≤ _), (by decide : 1 + 0 ≤ _)⟩)
  dsimp only [Pt.U, Pt.locs, Pt.cells, Pt.slots] at X317 l317 y317 z317 st317 hQ317
  subst l317 y317 z317
  obtain ⟨rfl, N317q, e317⟩ := hQ317
  have N317 := Fr.app N0 N317q
  refine Go.by st317 ?_
  show Go p e below _ T317 (mkF m 8 #[.val (.ref a2)] [(.ref a2), (.ref b315), (.ref b315)])
  obtain ⟨_, _, ⟨T318, L318, k318, n318⟩, -, X318, ⟨Lc318, hQ318, l318, y318, z318⟩, st318⟩ := X317.specialBack hx (y := (⟨"java/util/Optional", "<init>", "(Ljava/lang/Object;)V"⟩ : MethodName)) rfl hown (mvT hZ (ow94 hw)) (mvT hZ (ow95 hw)) (mvT hZ (ow97 hw)) (by decide) (backOf (W := 1) (rm_oinit l Z a0 hw [] b315 a2 h315 n0 (Nat.le_trans Z0 E315.1) A315 ((Nat.le_trans (Nat.le_trans Z0 (Nat.le_refl _)) (Nat.le_of_eq g315.symm))) (D315 (Or.inr (ow83 hw)) (ty := (.object "java/lang/Object")) (by decide))) hZ (ow97 hw) (ow54 hw) (by decide) (by decide)) (g := (mkF m 8 #[.val (.ref a2)] [(.ref a2), (.ref b315), (.ref b315)])) rfl (by rw [hml]; rfl) (Steps.refl _) (a := b315) (argsL := [(.ref a2)]) (rest := [(.ref b315)]) (lenOf opd_3 rfl) rfl (by show 2 * 0 + _ ≤ _; exact Nat.le_of_eq rfl) (hb hby od_jdk_32_m_3_8) (fun _ _ => ⟨rfl, e317, (by decide : 1 + 0 ≤ _), (by decide : 1 + 0 ≤ _)⟩)
  dsimp only [Pt.U, Pt.locs, Pt.cells, Pt.slots] at X318 l318 y318 z318 st318 hQ318
  subst l318 y318 z318
  obtain ⟨rfl, N318q, K318q, P318_0, P318_1⟩ := hQ318
  have N318 := Fr.app N317 N318q
  refine Go.tr st318 ?_
  have K319 : Keep h0 T318.heap [] := K316.trans K318q (allS (Or.inr (Nat.le_trans (Nat.le_refl _) (Nat.le_of_eq g315.symm))) all0)
  show Go p e below _ T318 (mkF m 11 #[.val (.ref a2)] [(.ref b315)])
  exact Go.retR X318 hx hret rfl rfl rfl hlk (hb hby od_jdk_32_m_3_11) ⟨b315, rfl, N318, K319, (Nat.le_trans (Nat.le_refl _) (Nat.le_of_eq g315.symm)), P318_0, P318_1⟩ (by decide) (by decide)
def Q_isp0 (Z : State) (a1 : Addr) (h0 : Heap) (n0 : Nat) (rv : Option Value) (hE : Heap) (LE : List Loc) : Prop := rv = some (.int (0 : Int32)) ∧ Fr n0 LE ∧ hE = h0
set_option maxRecDepth 65536 in
set_option maxHeartbeats 40000000 in
theorem rm_isp0 (l : Launch) (Z : State) (a0 : Array Value) (hw : HW a0 Z) (ws : List Jvm.Cond) (a1 : Addr) (h0 : Heap) (n0 : Nat) (Z0 : n0 ≤ h0.size) (F1 : Fld Z h0 a1 "java/util/Optional" "value" "Ljava/lang/Object;" .null) :
    MetFree l (⟨"java/util/Optional", "isPresent", "()Z"⟩ : MethodName) (head1 (Jvm.Cond.code (⟨"java/util/Optional", "isPresent", "()Z"⟩ : MethodName) jdk_32_method_6_code 1 (Option.some Jvm.ClassFile.FieldType.boolean) :: ws) ({ frames := 0, cells := 0, slots := 0, locals := 0 } : Room)) (fun a U => a = #[(.ref a1)] ∧ Z.Warmed39 U.vm ∧ U.heap = h0) (fun _ _ _ _ _ => True) (fun _ U o U' => Out U (Q_isp0 Z a1 h0 n0) ({ frames := 0, cells := 0, slots := 0, locals := 0 } : Room).cells ({ frames := 0, cells := 0, slots := 0, locals := 0 } : Room).slots o U') := by
  refine MetFree.of_bodySF (plainFor_of_name opn_2) hisR ?_
  intro p e s m args below meth c s₁ Bd hml0 hP hK
  obtain ⟨rfl, hZ, hh⟩ := hP
  have hx := Bd.exec
  have hby := Bd.bytes
  have hml : c.maxLocals = 1 := hml0
  have hret := Bd.returns
  have hlk : meth.locks = false := BodyLoose.notSynchronized Bd
  have hown : s.vm.findClass "java/util/Optional" = some m.cls := findClass_of_methodNamed Bd.named
  have hnm := (name_of_methodNamed Bd.named Bd.method).1
  have X0 : Stand p l e ({ frames := 0, cells := 0, slots := 0, locals := 0 } : Room) s m #[(.ref a1)] below meth c s₁ [] 0 0 := Stand.of_body Bd
  have e0 : s₁.heap = h0 := by rw [← hh, Bd.state]; rfl
  have N0 := Fr.nil n0
  show Go p e below (Out s (Q_isp0 Z a1 h0 n0) ({ frames := 0, cells := 0, slots := 0, locals := 0 } : Room).cells ({ frames := 0, cells := 0, slots := 0, locals := 0 } : Room).slots) s₁ (entryFrame m #[(.ref a1)] 1)
  refine Go.cast (oef_isp0 m a1) ?_
  show Go p e below _ s₁ (mkF m 0 #[.val (.ref a1)] [])
  refine Go.by (fun t k => XS.aloadN X0.here hx rfl (hb hby od_jdk_32_m_6_0) rfl rfl k) ?_
  show Go p e below _ s₁ (mkF m 1 #[.val (.ref a1)] [(.ref a1)])
  obtain ⟨T320, X320, e320, st320⟩ := getF X0 hx hZ hown (host := "") (Or.inl (ow82 hw)) Via.refl e0 F1 (g := (mkF m 1 #[.val (.ref a1)] [(.ref a1)])) rfl rfl (hb hby od_jdk_32_m_6_1)
  refine Go.by st320 ?_
  show Go p e below _ T320 (mkF m 4 #[.val (.ref a1)] [.null])
  refine Go.by (fun t k => XS.ifnullYes X320.here hx rfl (pc0 := 4) (pc' := 11) rfl (hb hby od_jdk_32_m_6_4) rfl (by decide) (by decide) (XS.iconst X320.here hx rfl (hb hby od_jdk_32_m_6_11) k)) ?_
  show Go p e below _ T320 (mkF m 12 #[.val (.ref a1)] [(.int (0 : Int32))])
  exact Go.retN X320 hx (t := .boolean) hret (by simp) hlk (hb hby od_jdk_32_m_6_12) (by first | (rw [e320]; exact ⟨rfl, N0, rfl⟩) | exact ⟨rfl, N0, rfl⟩) (by decide) (by decide)
def Q_isp1 (Z : State) (a1 : Addr) (v1 : Addr) (h0 : Heap) (n0 : Nat) (rv : Option Value) (hE : Heap) (LE : List Loc) : Prop := rv = some (.int (1 : Int32)) ∧ Fr n0 LE ∧ hE = h0
set_option maxRecDepth 65536 in
set_option maxHeartbeats 40000000 in
theorem rm_isp1 (l : Launch) (Z : State) (a0 : Array Value) (hw : HW a0 Z) (ws : List Jvm.Cond) (a1 : Addr) (v1 : Addr) (h0 : Heap) (n0 : Nat) (Z0 : n0 ≤ h0.size) (F1 : Fld Z h0 a1 "java/util/Optional" "value" "Ljava/lang/Object;" (.ref v1)) :
    MetFree l (⟨"java/util/Optional", "isPresent", "()Z"⟩ : MethodName) (head1 (Jvm.Cond.code (⟨"java/util/Optional", "isPresent", "()Z"⟩ : MethodName) jdk_32_method_6_code 1 (Option.some Jvm.ClassFile.FieldType.boolean) :: ws) ({ frames := 0, cells := 0, slots := 0, locals := 0 } : Room)) (fun a U => a = #[(.ref a1)] ∧ Z.Warmed39 U.vm ∧ U.heap = h0) (fun _ _ _ _ _ => True) (fun _ U o U' => Out U (Q_isp1 Z a1 v1 h0 n0) ({ frames := 0, cells := 0, slots := 0, locals := 0 } : Room).cells ({ frames := 0, cells := 0, slots := 0, locals := 0 } : Room).slots o U') := by
  refine MetFree.of_bodySF (plainFor_of_name opn_2) hisR ?_
  intro p e s m args below meth c s₁ Bd hml0 hP hK
  obtain ⟨rfl, hZ, hh⟩ := hP
  have hx := Bd.exec
  have hby := Bd.bytes
  have hml : c.maxLocals = 1 := hml0
  have hret := Bd.returns
  have hlk : meth.locks = false := BodyLoose.notSynchronized Bd
  have hown : s.vm.findClass "java/util/Optional" = some m.cls := findClass_of_methodNamed Bd.named
  have hnm := (name_of_methodNamed Bd.named Bd.method).1
  have X0 : Stand p l e ({ frames := 0, cells := 0, slots := 0, locals := 0 } : Room) s m #[(.ref a1)] below meth c s₁ [] 0 0 := Stand.of_body Bd
  have e0 : s₁.heap = h0 := by rw [← hh, Bd.state]; rfl
  have N0 := Fr.nil n0
  show Go p e below (Out s (Q_isp1 Z a1 v1 h0 n0) ({ frames := 0, cells := 0, slots := 0, locals := 0 } : Room).cells ({ frames := 0, cells := 0, slots := 0, locals := 0 } : Room).slots) s₁ (entryFrame m #[(.ref a1)] 1)
  refine Go.cast (oef_isp1 m a1) ?_
  show Go p e below _ s₁ (mkF m 0 #[.val (.ref a1)] [])
  refine Go.by (fun t k => XS.aloadN X0.here hx rfl (hb hby od_jdk_32_m_6_0) rfl rfl k) ?_
  show Go p e below _ s₁ (mkF m 1 #[.val (.ref a1)] [(.ref a1)])
  obtain ⟨T321, X321, e321, st321⟩ := getF X0 hx hZ hown (host := "") (Or.inl (ow82 hw)) Via.refl e0 F1 (g := (mkF m 1 #[.val (.ref a1)] [(.ref a1)])) rfl rfl (hb hby od_jdk_32_m_6_1)
  refine Go.by st321 ?_
  show Go p e below _ T321 (mkF m 4 #[.val (.ref a1)] [(.ref v1)])
  refine Go.by (fun t k => XS.ifnullNo X321.here hx rfl (hb hby od_jdk_32_m_6_4) rfl (XS.iconst X321.here hx rfl (hb hby od_jdk_32_m_6_7) (XS.goto X321.here hx rfl (pc0 := 8) (pc' := 12) rfl (hb hby od_jdk_32_m_6_8) (by decide) (by decide) k))) ?_
  show Go p e below _ T321 (mkF m 12 #[.val (.ref a1)] [(.int (1 : Int32))])
  exact Go.retN X321 hx (t := .boolean) hret (by simp) hlk (hb hby od_jdk_32_m_6_12) (by first | (rw [e321]; exact ⟨rfl, N0, rfl⟩) | exact ⟨rfl, N0, rfl⟩) (by decide) (by decide)
def Q_oget (Z : State) (a1 : Addr) (v1 : Addr) (h0 : Heap) (n0 : Nat) (rv : Option Value) (hE : Heap) (LE : List Loc) : Prop := rv = some (.ref v1) ∧ Fr n0 LE ∧ hE = h0
set_option maxRecDepth 65536 in
set_option maxHeartbeats 40000000 in
theorem rm_oget (l : Launch) (Z : State) (a0 : Array Value) (hw : HW a0 Z) (ws : List Jvm.Cond) (a1 : Addr) (v1 : Addr) (h0 : Heap) (n0 : Nat) (Z0 : n0 ≤ h0.size) (F1 : Fld Z h0 a1 "java/util/Optional" "value" "Ljava/lang/Object;" (.ref v1)) :
    MetFree l (⟨"java/util/Optional", "get", "()Ljava/lang/Object;"⟩ : MethodName) (head1 (Jvm.Cond.code (⟨"java/util/Optional", "get", "()Ljava/lang/Object;"⟩ : MethodName) jdk_32_method_5_code 1 (Option.some (Jvm.ClassFile.FieldType.object "java/lang/Object")) :: ws) ({ frames := 0, cells := 0, slots := 0, locals := 0 } : Room)) (fun a U => a = #[(.ref a1)] ∧ Z.Warmed39 U.vm ∧ U.heap = h0) (fun _ _ _ _ _ => True) (fun _ U o U' => Out U (Q_oget Z a1 v1 h0 n0) ({ frames := 0, cells := 0, slots := 0, locals := 0 } : Room).cells ({ frames := 0, cells := 0, slots := 0, locals := 0 } : Room).slots o U') := by
  refine MetFree.of_bodySF (plainFor_of_name opn_2) hisR ?_
  intro p e s m args below meth c s₁ Bd hml0 hP hK
  obtain ⟨rfl, hZ, hh⟩ := hP
  have hx := Bd.exec
  have hby := Bd.bytes
  have hml : c.maxLocals = 1 := hml0
  have hret := Bd.returns
  have hlk : meth.locks = false := BodyLoose.notSynchronized Bd
  have hown : s.vm.findClass "java/util/Optional" = some m.cls := findClass_of_methodNamed Bd.named
  have hnm := (name_of_methodNamed Bd.named Bd.method).1
  have X0 : Stand p l e ({ frames := 0, cells := 0, slots := 0, locals := 0 } : Room) s m #[(.ref a1)] below meth c s₁ [] 0 0 := Stand.of_body Bd
  have e0 : s₁.heap = h0 := by rw [← hh, Bd.state]; rfl
  have N0 := Fr.nil n0
  show Go p e below (Out s (Q_oget Z a1 v1 h0 n0) ({ frames := 0, cells := 0, slots := 0, locals := 0 } : Room).cells ({ frames := 0, cells := 0, slots := 0, locals := 0 } : Room).slots) s₁ (entryFrame m #[(.ref a1)] 1)
  refine Go.cast (oef_oget m a1) ?_
  show Go p e below _ s₁ (mkF m 0 #[.val (.ref a1)] [])
  refine Go.by (fun t k => XS.aloadN X0.here hx rfl (hb hby od_jdk_32_m_5_0) rfl rfl k) ?_
  show Go p e below _ s₁ (mkF m 1 #[.val (.ref a1)] [(.ref a1)])
  obtain ⟨T322, X322, e322, st322⟩ := getF X0 hx hZ hown (host := "") (Or.inl (ow82 hw)) Via.refl e0 F1 (g := (mkF m 1 #[.val (.ref a1)] [(.ref a1)])) rfl rfl (hb hby od_jdk_32_m_5_1)
  refine Go.by st322 ?_
  show Go p e below _ T322 (mkF m 4 #[.val (.ref a1)] [(.ref v1)])
  refine Go.by (fun t k => XS.ifnonnullYes X322.here hx rfl (pc0 := 4) (pc' := 17) rfl (hb hby od_jdk_32_m_5_4) rfl (by decide) (by decide) (XS.aloadN X322.here hx rfl (hb hby od_jdk_32_m_5_17) rfl rfl k)) ?_
  show Go p e below _ T322 (mkF m 18 #[.val (.ref a1)] [(.ref a1)])
  obtain ⟨T323, X323, e323, st323⟩ := getF X322 hx hZ hown (host := "") (Or.inl (ow82 hw)) Via.refl e322 F1 (g := (mkF m 18 #[.val (.ref a1)] [(.ref a1)])) rfl rfl (hb hby od_jdk_32_m_5_18)
  refine Go.by st323 ?_
  show Go p e below _ T323 (mkF m 21 #[.val (.ref a1)] [(.ref v1)])
  exact Go.retR X323 hx hret rfl rfl rfl hlk (hb hby od_jdk_32_m_5_21) (by first | (rw [e323]; exact ⟨rfl, N0, rfl⟩) | exact ⟨rfl, N0, rfl⟩) (by decide) (by decide)
def Q_values (Z : State) (va : Addr) (kv : ClassId) (pa : Addr) (oa : Addr) (h0 : Heap) (n0 : Nat) (rv : Option Value) (hE : Heap) (LE : List Loc) : Prop := ∃ bv : Addr, rv = some (.ref bv) ∧ Fr n0 LE ∧ Keep h0 hE [] ∧ (h0.size ≤ bv) ∧ (Arv Z hE bv kv (.object "com/example/antecedent/antecedent/EntityType") (2 : Int32) ([(.ref pa), (.ref oa)]) .null)
set_option maxRecDepth 65536 in
set_option maxHeartbeats 40000000 in
theorem rm_values (l : Launch) (Z : State) (a0 : Array Value) (hw : HW a0 Z) (ws : List Jvm.Cond) (va : Addr) (kv : ClassId) (pa : Addr) (oa : Addr) (h0 : Heap) (n0 : Nat) (Z0 : n0 ≤ h0.size) (O7 : Sta Z Z.heap "com/example/antecedent/antecedent/EntityType" "$VALUES" "[Lcom/example/antecedent/antecedent/EntityType;" (.ref va)) (OV : Arv Z Z.heap va kv (.object "com/example/antecedent/antecedent/EntityType") (2 : Int32) ([(.ref pa), (.ref oa)]) .null) (OE : Exa Z Z.heap va "[Lcom/example/antecedent/antecedent/EntityType;") (X00 : Old Z n0 h0) :
    MetFree l (⟨"com/example/antecedent/antecedent/EntityType", "values", "()[Lcom/example/antecedent/antecedent/EntityType;"⟩ : MethodName) (head1 (Jvm.Cond.code (⟨"com/example/antecedent/antecedent/EntityType", "values", "()[Lcom/example/antecedent/antecedent/EntityType;"⟩ : MethodName) prog_4_method_1_code 0 (Option.some (Jvm.ClassFile.FieldType.array (Jvm.ClassFile.FieldType.object "com/example/antecedent/antecedent/EntityType"))) :: ws) ({ frames := 1, cells := 1, slots := 2, locals := 14 } : Room)) (fun a U => a = #[] ∧ Z.Warmed39 U.vm ∧ U.heap = h0) (fun _ _ _ _ _ => True) (fun _ U o U' => Out U (Q_values Z va kv pa oa h0 n0) ({ frames := 1, cells := 1, slots := 2, locals := 14 } : Room).cells ({ frames := 1, cells := 1, slots := 2, locals := 14 } : Room).slots o U') := by
  refine MetFree.of_bodySF (plainFor_of_name opn_4) hisR ?_
  intro p e s m args below meth c s₁ Bd hml0 hP hK
  obtain ⟨rfl, hZ, hh⟩ := hP
  have hx := Bd.exec
  have hby := Bd.bytes
  have hml : c.maxLocals = 0 := hml0
  have hret := Bd.returns
  have hlk : meth.locks = false := BodyLoose.notSynchronized Bd
  have hown : s.vm.findClass "com/example/antecedent/antecedent/EntityType" = some m.cls := findClass_of_methodNamed Bd.named
  have hnm := (name_of_methodNamed Bd.named Bd.method).1
  have X0 : Stand p l e ({ frames := 1, cells := 1, slots := 2, locals := 14 } : Room) s m #[] below meth c s₁ [] 0 0 := Stand.of_body Bd
  have e0 : s₁.heap = h0 := by rw [← hh, Bd.state]; rfl
  have N0 := Fr.nil n0
  have K0 : Keep h0 h0 [] := Keep.refl h0 _
  show Go p e below (Out s (Q_values Z va kv pa oa h0 n0) ({ frames := 1, cells := 1, slots := 2, locals := 14 } : Room).cells ({ frames := 1, cells := 1, slots := 2, locals := 14 } : Room).slots) s₁ (entryFrame m #[] 0)
  refine Go.cast (oef_values m ) ?_
  show Go p e below _ s₁ (mkF m 0 #[] [])
  obtain ⟨T324, X324, e324, st324⟩ := getS2 X0 hx hZ hown (host := "") (Or.inl (ow60 hw)) Via.refl e0 (O7.ext X00.2) (g := (mkF m 0 #[] [])) rfl (hb hby od_prog_4_m_1_0)
  refine Go.by st324 ?_
  show Go p e below _ T324 (mkF m 3 #[] [(.ref va)])
  obtain ⟨T325, h325, X325, e325, E325, A325, B325, st325⟩ := cloneH X324 hx hZ hown (ad := "[Lcom/example/antecedent/antecedent/EntityType;") (ow62 hw) (ow63 hw) (ow67 hw) (ow65 hw) (ow66 hw) (ow68 hw) e324 (OV.ext X00.2).arh (OE.ext X00.2) (g := (mkF m 3 #[] [(.ref va)])) rfl (by rw [hml]; rfl) rfl (hb hby od_prog_4_m_1_3) (by decide) (W := 0) (cap := 2) (by show 2 * 0 + _ ≤ _; exact Nat.le_of_eq rfl) (by decide) (by decide) (by decide) (by decide)
  obtain ⟨b325, g325⟩ : ∃ z, z = h0.size := ⟨_, rfl⟩
  rw [← g325] at A325 B325 st325
  refine Go.by st325 ?_
  have K326 : Keep h0 h325 [] := K0.ext E325
  have O326 : Old Z n0 h325 := X00.ext E325
  show Go p e below _ T325 (mkF m 6 #[] [(.ref b325)])
  obtain ⟨T327, X327, e327, st327⟩ := castY X325 hx hZ hown (ow72 hw) e325 (Ins.self B325) (g := (mkF m 6 #[] [(.ref b325)])) rfl rfl (hb hby od_prog_4_m_1_6)
  refine Go.by st327 ?_
  show Go p e below _ T327 (mkF m 9 #[] [(.ref b325)])
  exact Go.retR X327 hx hret rfl rfl rfl hlk (hb hby od_prog_4_m_1_9) (by first | (rw [e327]; exact ⟨b325, rfl, N0, K326, (Nat.le_trans (Nat.le_refl _) (Nat.le_of_eq g325.symm)), (arv_of_arh A325)⟩) | exact ⟨b325, rfl, N0, K326, (Nat.le_trans (Nat.le_refl _) (Nat.le_of_eq g325.symm)), (arv_of_arh A325)⟩) (by decide) (by decide)
def Q_forLabel (Z : State) (sx : Addr) (st : Addr) (ks : ClassId) (cs : List Int32) (em : Addr) (va : Addr) (kv : ClassId) (pa : Addr) (oa : Addr) (pl : Addr) (pv : Addr) (kp : ClassId) (ol : Addr) (ov : Addr) (ko : ClassId) (G1 : Int32) (h0 : Heap) (n0 : Nat) (rv : Option Value) (hE : Heap) (LE : List Loc) : Prop := ∃ res : Addr, rv = some (.ref res) ∧ Fr n0 LE ∧ Keep h0 hE [] ∧ (Exa Z hE res "java/util/Optional") ∧ ((cs = PER ∧ Fld Z hE res "java/util/Optional" "value" "Ljava/lang/Object;" (.ref pa)) ∨ (cs = OTH ∧ Fld Z hE res "java/util/Optional" "value" "Ljava/lang/Object;" (.ref oa)) ∨ (¬ cs = PER ∧ ¬ cs = OTH ∧ Fld Z hE res "java/util/Optional" "value" "Ljava/lang/Object;" .null))
set_option maxRecDepth 65536 in
set_option maxHeartbeats 40000000 in
theorem rm_forLabel (l : Launch) (Z : State) (a0 : Array Value) (hw : HW a0 Z) (ws : List Jvm.Cond) (sx : Addr) (st : Addr) (ks : ClassId) (cs : List Int32) (em : Addr) (va : Addr) (kv : ClassId) (pa : Addr) (oa : Addr) (pl : Addr) (pv : Addr) (kp : ClassId) (ol : Addr) (ov : Addr) (ko : ClassId) (G1 : Int32) (h0 : Heap) (n0 : Nat) (Z0 : n0 ≤ h0.size) (S0 : Exa Z h0 sx "java/lang/String") (S1 : Fld Z h0 sx "java/lang/String" "coder" "B" (.int (0 : Int32))) (S2 : Fld Z h0 sx "java/lang/String" "value" "[B" (.ref st)) (S3 : Arv Z h0 st ks .byte (Int32.ofNat cs.length) (B8 cs) (.int (0 : Int32))) (HL : cs.length ≤ 7) (HC : ∀ c ∈ cs, ¬ c < 0 ∧ ¬ (255 : Int32) < c) (O7 : Sta Z Z.heap "com/example/antecedent/antecedent/EntityType" "$VALUES" "[Lcom/example/antecedent/antecedent/EntityType;" (.ref va)) (OV : Arv Z Z.heap va kv (.object "com/example/antecedent/antecedent/EntityType") (2 : Int32) ([(.ref pa), (.ref oa)]) .null) (OE : Exa Z Z.heap va "[Lcom/example/antecedent/antecedent/EntityType;") (LB0 : Fld Z Z.heap pa "com/example/antecedent/antecedent/EntityType" "label" "Ljava/lang/String;" (.ref pl)) (LB1 : Exa Z Z.heap pl "java/lang/String") (LB2 : Fld Z Z.heap pl "java/lang/String" "coder" "B" (.int (0 : Int32))) (LB3 : Fld Z Z.heap pl "java/lang/String" "value" "[B" (.ref pv)) (LB4 : Arv Z Z.heap pv kp .byte (6 : Int32) (B8 PER) (.int (0 : Int32))) (LB5 : Fld Z Z.heap oa "com/example/antecedent/antecedent/EntityType" "label" "Ljava/lang/String;" (.ref ol)) (LB6 : Exa Z Z.heap ol "java/lang/String") (LB7 : Fld Z Z.heap ol "java/lang/String" "coder" "B" (.int (0 : Int32))) (LB8 : Fld Z Z.heap ol "java/lang/String" "value" "[B" (.ref ov)) (LB9 : Arv Z Z.heap ov ko .byte (5 : Int32) (B8 OTH) (.int (0 : Int32))) (O6 : Sta Z Z.heap "java/util/Optional" "EMPTY" "Ljava/util/Optional;" (.ref em)) (OM : Exa Z Z.heap em "java/util/Optional") (ON : Fld Z Z.heap em "java/util/Optional" "value" "Ljava/lang/Object;" .null) (O2 : Sta Z Z.heap "java/lang/String" "COMPACT_STRINGS" "Z" (.int G1)) (P5 : ¬ (G1 = (0 : Int32))) (X00 : Old Z n0 h0) :
    MetFree l (⟨"com/example/antecedent/antecedent/EntityType", "forLabel", "(Ljava/lang/String;)Ljava/util/Optional;"⟩ : MethodName) (head1 (Jvm.Cond.code (⟨"com/example/antecedent/antecedent/EntityType", "forLabel", "(Ljava/lang/String;)Ljava/util/Optional;"⟩ : MethodName) prog_4_method_4_code 6 (Option.some (Jvm.ClassFile.FieldType.object "java/util/Optional")) :: ws) ({ frames := 3, cells := 3, slots := 4, locals := 40 } : Room)) (fun a U => a = #[(.ref sx)] ∧ Z.Warmed39 U.vm ∧ U.heap = h0) (fun _ _ _ _ _ => True) (fun _ U o U' => Out U (Q_forLabel Z sx st ks cs em va kv pa oa pl pv kp ol ov ko G1 h0 n0) ({ frames := 3, cells := 3, slots := 4, locals := 40 } : Room).cells ({ frames := 3, cells := 3, slots := 4, locals := 40 } : Room).slots o U') := by
  refine MetFree.of_bodySF (plainFor_of_name opn_4) hisR ?_
  intro p e s m args below meth c s₁ Bd hml0 hP hK
  obtain ⟨rfl, hZ, hh⟩ := hP
  have hx := Bd.exec
  have hby := Bd.bytes
  have hml : c.maxLocals = 6 := hml0
  have hret := Bd.returns
  have hlk : meth.locks = false := BodyLoose.notSynchronized Bd
  have hown : s.vm.findClass "com/example/antecedent/antecedent/EntityType" = some m.cls := findClass_of_methodNamed Bd.named
  have hnm := (name_of_methodNamed Bd.named Bd.method).1
  have X0 : Stand p l e ({ frames := 3, cells := 3, slots := 4, locals := 40 } : Room) s m #[(.ref sx)] below meth c s₁ [] 0 0 := Stand.of_body Bd
  have e0 : s₁.heap = h0 := by rw [← hh, Bd.state]; rfl
  have N0 := Fr.nil n0
  have K0 : Keep h0 h0 [] := Keep.refl h0 _
  show Go p e below (Out s (Q_forLabel Z sx st ks cs em va kv pa oa pl pv kp ol ov ko G1 h0 n0) ({ frames := 3, cells := 3, slots := 4, locals := 40 } : Room).cells ({ frames := 3, cells := 3, slots := 4, locals := 40 } : Room).slots) s₁ (entryFrame m #[(.ref sx)] 6)
  refine Go.cast (oef_forLabel m sx) ?_
  show Go p e below _ s₁ (mkF m 0 #[.val (.ref sx), .unset, .unset, .unset, .unset, .unset] [])
  obtain ⟨_, _, ⟨T328, L328, k328, n328⟩, -, X328, ⟨Lc328, hQ328, l328, y328, z328⟩, st328⟩ := Jvm.LawKit.callS X0 hx (y := (⟨"java/util/Optional", "empty", "()Ljava/util/Optional;"⟩ : MethodName)) hown (mvT hZ (ow52 hw)) (mvT hZ (ow53 hw)) (mvT hZ (ow54 hw)) (mvT hZ (ow55 hw)) (by decide) (backOf (W := 0) (rm_oempty l Z a0 hw [] em h0 n0 (Nat.le_trans Z0 (Nat.le_refl _)) O6 X00) hZ (ow55 hw) (ow54 hw) (by decide) (by decide)) (g := (mkF m 0 #[.val (.ref sx), .unset, .unset, .unset, .unset, .unset] [])) rfl (by rw [hml]; rfl) (argsL := []) (rest := []) (lenOf opd_4 rfl) rfl (by show 2 * 0 + _ ≤ _; exact Nat.le_of_eq rfl) (hb hby od_prog_4_m_4_0) (fun _ _ => ⟨rfl, e0, (by decide : 0 + 0 ≤ _), (by decide : 0 + 0 ≤ _)⟩)
  dsimp only [Pt.U, Pt.locs, Pt.cells, Pt.slots] at X328 l328 y328 z328 st328 hQ328
  subst l328 y328 z328
  obtain ⟨rfl, N328q, e328⟩ := hQ328
  have N328 := Fr.app N0 N328q
  refine Go.by st328 ?_
  show Go p e below _ T328 (mkF m 3 #[.val (.ref sx), .unset, .unset, .unset, .unset, .unset] [(.ref em)])
  refine Go.by (fun t k => XS.astoreN X328.here hx rfl (hb hby od_prog_4_m_4_3) rfl rfl (l' := #[.val (.ref sx), .val (.ref em), .unset, .unset, .unset, .unset]) rfl k) ?_
  show Go p e below _ T328 (mkF m 4 #[.val (.ref sx), .val (.ref em), .unset, .unset, .unset, .unset] [])
  obtain ⟨_, _, ⟨T329, L329, k329, n329⟩, -, X329, ⟨Lc329, hQ329, l329, y329, z329⟩, st329⟩ := Jvm.LawKit.callS X328 hx (y := (⟨"com/example/antecedent/antecedent/EntityType", "values", "()[Lcom/example/antecedent/antecedent/EntityType;"⟩ : MethodName)) hown (mvT hZ (ow57 hw)) (mvT hZ (ow58 hw)) (mvT hZ (ow50 hw)) (mvT hZ (ow59 hw)) (by decide) (backOf (W := 0) (rm_values l Z a0 hw [] va kv pa oa h0 n0 (Nat.le_trans Z0 (Nat.le_refl _)) O7 OV OE X00) hZ (ow59 hw) (ow50 hw) (by decide) (by decide)) (g := (mkF m 4 #[.val (.ref sx), .val (.ref em), .unset, .unset, .unset, .unset] [])) rfl (by rw [hml]; rfl) (argsL := []) (rest := []) (lenOf opd_5 rfl) rfl (by show 2 * 0 + _ ≤ _; exact Nat.le_of_eq rfl) (hb hby od_prog_4_m_4_4) (fun _ _ => ⟨rfl, e328, (by decide : 0 + 1 ≤ _), (by decide : 0 + 2 ≤ _)⟩)
  dsimp only [Pt.U, Pt.locs, Pt.cells, Pt.slots] at X329 l329 y329 z329 st329 hQ329
  subst l329 y329 z329
  obtain ⟨bv_329, rfl, N329q, K329q, P329_0, P329_1⟩ := hQ329
  have N329 := Fr.app N328 N329q
  refine Go.by st329 ?_
  have K330 : Keep h0 T329.heap [] := K0.trans K329q all0
  have O330 : Old Z n0 T329.heap := X00.keep K329q all0
  show Go p e below _ T329 (mkF m 7 #[.val (.ref sx), .val (.ref em), .unset, .unset, .unset, .unset] [(.ref bv_329)])
  refine Go.by (fun t k => XS.astoreN X329.here hx rfl (hb hby od_prog_4_m_4_7) rfl rfl (l' := #[.val (.ref sx), .val (.ref em), .val (.ref bv_329), .unset, .unset, .unset]) rfl (XS.aloadN X329.here hx rfl (hb hby od_prog_4_m_4_8) rfl rfl k)) ?_
  show Go p e below _ T329 (mkF m 9 #[.val (.ref sx), .val (.ref em), .val (.ref bv_329), .unset, .unset, .unset] [(.ref bv_329)])
  obtain ⟨c331, A331, q331, S331, M331, G331, J331⟩ := id P329_1
  have l331 := len_of S331 M331
  refine Go.by (X329.arraylength hx A331.1 (State.isArrayOf_alike hZ.alike A331.2.1) (g := (mkF m 9 #[.val (.ref sx), .val (.ref em), .val (.ref bv_329), .unset, .unset, .unset] [(.ref bv_329)])) rfl rfl (hb hby od_prog_4_m_4_9)) ?_
  rw [l331]
  show Go p e below _ T329 (mkF m 10 #[.val (.ref sx), .val (.ref em), .val (.ref bv_329), .unset, .unset, .unset] [(.int (2 : Int32))])
  refine Go.by (fun t k => XS.istoreN X329.here hx rfl (hb hby od_prog_4_m_4_10) rfl (l' := #[.val (.ref sx), .val (.ref em), .val (.ref bv_329), .val (.int (2 : Int32)), .unset, .unset]) rfl (XS.iconst X329.here hx rfl (hb hby od_prog_4_m_4_11) (XS.istore X329.here hx rfl (hb hby od_prog_4_m_4_12) rfl (l' := #[.val (.ref sx), .val (.ref em), .val (.ref bv_329), .val (.int (2 : Int32)), .val (.int (0 : Int32)), .unset]) rfl (XS.iload X329.here hx rfl (hb hby od_prog_4_m_4_14) rfl k)))) ?_
  show Go p e below _ T329 (mkF m 16 #[.val (.ref sx), .val (.ref em), .val (.ref bv_329), .val (.int (2 : Int32)), .val (.int (0 : Int32)), .unset] [(.int (0 : Int32))])
  refine Go.by (fun t k => XS.iloadN X329.here hx rfl (hb hby od_prog_4_m_4_16) rfl (XS.icmpNo X329.here hx rfl (hb hby od_prog_4_m_4_17) rfl (tlt (show (0 : Int32) < (2 : Int32) from (by decide))).2.1 k)) ?_
  show Go p e below _ T329 (mkF m 20 #[.val (.ref sx), .val (.ref em), .val (.ref bv_329), .val (.int (2 : Int32)), .val (.int (0 : Int32)), .unset] [])
  refine Go.by (fun t k => XS.aloadN X329.here hx rfl (hb hby od_prog_4_m_4_20) rfl rfl (XS.iload X329.here hx rfl (hb hby od_prog_4_m_4_21) rfl k)) ?_
  show Go p e below _ T329 (mkF m 23 #[.val (.ref sx), .val (.ref em), .val (.ref bv_329), .val (.int (2 : Int32)), .val (.int (0 : Int32)), .unset] [(.int (0 : Int32)), (.ref bv_329)])
  obtain ⟨c332, A332, q332, S332, M332, G332, J332⟩ := id P329_1
  have i332 := inb_of S332 (j := (0 : Int32)) ⟨by decide, by decide⟩
  refine Go.by (X329.aaload hx (j := (0 : Int32)) (v := (.ref pa)) A332.1 (State.isArrayOf_alike hZ.alike A332.2.1) rfl A332.2.2 i332 (G332.at i332 rfl) (g := (mkF m 23 #[.val (.ref sx), .val (.ref em), .val (.ref bv_329), .val (.int (2 : Int32)), .val (.int (0 : Int32)), .unset] [(.int (0 : Int32)), (.ref bv_329)])) rfl rfl (hb hby od_prog_4_m_4_23)) ?_
  show Go p e below _ T329 (mkF m 24 #[.val (.ref sx), .val (.ref em), .val (.ref bv_329), .val (.int (2 : Int32)), .val (.int (0 : Int32)), .unset] [(.ref pa)])
  refine Go.by (fun t k => XS.astore X329.here hx rfl (hb hby od_prog_4_m_4_24) rfl rfl (l' := #[.val (.ref sx), .val (.ref em), .val (.ref bv_329), .val (.int (2 : Int32)), .val (.int (0 : Int32)), .val (.ref pa)]) rfl (XS.aload X329.here hx rfl (hb hby od_prog_4_m_4_26) rfl rfl k)) ?_
  show Go p e below _ T329 (mkF m 28 #[.val (.ref sx), .val (.ref em), .val (.ref bv_329), .val (.int (2 : Int32)), .val (.int (0 : Int32)), .val (.ref pa)] [(.ref pa)])
  have F334 : Fld Z T329.heap pa "com/example/antecedent/antecedent/EntityType" "label" "Ljava/lang/String;" (.ref pl) := ((LB0.ext X00.2).keep K329q nin0)
  obtain ⟨T333, X333, e333, st333⟩ := getF X329 hx hZ hown (host := "") (Or.inl (ow74 hw)) Via.refl rfl F334 (g := (mkF m 28 #[.val (.ref sx), .val (.ref em), .val (.ref bv_329), .val (.int (2 : Int32)), .val (.int (0 : Int32)), .val (.ref pa)] [(.ref pa)])) rfl rfl (hb hby od_prog_4_m_4_28)
  refine Go.by st333 ?_
  show Go p e below _ T333 (mkF m 31 #[.val (.ref sx), .val (.ref em), .val (.ref bv_329), .val (.int (2 : Int32)), .val (.int (0 : Int32)), .val (.ref pa)] [(.ref pl)])
  refine Go.by (fun t k => XS.aloadN X333.here hx rfl (hb hby od_prog_4_m_4_31) rfl rfl k) ?_
  show Go p e below _ T333 (mkF m 32 #[.val (.ref sx), .val (.ref em), .val (.ref bv_329), .val (.int (2 : Int32)), .val (.int (0 : Int32)), .val (.ref pa)] [(.ref sx), (.ref pl)])
  have F335 : Exa Z T329.heap pl "java/lang/String" := ((LB1.ext X00.2).keep K329q)
  have F336 : Fld Z T329.heap pl "java/lang/String" "value" "[B" (.ref pv) := ((LB3.ext X00.2).keep K329q nin0)
  have F337 : Fld Z T329.heap pl "java/lang/String" "coder" "B" (.int (0 : Int32)) := ((LB2.ext X00.2).keep K329q nin0)
  have F338 : Arv Z T329.heap pv kp .byte (6 : Int32) (B8 PER) (.int (0 : Int32)) := ((LB4.ext X00.2).keep K329q nin0)
  have F339 : Exa Z T329.heap sx "java/lang/String" := (S0.keep K329q)
  have F340 : Fld Z T329.heap sx "java/lang/String" "value" "[B" (.ref st) := (S2.keep K329q nin0)
  have F341 : Fld Z T329.heap sx "java/lang/String" "coder" "B" (.int (0 : Int32)) := (S1.keep K329q nin0)
  have F342 : Arv Z T329.heap st ks .byte (Int32.ofNat cs.length) (B8 cs) (.int (0 : Int32)) := (S3.keep K329q nin0)
  obtain ⟨cq343, kq343, q343a, q343b, q343c⟩ := isOf hZ e333 F335
  obtain ⟨_, _, ⟨T343, L343, k343, n343⟩, -, X343, ⟨Lc343, hQ343, l343, y343, z343⟩, st343⟩ := X333.virtualBack hx (y := (⟨"java/lang/String", "equals", "(Ljava/lang/Object;)Z"⟩ : MethodName)) (z := (⟨"java/lang/String", "equals", "(Ljava/lang/Object;)Z"⟩ : MethodName)) hown (mvT hZ (ow76 hw)) (mvT hZ (ow38 hw)) (notFace_of_selects (args := #[]) (mvT hZ (ow40 hw))) (mvT hZ (ow40 hw)) (mvT hZ (ow39 hw)) (by decide) (StrChars.Road.eqW (W := 0) hZ (hw_eq hw) (kI := 4) (ow6 hw) F335 F336 F337 F338 (cod8 (n := 6) rfl per_lo) (up255 per_lo) (by decide) F339 F340 F341 F342 (cod8 rfl HC) (up255 HC) (Nat.le_trans HL (by decide)) (O2.ext O330.2) P5 (by decide) (by decide)) q343a q343c (g := (mkF m 32 #[.val (.ref sx), .val (.ref em), .val (.ref bv_329), .val (.int (2 : Int32)), .val (.int (0 : Int32)), .val (.ref pa)] [(.ref sx), (.ref pl)])) rfl (by rw [hml]; rfl) (Steps.refl _) (argsL := [(.ref sx)]) (rest := []) (lenOf opd_6 rfl) rfl (by show 2 * 0 + _ ≤ _; exact Nat.le_of_eq rfl) (hb hby od_prog_4_m_4_32) (fun _ _ => ⟨rfl, e333, (by decide : 1 + 0 ≤ _), (by decide : 2 + 0 ≤ _)⟩)
  dsimp only [Pt.U, Pt.locs, Pt.cells, Pt.slots] at X343 l343 y343 z343 st343 hQ343
  subst l343 y343 z343
  obtain ⟨hR343, rfl, e343⟩ := hQ343
  have N343 := Fr.app N329 (Fr.nil n0)
  rcases hR343 with ⟨rfl, he343⟩ | ⟨rfl, he343⟩
  · refine Go.tr st343 ?_
    show Go p e below _ T343 (mkF m 35 #[.val (.ref sx), .val (.ref em), .val (.ref bv_329), .val (.int (2 : Int32)), .val (.int (0 : Int32)), .val (.ref pa)] [(.int (1 : Int32))])
    refine Go.by (fun t k => XS.ifNo X343.here hx rfl (hb hby od_prog_4_m_4_35) rfl ((if0 _ _).trans (feq (show ¬ ((1 : Int32) = (0 : Int32)) from (by decide))).1) k) ?_
    show Go p e below _ T343 (mkF m 38 #[.val (.ref sx), .val (.ref em), .val (.ref bv_329), .val (.int (2 : Int32)), .val (.int (0 : Int32)), .val (.ref pa)] [])
    refine Go.by (fun t k => XS.aload X343.here hx rfl (hb hby od_prog_4_m_4_38) rfl rfl k) ?_
    show Go p e below _ T343 (mkF m 40 #[.val (.ref sx), .val (.ref em), .val (.ref bv_329), .val (.int (2 : Int32)), .val (.int (0 : Int32)), .val (.ref pa)] [(.ref pa)])
    obtain ⟨_, _, ⟨T344, L344, k344, n344⟩, -, X344, ⟨Lc344, hQ344, l344, y344, z344⟩, st344⟩ := Jvm.LawKit.callS X343 hx (y := (⟨"java/util/Optional", "of", "(Ljava/lang/Object;)Ljava/util/Optional;"⟩ : MethodName)) hown (mvT hZ (ow85 hw)) (mvT hZ (ow86 hw)) (mvT hZ (ow54 hw)) (mvT hZ (ow87 hw)) (by decide) (backOf (W := 0) (rm_oof l Z a0 hw [] pa T329.heap n0 (Nat.le_trans Z0 K329q.1) ) hZ (ow87 hw) (ow54 hw) (by decide) (by decide)) (g := (mkF m 40 #[.val (.ref sx), .val (.ref em), .val (.ref bv_329), .val (.int (2 : Int32)), .val (.int (0 : Int32)), .val (.ref pa)] [(.ref pa)])) rfl (by rw [hml]; rfl) (argsL := [(.ref pa)]) (rest := []) (lenOf opd_7 rfl) rfl (by show 2 * 0 + _ ≤ _; exact Nat.le_of_eq rfl) (hb hby od_prog_4_m_4_40) (fun _ _ => ⟨rfl, e343, (by decide : 1 + 1 ≤ _), (by decide : 2 + 1 ≤ _)⟩)
    dsimp only [Pt.U, Pt.locs, Pt.cells, Pt.slots] at X344 l344 y344 z344 st344 hQ344
    subst l344 y344 z344
    obtain ⟨bo_344, rfl, N344q, K344q, P344_0, P344_1, P344_2⟩ := hQ344
    have N344 := Fr.app N343 N344q
    refine Go.by st344 ?_
    have K345 : Keep h0 T344.heap [] := K330.trans K344q all0
    have O345 : Old Z n0 T344.heap := O330.keep K344q all0
    show Go p e below _ T344 (mkF m 43 #[.val (.ref sx), .val (.ref em), .val (.ref bv_329), .val (.int (2 : Int32)), .val (.int (0 : Int32)), .val (.ref pa)] [(.ref bo_344)])
    refine Go.by (fun t k => XS.astoreN X344.here hx rfl (hb hby od_prog_4_m_4_43) rfl rfl (l' := #[.val (.ref sx), .val (.ref bo_344), .val (.ref bv_329), .val (.int (2 : Int32)), .val (.int (0 : Int32)), .val (.ref pa)]) rfl (XS.iinc X344.here hx rfl (hb hby od_prog_4_m_4_44) rfl (l' := #[.val (.ref sx), .val (.ref bo_344), .val (.ref bv_329), .val (.int (2 : Int32)), .val (.int (1 : Int32)), .val (.ref pa)]) rfl (XS.goto X344.here hx rfl (pc0 := 47) (pc' := 14) rfl (hb hby od_prog_4_m_4_47) (by decide) (by decide) (XS.iload X344.here hx rfl (hb hby od_prog_4_m_4_14) rfl k)))) ?_
    show Go p e below _ T344 (mkF m 16 #[.val (.ref sx), .val (.ref bo_344), .val (.ref bv_329), .val (.int (2 : Int32)), .val (.int (1 : Int32)), .val (.ref pa)] [(.int (1 : Int32))])
    refine Go.by (fun t k => XS.iloadN X344.here hx rfl (hb hby od_prog_4_m_4_16) rfl (XS.icmpNo X344.here hx rfl (hb hby od_prog_4_m_4_17) rfl (tlt (show (1 : Int32) < (2 : Int32) from (by decide))).2.1 k)) ?_
    show Go p e below _ T344 (mkF m 20 #[.val (.ref sx), .val (.ref bo_344), .val (.ref bv_329), .val (.int (2 : Int32)), .val (.int (1 : Int32)), .val (.ref pa)] [])
    refine Go.by (fun t k => XS.aloadN X344.here hx rfl (hb hby od_prog_4_m_4_20) rfl rfl (XS.iload X344.here hx rfl (hb hby od_prog_4_m_4_21) rfl k)) ?_
    show Go p e below _ T344 (mkF m 23 #[.val (.ref sx), .val (.ref bo_344), .val (.ref bv_329), .val (.int (2 : Int32)), .val (.int (1 : Int32)), .val (.ref pa)] [(.int (1 : Int32)), (.ref bv_329)])
    have F347 : Arv Z T344.heap bv_329 kv (.object "com/example/antecedent/antecedent/EntityType") (2 : Int32) ([(.ref pa), (.ref oa)]) .null := (P329_1.keep K344q nin0)
    obtain ⟨c346, A346, q346, S346, M346, G346, J346⟩ := id F347
    have i346 := inb_of S346 (j := (1 : Int32)) ⟨by decide, by decide⟩
    refine Go.by (X344.aaload hx (j := (1 : Int32)) (v := (.ref oa)) A346.1 (State.isArrayOf_alike hZ.alike A346.2.1) rfl A346.2.2 i346 (G346.at i346 rfl) (g := (mkF m 23 #[.val (.ref sx), .val (.ref bo_344), .val (.ref bv_329), .val (.int (2 : Int32)), .val (.int (1 : Int32)), .val (.ref pa)] [(.int (1 : Int32)), (.ref bv_329)])) rfl rfl (hb hby od_prog_4_m_4_23)) ?_
    show Go p e below _ T344 (mkF m 24 #[.val (.ref sx), .val (.ref bo_344), .val (.ref bv_329), .val (.int (2 : Int32)), .val (.int (1 : Int32)), .val (.ref pa)] [(.ref oa)])
    refine Go.by (fun t k => XS.astore X344.here hx rfl (hb hby od_prog_4_m_4_24) rfl rfl (l' := #[.val (.ref sx), .val (.ref bo_344), .val (.ref bv_329), .val (.int (2 : Int32)), .val (.int (1 : Int32)), .val (.ref oa)]) rfl (XS.aload X344.here hx rfl (hb hby od_prog_4_m_4_26) rfl rfl k)) ?_
    show Go p e below _ T344 (mkF m 28 #[.val (.ref sx), .val (.ref bo_344), .val (.ref bv_329), .val (.int (2 : Int32)), .val (.int (1 : Int32)), .val (.ref oa)] [(.ref oa)])
    have F349 : Fld Z T344.heap oa "com/example/antecedent/antecedent/EntityType" "label" "Ljava/lang/String;" (.ref ol) := (((LB5.ext X00.2).keep K329q nin0).keep K344q nin0)
    obtain ⟨T348, X348, e348, st348⟩ := getF X344 hx hZ hown (host := "") (Or.inl (ow74 hw)) Via.refl rfl F349 (g := (mkF m 28 #[.val (.ref sx), .val (.ref bo_344), .val (.ref bv_329), .val (.int (2 : Int32)), .val (.int (1 : Int32)), .val (.ref oa)] [(.ref oa)])) rfl rfl (hb hby od_prog_4_m_4_28)
    refine Go.by st348 ?_
    show Go p e below _ T348 (mkF m 31 #[.val (.ref sx), .val (.ref bo_344), .val (.ref bv_329), .val (.int (2 : Int32)), .val (.int (1 : Int32)), .val (.ref oa)] [(.ref ol)])
    refine Go.by (fun t k => XS.aloadN X348.here hx rfl (hb hby od_prog_4_m_4_31) rfl rfl k) ?_
    show Go p e below _ T348 (mkF m 32 #[.val (.ref sx), .val (.ref bo_344), .val (.ref bv_329), .val (.int (2 : Int32)), .val (.int (1 : Int32)), .val (.ref oa)] [(.ref sx), (.ref ol)])
    have F350 : Exa Z T344.heap ol "java/lang/String" := (((LB6.ext X00.2).keep K329q).keep K344q)
    have F351 : Fld Z T344.heap ol "java/lang/String" "value" "[B" (.ref ov) := (((LB8.ext X00.2).keep K329q nin0).keep K344q nin0)
    have F352 : Fld Z T344.heap ol "java/lang/String" "coder" "B" (.int (0 : Int32)) := (((LB7.ext X00.2).keep K329q nin0).keep K344q nin0)
    have F353 : Arv Z T344.heap ov ko .byte (5 : Int32) (B8 OTH) (.int (0 : Int32)) := (((LB9.ext X00.2).keep K329q nin0).keep K344q nin0)
    have F354 : Exa Z T344.heap sx "java/lang/String" := (F339.keep K344q)
    have F355 : Fld Z T344.heap sx "java/lang/String" "value" "[B" (.ref st) := (F340.keep K344q nin0)
    have F356 : Fld Z T344.heap sx "java/lang/String" "coder" "B" (.int (0 : Int32)) := (F341.keep K344q nin0)
    have F357 : Arv Z T344.heap st ks .byte (Int32.ofNat cs.length) (B8 cs) (.int (0 : Int32)) := (F342.keep K344q nin0)
    obtain ⟨cq358, kq358, q358a, q358b, q358c⟩ := isOf hZ e348 F350
    obtain ⟨_, _, ⟨T358, L358, k358, n358⟩, -, X358, ⟨Lc358, hQ358, l358, y358, z358⟩, st358⟩ := X348.virtualBack hx (y := (⟨"java/lang/String", "equals", "(Ljava/lang/Object;)Z"⟩ : MethodName)) (z := (⟨"java/lang/String", "equals", "(Ljava/lang/Object;)Z"⟩ : MethodName)) hown (mvT hZ (ow76 hw)) (mvT hZ (ow38 hw)) (notFace_of_selects (args := #[]) (mvT hZ (ow40 hw))) (mvT hZ (ow40 hw)) (mvT hZ (ow39 hw)) (by decide) (StrChars.Road.eqW (W := 0) hZ (hw_eq hw) (kI := 4) (ow6 hw) F350 F351 F352 F353 (cod8 (n := 5) rfl oth_lo) (up255 oth_lo) (by decide) F354 F355 F356 F357 (cod8 rfl HC) (up255 HC) (Nat.le_trans HL (by decide)) (O2.ext O345.2) P5 (by decide) (by decide)) q358a q358c (g := (mkF m 32 #[.val (.ref sx), .val (.ref bo_344), .val (.ref bv_329), .val (.int (2 : Int32)), .val (.int (1 : Int32)), .val (.ref oa)] [(.ref sx), (.ref ol)])) rfl (by rw [hml]; rfl) (Steps.refl _) (argsL := [(.ref sx)]) (rest := []) (lenOf opd_6 rfl) rfl (by show 2 * 0 + _ ≤ _; exact Nat.le_of_eq rfl) (hb hby od_prog_4_m_4_32) (fun _ _ => ⟨rfl, e348, (by decide : 2 + 0 ≤ _), (by decide : 3 + 0 ≤ _)⟩)
    dsimp only [Pt.U, Pt.locs, Pt.cells, Pt.slots] at X358 l358 y358 z358 st358 hQ358
    subst l358 y358 z358
    obtain ⟨hR358, rfl, e358⟩ := hQ358
    have N358 := Fr.app N344 (Fr.nil n0)
    rcases hR358 with ⟨rfl, he358⟩ | ⟨rfl, he358⟩
    · refine Go.tr st358 ?_
      show Go p e below _ T358 (mkF m 35 #[.val (.ref sx), .val (.ref bo_344), .val (.ref bv_329), .val (.int (2 : Int32)), .val (.int (1 : Int32)), .val (.ref oa)] [(.int (1 : Int32))])
      refine Go.by (fun t k => XS.ifNo X358.here hx rfl (hb hby od_prog_4_m_4_35) rfl ((if0 _ _).trans (feq (show ¬ ((1 : Int32) = (0 : Int32)) from (by decide))).1) k) ?_
      show Go p e below _ T358 (mkF m 38 #[.val (.ref sx), .val (.ref bo_344), .val (.ref bv_329), .val (.int (2 : Int32)), .val (.int (1 : Int32)), .val (.ref oa)] [])
      refine Go.by (fun t k => XS.aload X358.here hx rfl (hb hby od_prog_4_m_4_38) rfl rfl k) ?_
      show Go p e below _ T358 (mkF m 40 #[.val (.ref sx), .val (.ref bo_344), .val (.ref bv_329), .val (.int (2 : Int32)), .val (.int (1 : Int32)), .val (.ref oa)] [(.ref oa)])
      exact absurd (he343.trans he358.symm) (by decide)
    · refine Go.tr st358 ?_
      show Go p e below _ T358 (mkF m 35 #[.val (.ref sx), .val (.ref bo_344), .val (.ref bv_329), .val (.int (2 : Int32)), .val (.int (1 : Int32)), .val (.ref oa)] [(.int (0 : Int32))])
      refine Go.by (fun t k => XS.ifYes X358.here hx rfl (pc0 := 35) (pc' := 44) rfl (hb hby od_prog_4_m_4_35) rfl ((if0 _ _).trans (teq (show (0 : Int32) = (0 : Int32) from (by decide))).1) (by decide) (by decide) k) ?_
      show Go p e below _ T358 (mkF m 44 #[.val (.ref sx), .val (.ref bo_344), .val (.ref bv_329), .val (.int (2 : Int32)), .val (.int (1 : Int32)), .val (.ref oa)] [])
      refine Go.by (fun t k => XS.iinc X358.here hx rfl (hb hby od_prog_4_m_4_44) rfl (l' := #[.val (.ref sx), .val (.ref bo_344), .val (.ref bv_329), .val (.int (2 : Int32)), .val (.int (2 : Int32)), .val (.ref oa)]) rfl (XS.goto X358.here hx rfl (pc0 := 47) (pc' := 14) rfl (hb hby od_prog_4_m_4_47) (by decide) (by decide) (XS.iload X358.here hx rfl (hb hby od_prog_4_m_4_14) rfl (XS.iloadN X358.here hx rfl (hb hby od_prog_4_m_4_16) rfl k)))) ?_
      show Go p e below _ T358 (mkF m 17 #[.val (.ref sx), .val (.ref bo_344), .val (.ref bv_329), .val (.int (2 : Int32)), .val (.int (2 : Int32)), .val (.ref oa)] [(.int (2 : Int32)), (.int (2 : Int32))])
      refine Go.by (fun t k => XS.icmpYes X358.here hx rfl (pc0 := 17) (pc' := 50) rfl (hb hby od_prog_4_m_4_17) rfl (flt (show ¬ ((2 : Int32) < (2 : Int32)) from (by decide))).2.1 (by decide) (by decide) k) ?_
      show Go p e below _ T358 (mkF m 50 #[.val (.ref sx), .val (.ref bo_344), .val (.ref bv_329), .val (.int (2 : Int32)), .val (.int (2 : Int32)), .val (.ref oa)] [])
      refine Go.by (fun t k => XS.aloadN X358.here hx rfl (hb hby od_prog_4_m_4_50) rfl rfl k) ?_
      show Go p e below _ T358 (mkF m 51 #[.val (.ref sx), .val (.ref bo_344), .val (.ref bv_329), .val (.int (2 : Int32)), .val (.int (2 : Int32)), .val (.ref oa)] [(.ref bo_344)])
      exact Go.retR X358 hx hret rfl rfl rfl hlk (hb hby od_prog_4_m_4_51) (by first | (rw [e358]; exact ⟨bo_344, rfl, N358, K345, P344_1, (Or.inl ⟨he343.symm, P344_2⟩)⟩) | exact ⟨bo_344, rfl, N358, K345, P344_1, (Or.inl ⟨he343.symm, P344_2⟩)⟩) (by decide) (by decide)
  · refine Go.tr st343 ?_
    show Go p e below _ T343 (mkF m 35 #[.val (.ref sx), .val (.ref em), .val (.ref bv_329), .val (.int (2 : Int32)), .val (.int (0 : Int32)), .val (.ref pa)] [(.int (0 : Int32))])
    refine Go.by (fun t k => XS.ifYes X343.here hx rfl (pc0 := 35) (pc' := 44) rfl (hb hby od_prog_4_m_4_35) rfl ((if0 _ _).trans (teq (show (0 : Int32) = (0 : Int32) from (by decide))).1) (by decide) (by decide) k) ?_
    show Go p e below _ T343 (mkF m 44 #[.val (.ref sx), .val (.ref em), .val (.ref bv_329), .val (.int (2 : Int32)), .val (.int (0 : Int32)), .val (.ref pa)] [])
    refine Go.by (fun t k => XS.iinc X343.here hx rfl (hb hby od_prog_4_m_4_44) rfl (l' := #[.val (.ref sx), .val (.ref em), .val (.ref bv_329), .val (.int (2 : Int32)), .val (.int (1 : Int32)), .val (.ref pa)]) rfl (XS.goto X343.here hx rfl (pc0 := 47) (pc' := 14) rfl (hb hby od_prog_4_m_4_47) (by decide) (by decide) (XS.iload X343.here hx rfl (hb hby od_prog_4_m_4_14) rfl (XS.iloadN X343.here hx rfl (hb hby od_prog_4_m_4_16) rfl k)))) ?_
    show Go p e below _ T343 (mkF m 17 #[.val (.ref sx), .val (.ref em), .val (.ref bv_329), .val (.int (2 : Int32)), .val (.int (1 : Int32)), .val (.ref pa)] [(.int (2 : Int32)), (.int (1 : Int32))])
    refine Go.by (fun t k => XS.icmpNo X343.here hx rfl (hb hby od_prog_4_m_4_17) rfl (tlt (show (1 : Int32) < (2 : Int32) from (by decide))).2.1 k) ?_
    show Go p e below _ T343 (mkF m 20 #[.val (.ref sx), .val (.ref em), .val (.ref bv_329), .val (.int (2 : Int32)), .val (.int (1 : Int32)), .val (.ref pa)] [])
    refine Go.by (fun t k => XS.aloadN X343.here hx rfl (hb hby od_prog_4_m_4_20) rfl rfl (XS.iload X343.here hx rfl (hb hby od_prog_4_m_4_21) rfl k)) ?_
    show Go p e below _ T343 (mkF m 23 #[.val (.ref sx), .val (.ref em), .val (.ref bv_329), .val (.int (2 : Int32)), .val (.int (1 : Int32)), .val (.ref pa)] [(.int (1 : Int32)), (.ref bv_329)])
    obtain ⟨c359, A359, q359, S359, M359, G359, J359⟩ := id P329_1
    have i359 := inb_of S359 (j := (1 : Int32)) ⟨by decide, by decide⟩
    refine Go.by (X343.aaload hx (j := (1 : Int32)) (v := (.ref oa)) (by rw [e343]; exact A359.1) (State.isArrayOf_alike hZ.alike A359.2.1) rfl A359.2.2 i359 (G359.at i359 rfl) (g := (mkF m 23 #[.val (.ref sx), .val (.ref em), .val (.ref bv_329), .val (.int (2 : Int32)), .val (.int (1 : Int32)), .val (.ref pa)] [(.int (1 : Int32)), (.ref bv_329)])) rfl rfl (hb hby od_prog_4_m_4_23)) ?_
    show Go p e below _ T343 (mkF m 24 #[.val (.ref sx), .val (.ref em), .val (.ref bv_329), .val (.int (2 : Int32)), .val (.int (1 : Int32)), .val (.ref pa)] [(.ref oa)])
    refine Go.by (fun t k => XS.astore X343.here hx rfl (hb hby od_prog_4_m_4_24) rfl rfl (l' := #[.val (.ref sx), .val (.ref em), .val (.ref bv_329), .val (.int (2 : Int32)), .val (.int (1 : Int32)), .val (.ref oa)]) rfl (XS.aload X343.here hx rfl (hb hby od_prog_4_m_4_26) rfl rfl k)) ?_
    show Go p e below _ T343 (mkF m 28 #[.val (.ref sx), .val (.ref em), .val (.ref bv_329), .val (.int (2 : Int32)), .val (.int (1 : Int32)), .val (.ref oa)] [(.ref oa)])
    have F361 : Fld Z T329.heap oa "com/example/antecedent/antecedent/EntityType" "label" "Ljava/lang/String;" (.ref ol) := ((LB5.ext X00.2).keep K329q nin0)
    obtain ⟨T360, X360, e360, st360⟩ := getF X343 hx hZ hown (host := "") (Or.inl (ow74 hw)) Via.refl e343 F361 (g := (mkF m 28 #[.val (.ref sx), .val (.ref em), .val (.ref bv_329), .val (.int (2 : Int32)), .val (.int (1 : Int32)), .val (.ref oa)] [(.ref oa)])) rfl rfl (hb hby od_prog_4_m_4_28)
    refine Go.by st360 ?_
    show Go p e below _ T360 (mkF m 31 #[.val (.ref sx), .val (.ref em), .val (.ref bv_329), .val (.int (2 : Int32)), .val (.int (1 : Int32)), .val (.ref oa)] [(.ref ol)])
    refine Go.by (fun t k => XS.aloadN X360.here hx rfl (hb hby od_prog_4_m_4_31) rfl rfl k) ?_
    show Go p e below _ T360 (mkF m 32 #[.val (.ref sx), .val (.ref em), .val (.ref bv_329), .val (.int (2 : Int32)), .val (.int (1 : Int32)), .val (.ref oa)] [(.ref sx), (.ref ol)])
    have F362 : Exa Z T329.heap ol "java/lang/String" := ((LB6.ext X00.2).keep K329q)
    have F363 : Fld Z T329.heap ol "java/lang/String" "value" "[B" (.ref ov) := ((LB8.ext X00.2).keep K329q nin0)
    have F364 : Fld Z T329.heap ol "java/lang/String" "coder" "B" (.int (0 : Int32)) := ((LB7.ext X00.2).keep K329q nin0)
    have F365 : Arv Z T329.heap ov ko .byte (5 : Int32) (B8 OTH) (.int (0 : Int32)) := ((LB9.ext X00.2).keep K329q nin0)
    obtain ⟨cq366, kq366, q366a, q366b, q366c⟩ := isOf hZ e360 F362
    obtain ⟨_, _, ⟨T366, L366, k366, n366⟩, -, X366, ⟨Lc366, hQ366, l366, y366, z366⟩, st366⟩ := X360.virtualBack hx (y := (⟨"java/lang/String", "equals", "(Ljava/lang/Object;)Z"⟩ : MethodName)) (z := (⟨"java/lang/String", "equals", "(Ljava/lang/Object;)Z"⟩ : MethodName)) hown (mvT hZ (ow76 hw)) (mvT hZ (ow38 hw)) (notFace_of_selects (args := #[]) (mvT hZ (ow40 hw))) (mvT hZ (ow40 hw)) (mvT hZ (ow39 hw)) (by decide) (StrChars.Road.eqW (W := 0) hZ (hw_eq hw) (kI := 4) (ow6 hw) F362 F363 F364 F365 (cod8 (n := 5) rfl oth_lo) (up255 oth_lo) (by decide) F339 F340 F341 F342 (cod8 rfl HC) (up255 HC) (Nat.le_trans HL (by decide)) (O2.ext O330.2) P5 (by decide) (by decide)) q366a q366c (g := (mkF m 32 #[.val (.ref sx), .val (.ref em), .val (.ref bv_329), .val (.int (2 : Int32)), .val (.int (1 : Int32)), .val (.ref oa)] [(.ref sx), (.ref ol)])) rfl (by rw [hml]; rfl) (Steps.refl _) (argsL := [(.ref sx)]) (rest := []) (lenOf opd_6 rfl) rfl (by show 2 * 0 + _ ≤ _; exact Nat.le_of_eq rfl) (hb hby od_prog_4_m_4_32) (fun _ _ => ⟨rfl, e360, (by decide : 1 + 0 ≤ _), (by decide : 2 + 0 ≤ _)⟩)
    dsimp only [Pt.U, Pt.locs, Pt.cells, Pt.slots] at X366 l366 y366 z366 st366 hQ366
    subst l366 y366 z366
    obtain ⟨hR366, rfl, e366⟩ := hQ366
    have N366 := Fr.app N343 (Fr.nil n0)
    rcases hR366 with ⟨rfl, he366⟩ | ⟨rfl, he366⟩
    · refine Go.tr st366 ?_
      show Go p e below _ T366 (mkF m 35 #[.val (.ref sx), .val (.ref em), .val (.ref bv_329), .val (.int (2 : Int32)), .val (.int (1 : Int32)), .val (.ref oa)] [(.int (1 : Int32))])
      refine Go.by (fun t k => XS.ifNo X366.here hx rfl (hb hby od_prog_4_m_4_35) rfl ((if0 _ _).trans (feq (show ¬ ((1 : Int32) = (0 : Int32)) from (by decide))).1) k) ?_
      show Go p e below _ T366 (mkF m 38 #[.val (.ref sx), .val (.ref em), .val (.ref bv_329), .val (.int (2 : Int32)), .val (.int (1 : Int32)), .val (.ref oa)] [])
      refine Go.by (fun t k => XS.aload X366.here hx rfl (hb hby od_prog_4_m_4_38) rfl rfl k) ?_
      show Go p e below _ T366 (mkF m 40 #[.val (.ref sx), .val (.ref em), .val (.ref bv_329), .val (.int (2 : Int32)), .val (.int (1 : Int32)), .val (.ref oa)] [(.ref oa)])
      obtain ⟨_, _, ⟨T367, L367, k367, n367⟩, -, X367, ⟨Lc367, hQ367, l367, y367, z367⟩, st367⟩ := Jvm.LawKit.callS X366 hx (y := (⟨"java/util/Optional", "of", "(Ljava/lang/Object;)Ljava/util/Optional;"⟩ : MethodName)) hown (mvT hZ (ow85 hw)) (mvT hZ (ow86 hw)) (mvT hZ (ow54 hw)) (mvT hZ (ow87 hw)) (by decide) (backOf (W := 0) (rm_oof l Z a0 hw [] oa T329.heap n0 (Nat.le_trans Z0 K329q.1) ) hZ (ow87 hw) (ow54 hw) (by decide) (by decide)) (g := (mkF m 40 #[.val (.ref sx), .val (.ref em), .val (.ref bv_329), .val (.int (2 : Int32)), .val (.int (1 : Int32)), .val (.ref oa)] [(.ref oa)])) rfl (by rw [hml]; rfl) (argsL := [(.ref oa)]) (rest := []) (lenOf opd_7 rfl) rfl (by show 2 * 0 + _ ≤ _; exact Nat.le_of_eq rfl) (hb hby od_prog_4_m_4_40) (fun _ _ => ⟨rfl, e366, (by decide : 1 + 1 ≤ _), (by decide : 2 + 1 ≤ _)⟩)
      dsimp only [Pt.U, Pt.locs, Pt.cells, Pt.slots] at X367 l367 y367 z367 st367 hQ367
      subst l367 y367 z367
      obtain ⟨bo_367, rfl, N367q, K367q, P367_0, P367_1, P367_2⟩ := hQ367
      have N367 := Fr.app N366 N367q
      refine Go.by st367 ?_
      have K368 : Keep h0 T367.heap [] := K330.trans K367q all0
      have O368 : Old Z n0 T367.heap := O330.keep K367q all0
      show Go p e below _ T367 (mkF m 43 #[.val (.ref sx), .val (.ref em), .val (.ref bv_329), .val (.int (2 : Int32)), .val (.int (1 : Int32)), .val (.ref oa)] [(.ref bo_367)])
      refine Go.by (fun t k => XS.astoreN X367.here hx rfl (hb hby od_prog_4_m_4_43) rfl rfl (l' := #[.val (.ref sx), .val (.ref bo_367), .val (.ref bv_329), .val (.int (2 : Int32)), .val (.int (1 : Int32)), .val (.ref oa)]) rfl (XS.iinc X367.here hx rfl (hb hby od_prog_4_m_4_44) rfl (l' := #[.val (.ref sx), .val (.ref bo_367), .val (.ref bv_329), .val (.int (2 : Int32)), .val (.int (2 : Int32)), .val (.ref oa)]) rfl (XS.goto X367.here hx rfl (pc0 := 47) (pc' := 14) rfl (hb hby od_prog_4_m_4_47) (by decide) (by decide) (XS.iload X367.here hx rfl (hb hby od_prog_4_m_4_14) rfl k)))) ?_
      show Go p e below _ T367 (mkF m 16 #[.val (.ref sx), .val (.ref bo_367), .val (.ref bv_329), .val (.int (2 : Int32)), .val (.int (2 : Int32)), .val (.ref oa)] [(.int (2 : Int32))])
      refine Go.by (fun t k => XS.iloadN X367.here hx rfl (hb hby od_prog_4_m_4_16) rfl (XS.icmpYes X367.here hx rfl (pc0 := 17) (pc' := 50) rfl (hb hby od_prog_4_m_4_17) rfl (flt (show ¬ ((2 : Int32) < (2 : Int32)) from (by decide))).2.1 (by decide) (by decide) k)) ?_
      show Go p e below _ T367 (mkF m 50 #[.val (.ref sx), .val (.ref bo_367), .val (.ref bv_329), .val (.int (2 : Int32)), .val (.int (2 : Int32)), .val (.ref oa)] [])
      refine Go.by (fun t k => XS.aloadN X367.here hx rfl (hb hby od_prog_4_m_4_50) rfl rfl k) ?_
      show Go p e below _ T367 (mkF m 51 #[.val (.ref sx), .val (.ref bo_367), .val (.ref bv_329), .val (.int (2 : Int32)), .val (.int (2 : Int32)), .val (.ref oa)] [(.ref bo_367)])
      exact Go.retR X367 hx hret rfl rfl rfl hlk (hb hby od_prog_4_m_4_51) ⟨bo_367, rfl, N367, K368, P367_1, (Or.inr (Or.inl ⟨he366.symm, P367_2⟩))⟩ (by decide) (by decide)
    · refine Go.tr st366 ?_
      show Go p e below _ T366 (mkF m 35 #[.val (.ref sx), .val (.ref em), .val (.ref bv_329), .val (.int (2 : Int32)), .val (.int (1 : Int32)), .val (.ref oa)] [(.int (0 : Int32))])
      refine Go.by (fun t k => XS.ifYes X366.here hx rfl (pc0 := 35) (pc' := 44) rfl (hb hby od_prog_4_m_4_35) rfl ((if0 _ _).trans (teq (show (0 : Int32) = (0 : Int32) from (by decide))).1) (by decide) (by decide) k) ?_
      show Go p e below _ T366 (mkF m 44 #[.val (.ref sx), .val (.ref em), .val (.ref bv_329), .val (.int (2 : Int32)), .val (.int (1 : Int32)), .val (.ref oa)] [])
      refine Go.by (fun t k => XS.iinc X366.here hx rfl (hb hby od_prog_4_m_4_44) rfl (l' := #[.val (.ref sx), .val (.ref em), .val (.ref bv_329), .val (.int (2 : Int32)), .val (.int (2 : Int32)), .val (.ref oa)]) rfl (XS.goto X366.here hx rfl (pc0 := 47) (pc' := 14) rfl (hb hby od_prog_4_m_4_47) (by decide) (by decide) (XS.iload X366.here hx rfl (hb hby od_prog_4_m_4_14) rfl (XS.iloadN X366.here hx rfl (hb hby od_prog_4_m_4_16) rfl k)))) ?_
      show Go p e below _ T366 (mkF m 17 #[.val (.ref sx), .val (.ref em), .val (.ref bv_329), .val (.int (2 : Int32)), .val (.int (2 : Int32)), .val (.ref oa)] [(.int (2 : Int32)), (.int (2 : Int32))])
      refine Go.by (fun t k => XS.icmpYes X366.here hx rfl (pc0 := 17) (pc' := 50) rfl (hb hby od_prog_4_m_4_17) rfl (flt (show ¬ ((2 : Int32) < (2 : Int32)) from (by decide))).2.1 (by decide) (by decide) k) ?_
      show Go p e below _ T366 (mkF m 50 #[.val (.ref sx), .val (.ref em), .val (.ref bv_329), .val (.int (2 : Int32)), .val (.int (2 : Int32)), .val (.ref oa)] [])
      refine Go.by (fun t k => XS.aloadN X366.here hx rfl (hb hby od_prog_4_m_4_50) rfl rfl k) ?_
      show Go p e below _ T366 (mkF m 51 #[.val (.ref sx), .val (.ref em), .val (.ref bv_329), .val (.int (2 : Int32)), .val (.int (2 : Int32)), .val (.ref oa)] [(.ref em)])
      have F369 : Fld Z T329.heap em "java/util/Optional" "value" "Ljava/lang/Object;" .null := ((ON.ext X00.2).keep K329q nin0)
      have F370 : Exa Z T329.heap em "java/util/Optional" := ((OM.ext X00.2).keep K329q)
      exact Go.retR X366 hx hret rfl rfl rfl hlk (hb hby od_prog_4_m_4_51) (by first | (rw [e366]; exact ⟨em, rfl, N366, K330, F370, (Or.inr (Or.inr ⟨fun q => he343 q.symm, fun q => he366 q.symm, F369⟩))⟩) | exact ⟨em, rfl, N366, K330, F370, (Or.inr (Or.inr ⟨fun q => he343 q.symm, fun q => he366 q.symm, F369⟩))⟩) (by decide) (by decide)
def Q_law (Z : State) (i0 : Int32) (i1 : Int32) (i2 : Int32) (i3 : Int32) (i4 : Int32) (i5 : Int32) (em : Addr) (va : Addr) (kv : ClassId) (pa : Addr) (oa : Addr) (pl : Addr) (pv : Addr) (kp : ClassId) (ol : Addr) (ov : Addr) (ko : ClassId) (G1 : Int32) (h0 : Heap) (n0 : Nat) (rv : Option Value) (hE : Heap) (LE : List Loc) : Prop := rv = some (.int (1 : Int32)) ∧ Fr n0 LE ∧ Keep h0 hE []
set_option maxRecDepth 65536 in
set_option maxHeartbeats 40000000 in
theorem rm_law (l : Launch) (Z : State) (a0 : Array Value) (hw : HW a0 Z) (ws : List Jvm.Cond) (i0 : Int32) (i1 : Int32) (i2 : Int32) (i3 : Int32) (i4 : Int32) (i5 : Int32) (em : Addr) (va : Addr) (kv : ClassId) (pa : Addr) (oa : Addr) (pl : Addr) (pv : Addr) (kp : ClassId) (ol : Addr) (ov : Addr) (ko : ClassId) (G1 : Int32) (h0 : Heap) (n0 : Nat) (Z0 : n0 ≤ h0.size) (O7 : Sta Z Z.heap "com/example/antecedent/antecedent/EntityType" "$VALUES" "[Lcom/example/antecedent/antecedent/EntityType;" (.ref va)) (OV : Arv Z Z.heap va kv (.object "com/example/antecedent/antecedent/EntityType") (2 : Int32) ([(.ref pa), (.ref oa)]) .null) (OE : Exa Z Z.heap va "[Lcom/example/antecedent/antecedent/EntityType;") (LB0 : Fld Z Z.heap pa "com/example/antecedent/antecedent/EntityType" "label" "Ljava/lang/String;" (.ref pl)) (LB1 : Exa Z Z.heap pl "java/lang/String") (LB2 : Fld Z Z.heap pl "java/lang/String" "coder" "B" (.int (0 : Int32))) (LB3 : Fld Z Z.heap pl "java/lang/String" "value" "[B" (.ref pv)) (LB4 : Arv Z Z.heap pv kp .byte (6 : Int32) (B8 PER) (.int (0 : Int32))) (LB5 : Fld Z Z.heap oa "com/example/antecedent/antecedent/EntityType" "label" "Ljava/lang/String;" (.ref ol)) (LB6 : Exa Z Z.heap ol "java/lang/String") (LB7 : Fld Z Z.heap ol "java/lang/String" "coder" "B" (.int (0 : Int32))) (LB8 : Fld Z Z.heap ol "java/lang/String" "value" "[B" (.ref ov)) (LB9 : Arv Z Z.heap ov ko .byte (5 : Int32) (B8 OTH) (.int (0 : Int32))) (O6 : Sta Z Z.heap "java/util/Optional" "EMPTY" "Ljava/util/Optional;" (.ref em)) (OM : Exa Z Z.heap em "java/util/Optional") (ON : Fld Z Z.heap em "java/util/Optional" "value" "Ljava/lang/Object;" .null) (O8 : Sta Z Z.heap "com/example/antecedent/antecedent/EntityType" "PERSON" "Lcom/example/antecedent/antecedent/EntityType;" (.ref pa)) (O9 : Sta Z Z.heap "com/example/antecedent/antecedent/EntityType" "OTHER" "Lcom/example/antecedent/antecedent/EntityType;" (.ref oa)) (O2 : Sta Z Z.heap "java/lang/String" "COMPACT_STRINGS" "Z" (.int G1)) (P5 : ¬ (G1 = (0 : Int32))) (X00 : Old Z n0 h0) :
    MetFree l x (head1 (Jvm.Cond.code x code maxLocals ret :: ws) room_1) (fun a U => a = #[(.int i0), (.int i1), (.int i2), (.int i3), (.int i4), (.int i5)] ∧ Z.Warmed39 U.vm ∧ U.heap = h0 ∧ CHv Z EL U.vm h0) (fun _ _ _ _ _ => True) (fun _ U o U' => OutW Z EL U (Q_law Z i0 i1 i2 i3 i4 i5 em va kv pa oa pl pv kp ol ov ko G1 h0 n0) room_1.cells room_1.slots o U') := by
  refine MetFree.of_bodySF (plainFor_of_name opn_1) hisR ?_
  intro p e s m args below meth c s₁ Bd hml0 hP hK
  obtain ⟨rfl, hZ, hh, hCH⟩ := hP
  have hx := Bd.exec
  have hby := Bd.bytes
  have hml : c.maxLocals = 13 := hml0
  have hret := Bd.returns
  have hlk : meth.locks = false := BodyLoose.notSynchronized Bd
  have hown : s.vm.findClass "com/example/antecedent/antecedent/EntityTypeForLabelPinLaw" = some m.cls := findClass_of_methodNamed Bd.named
  have hnm := (name_of_methodNamed Bd.named Bd.method).1
  have X0 : Stand p l e room_1 (s.setVm s.vm) m #[(.int i0), (.int i1), (.int i2), (.int i3), (.int i4), (.int i5)] below meth c s₁ [] 0 0 := Stand.of_body Bd
  have e0 : s₁.heap = h0 := by rw [← hh, Bd.state]; rfl
  have N0 := Fr.nil n0
  have hS0 : s.Since s.vm h0.size := (State.WarmedH.refl s).since _
  have CR0 : CHr Z EL s.vm s.heap s.vm h0 := by rw [hh]; exact CHr.refl hCH
  have K0 : Keep h0 h0 [] := Keep.refl h0 _
  show Go p e below (OutW Z EL s (Q_law Z i0 i1 i2 i3 i4 i5 em va kv pa oa pl pv kp ol ov ko G1 h0 n0) room_1.cells room_1.slots) s₁ (entryFrame m #[(.int i0), (.int i1), (.int i2), (.int i3), (.int i4), (.int i5)] maxLocals)
  refine Go.cast (oef_law m i0 i1 i2 i3 i4 i5) ?_
  show Go p e below _ s₁ (mkF m 0 #[.val (.int i0), .val (.int i1), .val (.int i2), .val (.int i3), .val (.int i4), .val (.int i5), .unset, .unset, .unset, .unset, .unset, .unset, .unset] [])
  have P244 : ∀ (T371 : State) (LL371 : List Loc) (hP371 : Heap) (vm371 : Vm) (kk371 : Nat) (ar : Addr) (bs : Int32) (na : Int32) (nn : Int32) (sx : Addr) (st : Addr) (ks : ClassId) (cs : List Int32), Stand p l e room_1 (s.setVm vm371) m #[(.int i0), (.int i1), (.int i2), (.int i3), (.int i4), (.int i5)] below meth c T371 LL371 7 25 → T371.heap = hP371 → Fr n0 LL371 → Keep h0 hP371 [] → Old Z n0 hP371 → s.Since vm371 kk371 → kk371 ≤ hP371.size → Z.Warmed39 vm371 → vm371.findClass "com/example/antecedent/antecedent/EntityTypeForLabelPinLaw" = some m.cls → CHr Z EL s.vm h0 vm371 hP371 → (Exa Z hP371 sx "java/lang/String") → (Fld Z hP371 sx "java/lang/String" "coder" "B" (.int (0 : Int32))) → (Fld Z hP371 sx "java/lang/String" "value" "[B" (.ref st)) → (Arv Z hP371 st ks .byte (Int32.ofNat cs.length) (B8 cs) (.int (0 : Int32))) → (cs.length ≤ 7) → (∀ c ∈ cs, ¬ c < 0 ∧ ¬ (255 : Int32) < c) → Go p e below (OutW Z EL s (Q_law Z i0 i1 i2 i3 i4 i5 em va kv pa oa pl pv kp ol ov ko G1 h0 n0) room_1.cells room_1.slots) T371 (mkF m 244 #[.val (.int i0), .val (.int i1), .val (.int i2), .val (.int i3), .val (.int i4), .val (.int i5), .val (.ref ar), .val (.int bs), .val (.int na), .val (.int nn), .val (.ref sx), .unset, .unset] []) := by
    intro T371 LL371 hP371 vm371 kk371 ar bs na nn sx st ks cs X371 e371 N371 KP371 OP371 hS371 hk371 hZ371 hown371 RP371 S0 S1 S2 S3 HL HC
    have CRP371 := CR0.trans RP371
    refine Go.by (fun t k => XS.aload X371.here hx rfl (hb hby at_244) rfl rfl k) ?_
    show Go p e below _ T371 (mkF m 246 #[.val (.int i0), .val (.int i1), .val (.int i2), .val (.int i3), .val (.int i4), .val (.int i5), .val (.ref ar), .val (.int bs), .val (.int na), .val (.int nn), .val (.ref sx), .unset, .unset] [(.ref sx)])
    obtain ⟨sa372, T372, h372, k372, sb372, kb372, X372, e372, E372, hS372, hk372, hZ372, hown372, PE372, PC372, PV372, PA372, la372, lb372, R372, LT372, SF372, st372⟩ := ldcCH X371 hx hZ371 hown371 (ow34 hw) (ostr hw) e371 hS371 (Nat.le_trans hk371 (Nat.le_refl _)) (hEW hw) (List.mem_of_getElem? (i := 0) rfl) CRP371.1 (vs := ((([112, 101, 114, 115, 111, 110] : List Int32).map (fun c => c.toInt8.toInt32)).map Value.int)) (z := (6 : Int32)) (by decide +kernel) (by decide) (by decide) (g := (mkF m 246 #[.val (.int i0), .val (.int i1), .val (.int i2), .val (.int i3), .val (.int i4), .val (.int i5), .val (.ref ar), .val (.int bs), .val (.int na), .val (.int nn), .val (.ref sx), .unset, .unset] [(.ref sx)])) rfl (hb hby at_246) (n := 24) (by decide) (by decide) (by decide) (by decide)
    refine Go.by st372 ?_
    have CR373 := CRP371.trans R372
    have K373 : Keep h0 h372 [] := KP371.ext E372
    have O373 : Old Z n0 h372 := OP371.ext E372
    show Go p e below _ T372 (mkF m 248 #[.val (.int i0), .val (.int i1), .val (.int i2), .val (.int i3), .val (.int i4), .val (.int i5), .val (.ref ar), .val (.int bs), .val (.int na), .val (.int nn), .val (.ref sx), .unset, .unset] [(.ref sa372), (.ref sx)])
    have F374 : Exa Z h372 sx "java/lang/String" := (S0.ext E372)
    have F375 : Fld Z h372 sx "java/lang/String" "value" "[B" (.ref st) := (S2.ext E372)
    have F376 : Fld Z h372 sx "java/lang/String" "coder" "B" (.int (0 : Int32)) := (S1.ext E372)
    have F377 : Arv Z h372 st ks .byte (Int32.ofNat cs.length) (B8 cs) (.int (0 : Int32)) := (S3.ext E372)
    obtain ⟨cq378, kq378, q378a, q378b, q378c⟩ := isOf hZ372 e372 F374
    obtain ⟨_, _, ⟨T378, L378, k378, n378⟩, -, X378, ⟨Lc378, hQ378, l378, y378, z378⟩, st378⟩ := X372.virtualBack hx (y := (⟨"java/lang/String", "equals", "(Ljava/lang/Object;)Z"⟩ : MethodName)) (z := (⟨"java/lang/String", "equals", "(Ljava/lang/Object;)Z"⟩ : MethodName)) hown372 (mvT hZ372 (ow37 hw)) (mvT hZ372 (ow38 hw)) (notFace_of_selects (args := #[]) (mvT hZ372 (ow40 hw))) (mvT hZ372 (ow40 hw)) (mvT hZ372 (ow39 hw)) (by decide) (StrChars.Road.eqW (W := 0) hZ372 (hw_eq hw) (kI := 4) (ow6 hw) F374 F375 F376 F377 (cod8 rfl HC) (up255 HC) (Nat.le_trans HL (by decide)) PE372 PV372 PC372 PA372 (cod8 (n := 6) rfl per_lo) (up255 per_lo) (by decide) (O2.ext O373.2) P5 (by decide) (by decide)) q378a q378c (g := (mkF m 248 #[.val (.int i0), .val (.int i1), .val (.int i2), .val (.int i3), .val (.int i4), .val (.int i5), .val (.ref ar), .val (.int bs), .val (.int na), .val (.int nn), .val (.ref sx), .unset, .unset] [(.ref sa372), (.ref sx)])) rfl (by rw [hml]; rfl) (Steps.refl _) (argsL := [(.ref sa372)]) (rest := []) (lenOf opd_6 rfl) rfl (by show 2 * 0 + _ ≤ _; exact Nat.le_of_eq rfl) (hb hby at_248) (fun _ _ => ⟨rfl, e372, (by decide : 9 + 0 ≤ _), (by decide : 53 + 0 ≤ _)⟩)
    dsimp only [Pt.U, Pt.locs, Pt.cells, Pt.slots] at X378 l378 y378 z378 st378 hQ378
    subst l378 y378 z378
    obtain ⟨hR378, rfl, e378⟩ := hQ378
    have N378 := Fr.app N371 (Fr.nil n0)
    rcases hR378 with ⟨rfl, he378⟩ | ⟨rfl, he378⟩
    · refine Go.tr st378 ?_
      show Go p e below _ T378 (mkF m 251 #[.val (.int i0), .val (.int i1), .val (.int i2), .val (.int i3), .val (.int i4), .val (.int i5), .val (.ref ar), .val (.int bs), .val (.int na), .val (.int nn), .val (.ref sx), .unset, .unset] [(.int (1 : Int32))])
      refine Go.by (fun t k => XS.ifNo X378.here hx rfl (hb hby at_251) rfl ((if0 _ _).trans (feq (show ¬ ((1 : Int32) = (0 : Int32)) from (by decide))).1) k) ?_
      show Go p e below _ T378 (mkF m 254 #[.val (.int i0), .val (.int i1), .val (.int i2), .val (.int i3), .val (.int i4), .val (.int i5), .val (.ref ar), .val (.int bs), .val (.int na), .val (.int nn), .val (.ref sx), .unset, .unset] [])
      refine Go.by (fun t k => XS.iconst X378.here hx rfl (hb hby at_254) (XS.istore X378.here hx rfl (hb hby at_255) rfl (l' := #[.val (.int i0), .val (.int i1), .val (.int i2), .val (.int i3), .val (.int i4), .val (.int i5), .val (.ref ar), .val (.int bs), .val (.int na), .val (.int nn), .val (.ref sx), .val (.int (0 : Int32)), .unset]) rfl (XS.goto X378.here hx rfl (pc0 := 257) (pc' := 279) rfl (hb hby at_257) (by decide) (by decide) (XS.aload X378.here hx rfl (hb hby at_279) rfl rfl k)))) ?_
      show Go p e below _ T378 (mkF m 281 #[.val (.int i0), .val (.int i1), .val (.int i2), .val (.int i3), .val (.int i4), .val (.int i5), .val (.ref ar), .val (.int bs), .val (.int na), .val (.int nn), .val (.ref sx), .val (.int (0 : Int32)), .unset] [(.ref sx)])
      obtain ⟨_, _, ⟨T379, L379, k379, n379⟩, -, X379, ⟨Lc379, hQ379, l379, y379, z379⟩, st379⟩ := Jvm.LawKit.callS X378 hx (y := (⟨"com/example/antecedent/antecedent/EntityType", "forLabel", "(Ljava/lang/String;)Ljava/util/Optional;"⟩ : MethodName)) hown372 (mvT hZ372 (ow48 hw)) (mvT hZ372 (ow49 hw)) (mvT hZ372 (ow50 hw)) (mvT hZ372 (ow51 hw)) (by decide) (backOf (W := 0) (rm_forLabel l Z a0 hw [] sx st ks cs em va kv pa oa pl pv kp ol ov ko G1 h372 n0 (Nat.le_trans Z0 (Nat.le_trans KP371.1 E372.1)) F374 F376 F375 F377 HL HC O7 OV OE LB0 LB1 LB2 LB3 LB4 LB5 LB6 LB7 LB8 LB9 O6 OM ON O2 P5 O373) hZ372 (ow51 hw) (ow50 hw) (by decide) (by decide)) (g := (mkF m 281 #[.val (.int i0), .val (.int i1), .val (.int i2), .val (.int i3), .val (.int i4), .val (.int i5), .val (.ref ar), .val (.int bs), .val (.int na), .val (.int nn), .val (.ref sx), .val (.int (0 : Int32)), .unset] [(.ref sx)])) rfl (by rw [hml]; rfl) (argsL := [(.ref sx)]) (rest := []) (lenOf opd_8 rfl) rfl (by show 2 * 0 + _ ≤ _; exact Nat.le_of_eq rfl) (hb hby at_281) (fun _ _ => ⟨rfl, e378, (by decide : 9 + 3 ≤ _), (by decide : 53 + 4 ≤ _)⟩)
      dsimp only [Pt.U, Pt.locs, Pt.cells, Pt.slots] at X379 l379 y379 z379 st379 hQ379
      subst l379 y379 z379
      obtain ⟨res_379, rfl, N379q, K379q, P379_0, P379_1⟩ := hQ379
      have N379 := Fr.app N378 N379q
      refine Go.by st379 ?_
      have R380 : CHr Z EL T372.vm h372 T372.vm T379.heap := CHr.keep K379q all0 CR373.1
      have CR380 := CR373.trans R380
      have K380 : Keep h0 T379.heap [] := K373.trans K379q all0
      have O380 : Old Z n0 T379.heap := O373.keep K379q all0
      show Go p e below _ T379 (mkF m 284 #[.val (.int i0), .val (.int i1), .val (.int i2), .val (.int i3), .val (.int i4), .val (.int i5), .val (.ref ar), .val (.int bs), .val (.int na), .val (.int nn), .val (.ref sx), .val (.int (0 : Int32)), .unset] [(.ref res_379)])
      rcases P379_1 with ⟨h1, hF⟩ | ⟨h1, hF⟩ | ⟨h1, h2, hF⟩
      · refine Go.by (fun t k => XS.astore X379.here hx rfl (hb hby at_284) rfl rfl (l' := #[.val (.int i0), .val (.int i1), .val (.int i2), .val (.int i3), .val (.int i4), .val (.int i5), .val (.ref ar), .val (.int bs), .val (.int na), .val (.int nn), .val (.ref sx), .val (.int (0 : Int32)), .val (.ref res_379)]) rfl (XS.iload X379.here hx rfl (hb hby at_286) rfl (XS.ifNo X379.here hx rfl (hb hby at_288) rfl ((if0 _ _).trans (teq (show (0 : Int32) = (0 : Int32) from (by decide))).2) k))) ?_
        show Go p e below _ T379 (mkF m 291 #[.val (.int i0), .val (.int i1), .val (.int i2), .val (.int i3), .val (.int i4), .val (.int i5), .val (.ref ar), .val (.int bs), .val (.int na), .val (.int nn), .val (.ref sx), .val (.int (0 : Int32)), .val (.ref res_379)] [])
        refine Go.by (fun t k => XS.aload X379.here hx rfl (hb hby at_291) rfl rfl k) ?_
        show Go p e below _ T379 (mkF m 293 #[.val (.int i0), .val (.int i1), .val (.int i2), .val (.int i3), .val (.int i4), .val (.int i5), .val (.ref ar), .val (.int bs), .val (.int na), .val (.int nn), .val (.ref sx), .val (.int (0 : Int32)), .val (.ref res_379)] [(.ref res_379)])
        obtain ⟨cq381, kq381, q381a, q381b, q381c⟩ := isOf hZ372 rfl P379_0
        obtain ⟨_, _, ⟨T381, L381, k381, n381⟩, -, X381, ⟨Lc381, hQ381, l381, y381, z381⟩, st381⟩ := X379.virtualBack hx (y := (⟨"java/util/Optional", "isPresent", "()Z"⟩ : MethodName)) (z := (⟨"java/util/Optional", "isPresent", "()Z"⟩ : MethodName)) hown372 (mvT hZ372 (ow77 hw)) (mvT hZ372 (ow78 hw)) (notFace_of_selects (args := #[]) (mvT hZ372 (ow80 hw))) (mvT hZ372 (ow80 hw)) (mvT hZ372 (ow79 hw)) (by decide) (backOf (W := 0) (rm_isp1 l Z a0 hw [] res_379 pa T379.heap n0 (Nat.le_trans Z0 (Nat.le_trans (Nat.le_trans KP371.1 E372.1) K379q.1)) hF) hZ372 (ow81 hw) (ow54 hw) (by decide) (by decide)) q381a q381c (g := (mkF m 293 #[.val (.int i0), .val (.int i1), .val (.int i2), .val (.int i3), .val (.int i4), .val (.int i5), .val (.ref ar), .val (.int bs), .val (.int na), .val (.int nn), .val (.ref sx), .val (.int (0 : Int32)), .val (.ref res_379)] [(.ref res_379)])) rfl (by rw [hml]; rfl) (Steps.refl _) (argsL := []) (rest := []) (lenOf opd_9 rfl) rfl (by show 2 * 0 + _ ≤ _; exact Nat.le_of_eq rfl) (hb hby at_293) (fun _ _ => ⟨rfl, rfl, (by decide : 12 + 0 ≤ _), (by decide : 57 + 0 ≤ _)⟩)
        dsimp only [Pt.U, Pt.locs, Pt.cells, Pt.slots] at X381 l381 y381 z381 st381 hQ381
        subst l381 y381 z381
        obtain ⟨rfl, N381q, e381⟩ := hQ381
        have N381 := Fr.app N379 N381q
        refine Go.tr st381 ?_
        show Go p e below _ T381 (mkF m 296 #[.val (.int i0), .val (.int i1), .val (.int i2), .val (.int i3), .val (.int i4), .val (.int i5), .val (.ref ar), .val (.int bs), .val (.int na), .val (.int nn), .val (.ref sx), .val (.int (0 : Int32)), .val (.ref res_379)] [(.int (1 : Int32))])
        refine Go.by (fun t k => XS.ifNo X381.here hx rfl (hb hby at_296) rfl ((if0 _ _).trans (feq (show ¬ ((1 : Int32) = (0 : Int32)) from (by decide))).1) k) ?_
        show Go p e below _ T381 (mkF m 299 #[.val (.int i0), .val (.int i1), .val (.int i2), .val (.int i3), .val (.int i4), .val (.int i5), .val (.ref ar), .val (.int bs), .val (.int na), .val (.int nn), .val (.ref sx), .val (.int (0 : Int32)), .val (.ref res_379)] [])
        refine Go.by (fun t k => XS.aload X381.here hx rfl (hb hby at_299) rfl rfl k) ?_
        show Go p e below _ T381 (mkF m 301 #[.val (.int i0), .val (.int i1), .val (.int i2), .val (.int i3), .val (.int i4), .val (.int i5), .val (.ref ar), .val (.int bs), .val (.int na), .val (.int nn), .val (.ref sx), .val (.int (0 : Int32)), .val (.ref res_379)] [(.ref res_379)])
        obtain ⟨cq382, kq382, q382a, q382b, q382c⟩ := isOf hZ372 e381 P379_0
        obtain ⟨_, _, ⟨T382, L382, k382, n382⟩, -, X382, ⟨Lc382, hQ382, l382, y382, z382⟩, st382⟩ := X381.virtualBack hx (y := (⟨"java/util/Optional", "get", "()Ljava/lang/Object;"⟩ : MethodName)) (z := (⟨"java/util/Optional", "get", "()Ljava/lang/Object;"⟩ : MethodName)) hown372 (mvT hZ372 (ow99 hw)) (mvT hZ372 (ow100 hw)) (notFace_of_selects (args := #[]) (mvT hZ372 (ow102 hw))) (mvT hZ372 (ow102 hw)) (mvT hZ372 (ow101 hw)) (by decide) (backOf (W := 0) (rm_oget l Z a0 hw [] res_379 pa T379.heap n0 (Nat.le_trans Z0 (Nat.le_trans (Nat.le_trans KP371.1 E372.1) K379q.1)) hF) hZ372 (ow103 hw) (ow54 hw) (by decide) (by decide)) q382a q382c (g := (mkF m 301 #[.val (.int i0), .val (.int i1), .val (.int i2), .val (.int i3), .val (.int i4), .val (.int i5), .val (.ref ar), .val (.int bs), .val (.int na), .val (.int nn), .val (.ref sx), .val (.int (0 : Int32)), .val (.ref res_379)] [(.ref res_379)])) rfl (by rw [hml]; rfl) (Steps.refl _) (argsL := []) (rest := []) (lenOf opd_10 rfl) rfl (by show 2 * 0 + _ ≤ _; exact Nat.le_of_eq rfl) (hb hby at_301) (fun _ _ => ⟨rfl, e381, (by decide : 12 + 0 ≤ _), (by decide : 57 + 0 ≤ _)⟩)
        dsimp only [Pt.U, Pt.locs, Pt.cells, Pt.slots] at X382 l382 y382 z382 st382 hQ382
        subst l382 y382 z382
        obtain ⟨rfl, N382q, e382⟩ := hQ382
        have N382 := Fr.app N381 N382q
        refine Go.tr st382 ?_
        show Go p e below _ T382 (mkF m 304 #[.val (.int i0), .val (.int i1), .val (.int i2), .val (.int i3), .val (.int i4), .val (.int i5), .val (.ref ar), .val (.int bs), .val (.int na), .val (.int nn), .val (.ref sx), .val (.int (0 : Int32)), .val (.ref res_379)] [(.ref pa)])
        obtain ⟨T383, X383, e383, st383⟩ := getS2 X382 hx hZ372 hown372 (host := "") (Or.inl (ow105 hw)) Via.refl e382 (O8.ext O380.2) (g := (mkF m 304 #[.val (.int i0), .val (.int i1), .val (.int i2), .val (.int i3), .val (.int i4), .val (.int i5), .val (.ref ar), .val (.int bs), .val (.int na), .val (.int nn), .val (.ref sx), .val (.int (0 : Int32)), .val (.ref res_379)] [(.ref pa)])) rfl (hb hby at_304)
        refine Go.by st383 ?_
        show Go p e below _ T383 (mkF m 307 #[.val (.int i0), .val (.int i1), .val (.int i2), .val (.int i3), .val (.int i4), .val (.int i5), .val (.ref ar), .val (.int bs), .val (.int na), .val (.int nn), .val (.ref sx), .val (.int (0 : Int32)), .val (.ref res_379)] [(.ref pa), (.ref pa)])
        refine Go.by (fun t k => Jvm.RoadKit.acmp (g := (mkF m 307 #[.val (.int i0), .val (.int i1), .val (.int i2), .val (.int i3), .val (.int i4), .val (.int i5), .val (.ref ar), .val (.int bs), .val (.int na), .val (.int nn), .val (.ref sx), .val (.int (0 : Int32)), .val (.ref res_379)] [(.ref pa), (.ref pa)])) X383 hx rfl rfl rfl (pc0 := 307) (pc' := 310) (same := true) rfl (hb hby at_307) rfl (decide_eq_true rfl) (by decide) (by decide) k) ?_
        show Go p e below _ T383 (mkF m 310 #[.val (.int i0), .val (.int i1), .val (.int i2), .val (.int i3), .val (.int i4), .val (.int i5), .val (.ref ar), .val (.int bs), .val (.int na), .val (.int nn), .val (.ref sx), .val (.int (0 : Int32)), .val (.ref res_379)] [])
        refine Go.by (fun t k => XS.iconst X383.here hx rfl (hb hby at_310) (XS.goto X383.here hx rfl (pc0 := 311) (pc' := 315) rfl (hb hby at_311) (by decide) (by decide) k)) ?_
        show Go p e below _ T383 (mkF m 315 #[.val (.int i0), .val (.int i1), .val (.int i2), .val (.int i3), .val (.int i4), .val (.int i5), .val (.ref ar), .val (.int bs), .val (.int na), .val (.int nn), .val (.ref sx), .val (.int (0 : Int32)), .val (.ref res_379)] [(.int (1 : Int32))])
        exact Go.retNW X383 hx (t := .boolean) hret (by simp) hlk (hb hby at_315) hS372 (by rw [e383]; exact (Nat.le_trans hk372 K379q.1)) hZ372 (hEW hw) (by rw [e383]; exact CR380) (by first | (rw [e383]; exact ⟨rfl, N382, K380⟩) | exact ⟨rfl, N382, K380⟩) (by decide) (by decide)
      · exact absurd (he378.symm.trans h1) (by decide)
      · exact absurd he378 h1
    · refine Go.tr st378 ?_
      show Go p e below _ T378 (mkF m 251 #[.val (.int i0), .val (.int i1), .val (.int i2), .val (.int i3), .val (.int i4), .val (.int i5), .val (.ref ar), .val (.int bs), .val (.int na), .val (.int nn), .val (.ref sx), .unset, .unset] [(.int (0 : Int32))])
      refine Go.by (fun t k => XS.ifYes X378.here hx rfl (pc0 := 251) (pc' := 260) rfl (hb hby at_251) rfl ((if0 _ _).trans (teq (show (0 : Int32) = (0 : Int32) from (by decide))).1) (by decide) (by decide) k) ?_
      show Go p e below _ T378 (mkF m 260 #[.val (.int i0), .val (.int i1), .val (.int i2), .val (.int i3), .val (.int i4), .val (.int i5), .val (.ref ar), .val (.int bs), .val (.int na), .val (.int nn), .val (.ref sx), .unset, .unset] [])
      refine Go.by (fun t k => XS.aload X378.here hx rfl (hb hby at_260) rfl rfl k) ?_
      show Go p e below _ T378 (mkF m 262 #[.val (.int i0), .val (.int i1), .val (.int i2), .val (.int i3), .val (.int i4), .val (.int i5), .val (.ref ar), .val (.int bs), .val (.int na), .val (.int nn), .val (.ref sx), .unset, .unset] [(.ref sx)])
      obtain ⟨sa384, T384, h384, k384, sb384, kb384, X384, e384, E384, hS384, hk384, hZ384, hown384, PE384, PC384, PV384, PA384, la384, lb384, R384, LT384, SF384, st384⟩ := ldcCH X378 hx hZ372 hown372 (ow47 hw) (ostr hw) e378 hS372 (Nat.le_trans hk372 (Nat.le_refl _)) (hEW hw) (List.mem_of_getElem? (i := 1) rfl) CR373.1 (vs := ((([111, 116, 104, 101, 114] : List Int32).map (fun c => c.toInt8.toInt32)).map Value.int)) (z := (5 : Int32)) (by decide +kernel) (by decide) (by decide) (g := (mkF m 262 #[.val (.int i0), .val (.int i1), .val (.int i2), .val (.int i3), .val (.int i4), .val (.int i5), .val (.ref ar), .val (.int bs), .val (.int na), .val (.int nn), .val (.ref sx), .unset, .unset] [(.ref sx)])) rfl (hb hby at_262) (n := 20) (by decide) (by decide) (by decide) (by decide)
      refine Go.by st384 ?_
      have CR385 := CR373.trans R384
      have K385 : Keep h0 h384 [] := K373.ext E384
      have O385 : Old Z n0 h384 := O373.ext E384
      show Go p e below _ T384 (mkF m 264 #[.val (.int i0), .val (.int i1), .val (.int i2), .val (.int i3), .val (.int i4), .val (.int i5), .val (.ref ar), .val (.int bs), .val (.int na), .val (.int nn), .val (.ref sx), .unset, .unset] [(.ref sa384), (.ref sx)])
      have F386 : Exa Z h384 sx "java/lang/String" := (F374.ext E384)
      have F387 : Fld Z h384 sx "java/lang/String" "value" "[B" (.ref st) := (F375.ext E384)
      have F388 : Fld Z h384 sx "java/lang/String" "coder" "B" (.int (0 : Int32)) := (F376.ext E384)
      have F389 : Arv Z h384 st ks .byte (Int32.ofNat cs.length) (B8 cs) (.int (0 : Int32)) := (F377.ext E384)
      obtain ⟨cq390, kq390, q390a, q390b, q390c⟩ := isOf hZ384 e384 F386
      obtain ⟨_, _, ⟨T390, L390, k390, n390⟩, -, X390, ⟨Lc390, hQ390, l390, y390, z390⟩, st390⟩ := X384.virtualBack hx (y := (⟨"java/lang/String", "equals", "(Ljava/lang/Object;)Z"⟩ : MethodName)) (z := (⟨"java/lang/String", "equals", "(Ljava/lang/Object;)Z"⟩ : MethodName)) hown384 (mvT hZ384 (ow37 hw)) (mvT hZ384 (ow38 hw)) (notFace_of_selects (args := #[]) (mvT hZ384 (ow40 hw))) (mvT hZ384 (ow40 hw)) (mvT hZ384 (ow39 hw)) (by decide) (StrChars.Road.eqW (W := 0) hZ384 (hw_eq hw) (kI := 4) (ow6 hw) F386 F387 F388 F389 (cod8 rfl HC) (up255 HC) (Nat.le_trans HL (by decide)) PE384 PV384 PC384 PA384 (cod8 (n := 5) rfl oth_lo) (up255 oth_lo) (by decide) (O2.ext O385.2) P5 (by decide) (by decide)) q390a q390c (g := (mkF m 264 #[.val (.int i0), .val (.int i1), .val (.int i2), .val (.int i3), .val (.int i4), .val (.int i5), .val (.ref ar), .val (.int bs), .val (.int na), .val (.int nn), .val (.ref sx), .unset, .unset] [(.ref sa384), (.ref sx)])) rfl (by rw [hml]; rfl) (Steps.refl _) (argsL := [(.ref sa384)]) (rest := []) (lenOf opd_6 rfl) rfl (by show 2 * 0 + _ ≤ _; exact Nat.le_of_eq rfl) (hb hby at_264) (fun _ _ => ⟨rfl, e384, (by decide : 11 + 0 ≤ _), (by decide : 77 + 0 ≤ _)⟩)
      dsimp only [Pt.U, Pt.locs, Pt.cells, Pt.slots] at X390 l390 y390 z390 st390 hQ390
      subst l390 y390 z390
      obtain ⟨hR390, rfl, e390⟩ := hQ390
      have N390 := Fr.app N378 (Fr.nil n0)
      rcases hR390 with ⟨rfl, he390⟩ | ⟨rfl, he390⟩
      · refine Go.tr st390 ?_
        show Go p e below _ T390 (mkF m 267 #[.val (.int i0), .val (.int i1), .val (.int i2), .val (.int i3), .val (.int i4), .val (.int i5), .val (.ref ar), .val (.int bs), .val (.int na), .val (.int nn), .val (.ref sx), .unset, .unset] [(.int (1 : Int32))])
        refine Go.by (fun t k => XS.ifNo X390.here hx rfl (hb hby at_267) rfl ((if0 _ _).trans (feq (show ¬ ((1 : Int32) = (0 : Int32)) from (by decide))).1) k) ?_
        show Go p e below _ T390 (mkF m 270 #[.val (.int i0), .val (.int i1), .val (.int i2), .val (.int i3), .val (.int i4), .val (.int i5), .val (.ref ar), .val (.int bs), .val (.int na), .val (.int nn), .val (.ref sx), .unset, .unset] [])
        refine Go.by (fun t k => XS.iconst X390.here hx rfl (hb hby at_270) (XS.istore X390.here hx rfl (hb hby at_271) rfl (l' := #[.val (.int i0), .val (.int i1), .val (.int i2), .val (.int i3), .val (.int i4), .val (.int i5), .val (.ref ar), .val (.int bs), .val (.int na), .val (.int nn), .val (.ref sx), .val (.int (1 : Int32)), .unset]) rfl (XS.goto X390.here hx rfl (pc0 := 273) (pc' := 279) rfl (hb hby at_273) (by decide) (by decide) (XS.aload X390.here hx rfl (hb hby at_279) rfl rfl k)))) ?_
        show Go p e below _ T390 (mkF m 281 #[.val (.int i0), .val (.int i1), .val (.int i2), .val (.int i3), .val (.int i4), .val (.int i5), .val (.ref ar), .val (.int bs), .val (.int na), .val (.int nn), .val (.ref sx), .val (.int (1 : Int32)), .unset] [(.ref sx)])
        obtain ⟨_, _, ⟨T391, L391, k391, n391⟩, -, X391, ⟨Lc391, hQ391, l391, y391, z391⟩, st391⟩ := Jvm.LawKit.callS X390 hx (y := (⟨"com/example/antecedent/antecedent/EntityType", "forLabel", "(Ljava/lang/String;)Ljava/util/Optional;"⟩ : MethodName)) hown384 (mvT hZ384 (ow48 hw)) (mvT hZ384 (ow49 hw)) (mvT hZ384 (ow50 hw)) (mvT hZ384 (ow51 hw)) (by decide) (backOf (W := 0) (rm_forLabel l Z a0 hw [] sx st ks cs em va kv pa oa pl pv kp ol ov ko G1 h384 n0 (Nat.le_trans Z0 (Nat.le_trans (Nat.le_trans KP371.1 E372.1) E384.1)) F386 F388 F387 F389 HL HC O7 OV OE LB0 LB1 LB2 LB3 LB4 LB5 LB6 LB7 LB8 LB9 O6 OM ON O2 P5 O385) hZ384 (ow51 hw) (ow50 hw) (by decide) (by decide)) (g := (mkF m 281 #[.val (.int i0), .val (.int i1), .val (.int i2), .val (.int i3), .val (.int i4), .val (.int i5), .val (.ref ar), .val (.int bs), .val (.int na), .val (.int nn), .val (.ref sx), .val (.int (1 : Int32)), .unset] [(.ref sx)])) rfl (by rw [hml]; rfl) (argsL := [(.ref sx)]) (rest := []) (lenOf opd_8 rfl) rfl (by show 2 * 0 + _ ≤ _; exact Nat.le_of_eq rfl) (hb hby at_281) (fun _ _ => ⟨rfl, e390, (by decide : 11 + 3 ≤ _), (by decide : 77 + 4 ≤ _)⟩)
        dsimp only [Pt.U, Pt.locs, Pt.cells, Pt.slots] at X391 l391 y391 z391 st391 hQ391
        subst l391 y391 z391
        obtain ⟨res_391, rfl, N391q, K391q, P391_0, P391_1⟩ := hQ391
        have N391 := Fr.app N390 N391q
        refine Go.by st391 ?_
        have R392 : CHr Z EL T384.vm h384 T384.vm T391.heap := CHr.keep K391q all0 CR385.1
        have CR392 := CR385.trans R392
        have K392 : Keep h0 T391.heap [] := K385.trans K391q all0
        have O392 : Old Z n0 T391.heap := O385.keep K391q all0
        show Go p e below _ T391 (mkF m 284 #[.val (.int i0), .val (.int i1), .val (.int i2), .val (.int i3), .val (.int i4), .val (.int i5), .val (.ref ar), .val (.int bs), .val (.int na), .val (.int nn), .val (.ref sx), .val (.int (1 : Int32)), .unset] [(.ref res_391)])
        rcases P391_1 with ⟨h1, hF⟩ | ⟨h1, hF⟩ | ⟨h1, h2, hF⟩
        · exact absurd (he390.symm.trans h1) (by decide)
        · refine Go.by (fun t k => XS.astore X391.here hx rfl (hb hby at_284) rfl rfl (l' := #[.val (.int i0), .val (.int i1), .val (.int i2), .val (.int i3), .val (.int i4), .val (.int i5), .val (.ref ar), .val (.int bs), .val (.int na), .val (.int nn), .val (.ref sx), .val (.int (1 : Int32)), .val (.ref res_391)]) rfl (XS.iload X391.here hx rfl (hb hby at_286) rfl (XS.ifYes X391.here hx rfl (pc0 := 288) (pc' := 316) rfl (hb hby at_288) rfl ((if0 _ _).trans (feq (show ¬ ((1 : Int32) = (0 : Int32)) from (by decide))).2) (by decide) (by decide) k))) ?_
          show Go p e below _ T391 (mkF m 316 #[.val (.int i0), .val (.int i1), .val (.int i2), .val (.int i3), .val (.int i4), .val (.int i5), .val (.ref ar), .val (.int bs), .val (.int na), .val (.int nn), .val (.ref sx), .val (.int (1 : Int32)), .val (.ref res_391)] [])
          refine Go.by (fun t k => XS.iload X391.here hx rfl (hb hby at_316) rfl (XS.iconst X391.here hx rfl (hb hby at_318) (XS.icmpNo X391.here hx rfl (hb hby at_319) rfl (teq (show (1 : Int32) = (1 : Int32) from (by decide))).2 k))) ?_
          show Go p e below _ T391 (mkF m 322 #[.val (.int i0), .val (.int i1), .val (.int i2), .val (.int i3), .val (.int i4), .val (.int i5), .val (.ref ar), .val (.int bs), .val (.int na), .val (.int nn), .val (.ref sx), .val (.int (1 : Int32)), .val (.ref res_391)] [])
          refine Go.by (fun t k => XS.aload X391.here hx rfl (hb hby at_322) rfl rfl k) ?_
          show Go p e below _ T391 (mkF m 324 #[.val (.int i0), .val (.int i1), .val (.int i2), .val (.int i3), .val (.int i4), .val (.int i5), .val (.ref ar), .val (.int bs), .val (.int na), .val (.int nn), .val (.ref sx), .val (.int (1 : Int32)), .val (.ref res_391)] [(.ref res_391)])
          obtain ⟨cq393, kq393, q393a, q393b, q393c⟩ := isOf hZ384 rfl P391_0
          obtain ⟨_, _, ⟨T393, L393, k393, n393⟩, -, X393, ⟨Lc393, hQ393, l393, y393, z393⟩, st393⟩ := X391.virtualBack hx (y := (⟨"java/util/Optional", "isPresent", "()Z"⟩ : MethodName)) (z := (⟨"java/util/Optional", "isPresent", "()Z"⟩ : MethodName)) hown384 (mvT hZ384 (ow77 hw)) (mvT hZ384 (ow78 hw)) (notFace_of_selects (args := #[]) (mvT hZ384 (ow80 hw))) (mvT hZ384 (ow80 hw)) (mvT hZ384 (ow79 hw)) (by decide) (backOf (W := 0) (rm_isp1 l Z a0 hw [] res_391 oa T391.heap n0 (Nat.le_trans Z0 (Nat.le_trans (Nat.le_trans (Nat.le_trans KP371.1 E372.1) E384.1) K391q.1)) hF) hZ384 (ow81 hw) (ow54 hw) (by decide) (by decide)) q393a q393c (g := (mkF m 324 #[.val (.int i0), .val (.int i1), .val (.int i2), .val (.int i3), .val (.int i4), .val (.int i5), .val (.ref ar), .val (.int bs), .val (.int na), .val (.int nn), .val (.ref sx), .val (.int (1 : Int32)), .val (.ref res_391)] [(.ref res_391)])) rfl (by rw [hml]; rfl) (Steps.refl _) (argsL := []) (rest := []) (lenOf opd_9 rfl) rfl (by show 2 * 0 + _ ≤ _; exact Nat.le_of_eq rfl) (hb hby at_324) (fun _ _ => ⟨rfl, rfl, (by decide : 14 + 0 ≤ _), (by decide : 81 + 0 ≤ _)⟩)
          dsimp only [Pt.U, Pt.locs, Pt.cells, Pt.slots] at X393 l393 y393 z393 st393 hQ393
          subst l393 y393 z393
          obtain ⟨rfl, N393q, e393⟩ := hQ393
          have N393 := Fr.app N391 N393q
          refine Go.tr st393 ?_
          show Go p e below _ T393 (mkF m 327 #[.val (.int i0), .val (.int i1), .val (.int i2), .val (.int i3), .val (.int i4), .val (.int i5), .val (.ref ar), .val (.int bs), .val (.int na), .val (.int nn), .val (.ref sx), .val (.int (1 : Int32)), .val (.ref res_391)] [(.int (1 : Int32))])
          refine Go.by (fun t k => XS.ifNo X393.here hx rfl (hb hby at_327) rfl ((if0 _ _).trans (feq (show ¬ ((1 : Int32) = (0 : Int32)) from (by decide))).1) k) ?_
          show Go p e below _ T393 (mkF m 330 #[.val (.int i0), .val (.int i1), .val (.int i2), .val (.int i3), .val (.int i4), .val (.int i5), .val (.ref ar), .val (.int bs), .val (.int na), .val (.int nn), .val (.ref sx), .val (.int (1 : Int32)), .val (.ref res_391)] [])
          refine Go.by (fun t k => XS.aload X393.here hx rfl (hb hby at_330) rfl rfl k) ?_
          show Go p e below _ T393 (mkF m 332 #[.val (.int i0), .val (.int i1), .val (.int i2), .val (.int i3), .val (.int i4), .val (.int i5), .val (.ref ar), .val (.int bs), .val (.int na), .val (.int nn), .val (.ref sx), .val (.int (1 : Int32)), .val (.ref res_391)] [(.ref res_391)])
          obtain ⟨cq394, kq394, q394a, q394b, q394c⟩ := isOf hZ384 e393 P391_0
          obtain ⟨_, _, ⟨T394, L394, k394, n394⟩, -, X394, ⟨Lc394, hQ394, l394, y394, z394⟩, st394⟩ := X393.virtualBack hx (y := (⟨"java/util/Optional", "get", "()Ljava/lang/Object;"⟩ : MethodName)) (z := (⟨"java/util/Optional", "get", "()Ljava/lang/Object;"⟩ : MethodName)) hown384 (mvT hZ384 (ow99 hw)) (mvT hZ384 (ow100 hw)) (notFace_of_selects (args := #[]) (mvT hZ384 (ow102 hw))) (mvT hZ384 (ow102 hw)) (mvT hZ384 (ow101 hw)) (by decide) (backOf (W := 0) (rm_oget l Z a0 hw [] res_391 oa T391.heap n0 (Nat.le_trans Z0 (Nat.le_trans (Nat.le_trans (Nat.le_trans KP371.1 E372.1) E384.1) K391q.1)) hF) hZ384 (ow103 hw) (ow54 hw) (by decide) (by decide)) q394a q394c (g := (mkF m 332 #[.val (.int i0), .val (.int i1), .val (.int i2), .val (.int i3), .val (.int i4), .val (.int i5), .val (.ref ar), .val (.int bs), .val (.int na), .val (.int nn), .val (.ref sx), .val (.int (1 : Int32)), .val (.ref res_391)] [(.ref res_391)])) rfl (by rw [hml]; rfl) (Steps.refl _) (argsL := []) (rest := []) (lenOf opd_10 rfl) rfl (by show 2 * 0 + _ ≤ _; exact Nat.le_of_eq rfl) (hb hby at_332) (fun _ _ => ⟨rfl, e393, (by decide : 14 + 0 ≤ _), (by decide : 81 + 0 ≤ _)⟩)
          dsimp only [Pt.U, Pt.locs, Pt.cells, Pt.slots] at X394 l394 y394 z394 st394 hQ394
          subst l394 y394 z394
          obtain ⟨rfl, N394q, e394⟩ := hQ394
          have N394 := Fr.app N393 N394q
          refine Go.tr st394 ?_
          show Go p e below _ T394 (mkF m 335 #[.val (.int i0), .val (.int i1), .val (.int i2), .val (.int i3), .val (.int i4), .val (.int i5), .val (.ref ar), .val (.int bs), .val (.int na), .val (.int nn), .val (.ref sx), .val (.int (1 : Int32)), .val (.ref res_391)] [(.ref oa)])
          obtain ⟨T395, X395, e395, st395⟩ := getS2 X394 hx hZ384 hown384 (host := "") (Or.inl (ow104 hw)) Via.refl e394 (O9.ext O392.2) (g := (mkF m 335 #[.val (.int i0), .val (.int i1), .val (.int i2), .val (.int i3), .val (.int i4), .val (.int i5), .val (.ref ar), .val (.int bs), .val (.int na), .val (.int nn), .val (.ref sx), .val (.int (1 : Int32)), .val (.ref res_391)] [(.ref oa)])) rfl (hb hby at_335)
          refine Go.by st395 ?_
          show Go p e below _ T395 (mkF m 338 #[.val (.int i0), .val (.int i1), .val (.int i2), .val (.int i3), .val (.int i4), .val (.int i5), .val (.ref ar), .val (.int bs), .val (.int na), .val (.int nn), .val (.ref sx), .val (.int (1 : Int32)), .val (.ref res_391)] [(.ref oa), (.ref oa)])
          refine Go.by (fun t k => Jvm.RoadKit.acmp (g := (mkF m 338 #[.val (.int i0), .val (.int i1), .val (.int i2), .val (.int i3), .val (.int i4), .val (.int i5), .val (.ref ar), .val (.int bs), .val (.int na), .val (.int nn), .val (.ref sx), .val (.int (1 : Int32)), .val (.ref res_391)] [(.ref oa), (.ref oa)])) X395 hx rfl rfl rfl (pc0 := 338) (pc' := 341) (same := true) rfl (hb hby at_338) rfl (decide_eq_true rfl) (by decide) (by decide) k) ?_
          show Go p e below _ T395 (mkF m 341 #[.val (.int i0), .val (.int i1), .val (.int i2), .val (.int i3), .val (.int i4), .val (.int i5), .val (.ref ar), .val (.int bs), .val (.int na), .val (.int nn), .val (.ref sx), .val (.int (1 : Int32)), .val (.ref res_391)] [])
          refine Go.by (fun t k => XS.iconst X395.here hx rfl (hb hby at_341) (XS.goto X395.here hx rfl (pc0 := 342) (pc' := 346) rfl (hb hby at_342) (by decide) (by decide) k)) ?_
          show Go p e below _ T395 (mkF m 346 #[.val (.int i0), .val (.int i1), .val (.int i2), .val (.int i3), .val (.int i4), .val (.int i5), .val (.ref ar), .val (.int bs), .val (.int na), .val (.int nn), .val (.ref sx), .val (.int (1 : Int32)), .val (.ref res_391)] [(.int (1 : Int32))])
          exact Go.retNW X395 hx (t := .boolean) hret (by simp) hlk (hb hby at_346) hS384 (by rw [e395]; exact (Nat.le_trans hk384 K391q.1)) hZ384 (hEW hw) (by rw [e395]; exact CR392) (by first | (rw [e395]; exact ⟨rfl, N394, K392⟩) | exact ⟨rfl, N394, K392⟩) (by decide) (by decide)
        · exact absurd he390 h2
      · refine Go.tr st390 ?_
        show Go p e below _ T390 (mkF m 267 #[.val (.int i0), .val (.int i1), .val (.int i2), .val (.int i3), .val (.int i4), .val (.int i5), .val (.ref ar), .val (.int bs), .val (.int na), .val (.int nn), .val (.ref sx), .unset, .unset] [(.int (0 : Int32))])
        refine Go.by (fun t k => XS.ifYes X390.here hx rfl (pc0 := 267) (pc' := 276) rfl (hb hby at_267) rfl ((if0 _ _).trans (teq (show (0 : Int32) = (0 : Int32) from (by decide))).1) (by decide) (by decide) k) ?_
        show Go p e below _ T390 (mkF m 276 #[.val (.int i0), .val (.int i1), .val (.int i2), .val (.int i3), .val (.int i4), .val (.int i5), .val (.ref ar), .val (.int bs), .val (.int na), .val (.int nn), .val (.ref sx), .unset, .unset] [])
        refine Go.by (fun t k => XS.iconst X390.here hx rfl (hb hby at_276) (XS.istore X390.here hx rfl (hb hby at_277) rfl (l' := #[.val (.int i0), .val (.int i1), .val (.int i2), .val (.int i3), .val (.int i4), .val (.int i5), .val (.ref ar), .val (.int bs), .val (.int na), .val (.int nn), .val (.ref sx), .val (.int (2 : Int32)), .unset]) rfl (XS.aload X390.here hx rfl (hb hby at_279) rfl rfl k))) ?_
        show Go p e below _ T390 (mkF m 281 #[.val (.int i0), .val (.int i1), .val (.int i2), .val (.int i3), .val (.int i4), .val (.int i5), .val (.ref ar), .val (.int bs), .val (.int na), .val (.int nn), .val (.ref sx), .val (.int (2 : Int32)), .unset] [(.ref sx)])
        obtain ⟨_, _, ⟨T396, L396, k396, n396⟩, -, X396, ⟨Lc396, hQ396, l396, y396, z396⟩, st396⟩ := Jvm.LawKit.callS X390 hx (y := (⟨"com/example/antecedent/antecedent/EntityType", "forLabel", "(Ljava/lang/String;)Ljava/util/Optional;"⟩ : MethodName)) hown384 (mvT hZ384 (ow48 hw)) (mvT hZ384 (ow49 hw)) (mvT hZ384 (ow50 hw)) (mvT hZ384 (ow51 hw)) (by decide) (backOf (W := 0) (rm_forLabel l Z a0 hw [] sx st ks cs em va kv pa oa pl pv kp ol ov ko G1 h384 n0 (Nat.le_trans Z0 (Nat.le_trans (Nat.le_trans KP371.1 E372.1) E384.1)) F386 F388 F387 F389 HL HC O7 OV OE LB0 LB1 LB2 LB3 LB4 LB5 LB6 LB7 LB8 LB9 O6 OM ON O2 P5 O385) hZ384 (ow51 hw) (ow50 hw) (by decide) (by decide)) (g := (mkF m 281 #[.val (.int i0), .val (.int i1), .val (.int i2), .val (.int i3), .val (.int i4), .val (.int i5), .val (.ref ar), .val (.int bs), .val (.int na), .val (.int nn), .val (.ref sx), .val (.int (2 : Int32)), .unset] [(.ref sx)])) rfl (by rw [hml]; rfl) (argsL := [(.ref sx)]) (rest := []) (lenOf opd_8 rfl) rfl (by show 2 * 0 + _ ≤ _; exact Nat.le_of_eq rfl) (hb hby at_281) (fun _ _ => ⟨rfl, e390, (by decide : 11 + 3 ≤ _), (by decide : 77 + 4 ≤ _)⟩)
        dsimp only [Pt.U, Pt.locs, Pt.cells, Pt.slots] at X396 l396 y396 z396 st396 hQ396
        subst l396 y396 z396
        obtain ⟨res_396, rfl, N396q, K396q, P396_0, P396_1⟩ := hQ396
        have N396 := Fr.app N390 N396q
        refine Go.by st396 ?_
        have R397 : CHr Z EL T384.vm h384 T384.vm T396.heap := CHr.keep K396q all0 CR385.1
        have CR397 := CR385.trans R397
        have K397 : Keep h0 T396.heap [] := K385.trans K396q all0
        have O397 : Old Z n0 T396.heap := O385.keep K396q all0
        show Go p e below _ T396 (mkF m 284 #[.val (.int i0), .val (.int i1), .val (.int i2), .val (.int i3), .val (.int i4), .val (.int i5), .val (.ref ar), .val (.int bs), .val (.int na), .val (.int nn), .val (.ref sx), .val (.int (2 : Int32)), .unset] [(.ref res_396)])
        rcases P396_1 with ⟨h1, hF⟩ | ⟨h1, hF⟩ | ⟨h1, h2, hF⟩
        · exact absurd h1 he378
        · exact absurd h1 he390
        · refine Go.by (fun t k => XS.astore X396.here hx rfl (hb hby at_284) rfl rfl (l' := #[.val (.int i0), .val (.int i1), .val (.int i2), .val (.int i3), .val (.int i4), .val (.int i5), .val (.ref ar), .val (.int bs), .val (.int na), .val (.int nn), .val (.ref sx), .val (.int (2 : Int32)), .val (.ref res_396)]) rfl (XS.iload X396.here hx rfl (hb hby at_286) rfl (XS.ifYes X396.here hx rfl (pc0 := 288) (pc' := 316) rfl (hb hby at_288) rfl ((if0 _ _).trans (feq (show ¬ ((2 : Int32) = (0 : Int32)) from (by decide))).2) (by decide) (by decide) k))) ?_
          show Go p e below _ T396 (mkF m 316 #[.val (.int i0), .val (.int i1), .val (.int i2), .val (.int i3), .val (.int i4), .val (.int i5), .val (.ref ar), .val (.int bs), .val (.int na), .val (.int nn), .val (.ref sx), .val (.int (2 : Int32)), .val (.ref res_396)] [])
          refine Go.by (fun t k => XS.iload X396.here hx rfl (hb hby at_316) rfl (XS.iconst X396.here hx rfl (hb hby at_318) (XS.icmpYes X396.here hx rfl (pc0 := 319) (pc' := 347) rfl (hb hby at_319) rfl (feq (show ¬ ((2 : Int32) = (1 : Int32)) from (by decide))).2 (by decide) (by decide) k))) ?_
          show Go p e below _ T396 (mkF m 347 #[.val (.int i0), .val (.int i1), .val (.int i2), .val (.int i3), .val (.int i4), .val (.int i5), .val (.ref ar), .val (.int bs), .val (.int na), .val (.int nn), .val (.ref sx), .val (.int (2 : Int32)), .val (.ref res_396)] [])
          refine Go.by (fun t k => XS.aload X396.here hx rfl (hb hby at_347) rfl rfl k) ?_
          show Go p e below _ T396 (mkF m 349 #[.val (.int i0), .val (.int i1), .val (.int i2), .val (.int i3), .val (.int i4), .val (.int i5), .val (.ref ar), .val (.int bs), .val (.int na), .val (.int nn), .val (.ref sx), .val (.int (2 : Int32)), .val (.ref res_396)] [(.ref res_396)])
          obtain ⟨cq398, kq398, q398a, q398b, q398c⟩ := isOf hZ384 rfl P396_0
          obtain ⟨_, _, ⟨T398, L398, k398, n398⟩, -, X398, ⟨Lc398, hQ398, l398, y398, z398⟩, st398⟩ := X396.virtualBack hx (y := (⟨"java/util/Optional", "isPresent", "()Z"⟩ : MethodName)) (z := (⟨"java/util/Optional", "isPresent", "()Z"⟩ : MethodName)) hown384 (mvT hZ384 (ow77 hw)) (mvT hZ384 (ow78 hw)) (notFace_of_selects (args := #[]) (mvT hZ384 (ow80 hw))) (mvT hZ384 (ow80 hw)) (mvT hZ384 (ow79 hw)) (by decide) (backOf (W := 0) (rm_isp0 l Z a0 hw [] res_396 T396.heap n0 (Nat.le_trans Z0 (Nat.le_trans (Nat.le_trans (Nat.le_trans KP371.1 E372.1) E384.1) K396q.1)) hF) hZ384 (ow81 hw) (ow54 hw) (by decide) (by decide)) q398a q398c (g := (mkF m 349 #[.val (.int i0), .val (.int i1), .val (.int i2), .val (.int i3), .val (.int i4), .val (.int i5), .val (.ref ar), .val (.int bs), .val (.int na), .val (.int nn), .val (.ref sx), .val (.int (2 : Int32)), .val (.ref res_396)] [(.ref res_396)])) rfl (by rw [hml]; rfl) (Steps.refl _) (argsL := []) (rest := []) (lenOf opd_9 rfl) rfl (by show 2 * 0 + _ ≤ _; exact Nat.le_of_eq rfl) (hb hby at_349) (fun _ _ => ⟨rfl, rfl, (by decide : 14 + 0 ≤ _), (by decide : 81 + 0 ≤ _)⟩)
          dsimp only [Pt.U, Pt.locs, Pt.cells, Pt.slots] at X398 l398 y398 z398 st398 hQ398
          subst l398 y398 z398
          obtain ⟨rfl, N398q, e398⟩ := hQ398
          have N398 := Fr.app N396 N398q
          refine Go.tr st398 ?_
          show Go p e below _ T398 (mkF m 352 #[.val (.int i0), .val (.int i1), .val (.int i2), .val (.int i3), .val (.int i4), .val (.int i5), .val (.ref ar), .val (.int bs), .val (.int na), .val (.int nn), .val (.ref sx), .val (.int (2 : Int32)), .val (.ref res_396)] [(.int (0 : Int32))])
          refine Go.by (fun t k => XS.ifNo X398.here hx rfl (hb hby at_352) rfl ((if0 _ _).trans (teq (show (0 : Int32) = (0 : Int32) from (by decide))).2) k) ?_
          show Go p e below _ T398 (mkF m 355 #[.val (.int i0), .val (.int i1), .val (.int i2), .val (.int i3), .val (.int i4), .val (.int i5), .val (.ref ar), .val (.int bs), .val (.int na), .val (.int nn), .val (.ref sx), .val (.int (2 : Int32)), .val (.ref res_396)] [])
          refine Go.by (fun t k => XS.iconst X398.here hx rfl (hb hby at_355) (XS.goto X398.here hx rfl (pc0 := 356) (pc' := 360) rfl (hb hby at_356) (by decide) (by decide) k)) ?_
          show Go p e below _ T398 (mkF m 360 #[.val (.int i0), .val (.int i1), .val (.int i2), .val (.int i3), .val (.int i4), .val (.int i5), .val (.ref ar), .val (.int bs), .val (.int na), .val (.int nn), .val (.ref sx), .val (.int (2 : Int32)), .val (.ref res_396)] [(.int (1 : Int32))])
          exact Go.retNW X398 hx (t := .boolean) hret (by simp) hlk (hb hby at_360) hS384 (by rw [e398]; exact (Nat.le_trans hk384 K396q.1)) hZ384 (hEW hw) (by rw [e398]; exact CR397) (by first | (rw [e398]; exact ⟨rfl, N398, K397⟩) | exact ⟨rfl, N398, K397⟩) (by decide) (by decide)
  have P235_0 : ∀ (T399 : State) (LL399 : List Loc) (hP399 : Heap) (vm399 : Vm) (kk399 : Nat) (ar : Addr) (ka : ClassId) (bs : Int32) (na : Int32) (c0 : Int32) (c1 : Int32) (c2 : Int32) (c3 : Int32) (c4 : Int32) (c5 : Int32) (c6 : Int32), Stand p l e room_1 (s.setVm vm399) m #[(.int i0), (.int i1), (.int i2), (.int i3), (.int i4), (.int i5)] below meth c T399 LL399 1 7 → T399.heap = hP399 → Fr n0 LL399 → Keep h0 hP399 [] → Old Z n0 hP399 → s.Since vm399 kk399 → kk399 ≤ hP399.size → Z.Warmed39 vm399 → vm399.findClass "com/example/antecedent/antecedent/EntityTypeForLabelPinLaw" = some m.cls → CHr Z EL s.vm h0 vm399 hP399 → (Arv Z hP399 ar ka .char (7 : Int32) ([(.int c0), (.int c1), (.int c2), (.int c3), (.int c4), (.int c5), (.int c6)]) (.int (0 : Int32))) → (∀ c ∈ ([c0, c1, c2, c3, c4, c5, c6] : List Int32), ¬ c < 0 ∧ ¬ (255 : Int32) < c) → Go p e below (OutW Z EL s (Q_law Z i0 i1 i2 i3 i4 i5 em va kv pa oa pl pv kp ol ov ko G1 h0 n0) room_1.cells room_1.slots) T399 (mkF m 235 #[.val (.int i0), .val (.int i1), .val (.int i2), .val (.int i3), .val (.int i4), .val (.int i5), .val (.ref ar), .val (.int bs), .val (.int na), .val (.int (0 : Int32)), .unset, .unset, .unset] []) := by
    intro T399 LL399 hP399 vm399 kk399 ar ka bs na c0 c1 c2 c3 c4 c5 c6 X399 e399 N399 KP399 OP399 hS399 hk399 hZ399 hown399 RP399 VA HN
    have CRP399 := CR0.trans RP399
    refine Go.by (fun t k => XS.aload X399.here hx rfl (hb hby at_235) rfl rfl (XS.iload X399.here hx rfl (hb hby at_237) rfl k)) ?_
    show Go p e below _ T399 (mkF m 239 #[.val (.int i0), .val (.int i1), .val (.int i2), .val (.int i3), .val (.int i4), .val (.int i5), .val (.ref ar), .val (.int bs), .val (.int na), .val (.int (0 : Int32)), .unset, .unset, .unset] [(.int (0 : Int32)), (.ref ar)])
    obtain ⟨_, _, ⟨T400, L400, k400, n400⟩, -, XX400, hSn400, hgn400, ⟨Lc400, hQ400, l400, y400, z400, RQ400⟩, st400⟩ := Jvm.RoadKit.callSS X399 hx (y := (⟨"com/example/antecedent/antecedent/EntityTypeForLabelPinLaw", "make", "([CI)Ljava/lang/String;"⟩ : MethodName)) hown399 (mvT hZ399 (ow1 hw)) (mvT hZ399 (ow2 hw)) (mvT hZ399 (ow3 hw)) (mvT hZ399 (ow4 hw)) (by decide) (backOfSH (W := 0) (rm_make0 l Z a0 hw [] ar ka c0 c1 c2 c3 c4 c5 c6 G1 hP399 n0 (Nat.le_trans Z0 KP399.1) VA HN O2 P5 OP399) hZ399 (ow4 hw) (ow3 hw) (by decide) (by decide) (hEW hw) CRP399.1) (g := (mkF m 239 #[.val (.int i0), .val (.int i1), .val (.int i2), .val (.int i3), .val (.int i4), .val (.int i5), .val (.ref ar), .val (.int bs), .val (.int na), .val (.int (0 : Int32)), .unset, .unset, .unset] [(.int (0 : Int32)), (.ref ar)])) rfl (by rw [hml]; rfl) (argsL := [(.ref ar), (.int (0 : Int32))]) (rest := []) (lenOf opd_11 rfl) rfl (by show 2 * 0 + _ ≤ _; exact Nat.le_of_eq rfl) (hb hby at_239) (fun _ _ => ⟨rfl, e399, (by decide : 1 + 6 ≤ _), (by decide : 7 + 18 ≤ _)⟩)
    dsimp only [Pt.U, Pt.locs, Pt.cells, Pt.slots] at XX400 hSn400 hgn400 l400 y400 z400 st400 hQ400 RQ400
    subst l400 y400 z400
    obtain ⟨X400, hS400, hZ400, hown400⟩ := rebS hS399 (by rw [e399]; exact (Nat.le_trans hk399 (Nat.le_refl _))) XX400 hSn400 hgn400 hZ399 hown399
    obtain ⟨bs_400, bt_400, kb_400, rfl, N400q, K400q, P400_0, P400_1, P400_2, P400_3, P400_4⟩ := hQ400
    have N400 := Fr.app N399 N400q
    refine Go.tr st400 ?_
    have CR401 := CRP399.trans RQ400
    have K401 : Keep h0 T400.heap [] := KP399.trans K400q all0
    have O401 : Old Z n0 T400.heap := OP399.keep K400q all0
    show Go p e below _ T400 (mkF m 242 #[.val (.int i0), .val (.int i1), .val (.int i2), .val (.int i3), .val (.int i4), .val (.int i5), .val (.ref ar), .val (.int bs), .val (.int na), .val (.int (0 : Int32)), .unset, .unset, .unset] [(.ref bs_400)])
    refine Go.by (fun t k => XS.astore X400.here hx rfl (hb hby at_242) rfl rfl (l' := #[.val (.int i0), .val (.int i1), .val (.int i2), .val (.int i3), .val (.int i4), .val (.int i5), .val (.ref ar), .val (.int bs), .val (.int na), .val (.int (0 : Int32)), .val (.ref bs_400), .unset, .unset]) rfl k) ?_
    show Go p e below _ T400 (mkF m 244 #[.val (.int i0), .val (.int i1), .val (.int i2), .val (.int i3), .val (.int i4), .val (.int i5), .val (.ref ar), .val (.int bs), .val (.int na), .val (.int (0 : Int32)), .val (.ref bs_400), .unset, .unset] [])
    have hc : ∀ c ∈ ([] : List Int32), ¬ c < 0 ∧ ¬ (255 : Int32) < c := by
      intro c hc; cases hc
    exact P244 _ _ _ _ _ ar bs na (0 : Int32) bs_400 bt_400 kb_400 ([] : List Int32) (Stand_grow X400 (by decide) (by decide)) rfl N400 K401 O401 hS400 (Nat.le_trans (Nat.le_refl _) (Nat.le_refl _)) hZ400 hown400 (RP399.trans RQ400) P400_1 P400_2 P400_3 P400_4 ((by decide : 0 ≤ 7)) (hc)
  have P235_1 : ∀ (T402 : State) (LL402 : List Loc) (hP402 : Heap) (vm402 : Vm) (kk402 : Nat) (ar : Addr) (ka : ClassId) (bs : Int32) (na : Int32) (c0 : Int32) (c1 : Int32) (c2 : Int32) (c3 : Int32) (c4 : Int32) (c5 : Int32) (c6 : Int32), Stand p l e room_1 (s.setVm vm402) m #[(.int i0), (.int i1), (.int i2), (.int i3), (.int i4), (.int i5)] below meth c T402 LL402 1 7 → T402.heap = hP402 → Fr n0 LL402 → Keep h0 hP402 [] → Old Z n0 hP402 → s.Since vm402 kk402 → kk402 ≤ hP402.size → Z.Warmed39 vm402 → vm402.findClass "com/example/antecedent/antecedent/EntityTypeForLabelPinLaw" = some m.cls → CHr Z EL s.vm h0 vm402 hP402 → (Arv Z hP402 ar ka .char (7 : Int32) ([(.int c0), (.int c1), (.int c2), (.int c3), (.int c4), (.int c5), (.int c6)]) (.int (0 : Int32))) → (∀ c ∈ ([c0, c1, c2, c3, c4, c5, c6] : List Int32), ¬ c < 0 ∧ ¬ (255 : Int32) < c) → Go p e below (OutW Z EL s (Q_law Z i0 i1 i2 i3 i4 i5 em va kv pa oa pl pv kp ol ov ko G1 h0 n0) room_1.cells room_1.slots) T402 (mkF m 235 #[.val (.int i0), .val (.int i1), .val (.int i2), .val (.int i3), .val (.int i4), .val (.int i5), .val (.ref ar), .val (.int bs), .val (.int na), .val (.int (1 : Int32)), .unset, .unset, .unset] []) := by
    intro T402 LL402 hP402 vm402 kk402 ar ka bs na c0 c1 c2 c3 c4 c5 c6 X402 e402 N402 KP402 OP402 hS402 hk402 hZ402 hown402 RP402 VA HN
    have CRP402 := CR0.trans RP402
    refine Go.by (fun t k => XS.aload X402.here hx rfl (hb hby at_235) rfl rfl (XS.iload X402.here hx rfl (hb hby at_237) rfl k)) ?_
    show Go p e below _ T402 (mkF m 239 #[.val (.int i0), .val (.int i1), .val (.int i2), .val (.int i3), .val (.int i4), .val (.int i5), .val (.ref ar), .val (.int bs), .val (.int na), .val (.int (1 : Int32)), .unset, .unset, .unset] [(.int (1 : Int32)), (.ref ar)])
    obtain ⟨_, _, ⟨T403, L403, k403, n403⟩, -, X403, ⟨Lc403, hQ403, l403, y403, z403⟩, st403⟩ := Jvm.LawKit.callS X402 hx (y := (⟨"com/example/antecedent/antecedent/EntityTypeForLabelPinLaw", "make", "([CI)Ljava/lang/String;"⟩ : MethodName)) hown402 (mvT hZ402 (ow1 hw)) (mvT hZ402 (ow2 hw)) (mvT hZ402 (ow3 hw)) (mvT hZ402 (ow4 hw)) (by decide) (backOf (W := 0) (rm_make1 l Z a0 hw [] ar ka c0 c1 c2 c3 c4 c5 c6 G1 hP402 n0 (Nat.le_trans Z0 KP402.1) VA HN O2 P5 OP402) hZ402 (ow4 hw) (ow3 hw) (by decide) (by decide)) (g := (mkF m 239 #[.val (.int i0), .val (.int i1), .val (.int i2), .val (.int i3), .val (.int i4), .val (.int i5), .val (.ref ar), .val (.int bs), .val (.int na), .val (.int (1 : Int32)), .unset, .unset, .unset] [(.int (1 : Int32)), (.ref ar)])) rfl (by rw [hml]; rfl) (argsL := [(.ref ar), (.int (1 : Int32))]) (rest := []) (lenOf opd_11 rfl) rfl (by show 2 * 0 + _ ≤ _; exact Nat.le_of_eq rfl) (hb hby at_239) (fun _ _ => ⟨rfl, e402, (by decide : 1 + 6 ≤ _), (by decide : 7 + 18 ≤ _)⟩)
    dsimp only [Pt.U, Pt.locs, Pt.cells, Pt.slots] at X403 l403 y403 z403 st403 hQ403
    subst l403 y403 z403
    obtain ⟨bs_403, bt_403, kb_403, rfl, N403q, K403q, P403_0, P403_1, P403_2, P403_3, P403_4⟩ := hQ403
    have N403 := Fr.app N402 N403q
    refine Go.by st403 ?_
    have R404 : CHr Z EL vm402 hP402 vm402 T403.heap := CHr.keep K403q all0 CRP402.1
    have CR404 := CRP402.trans R404
    have K404 : Keep h0 T403.heap [] := KP402.trans K403q all0
    have O404 : Old Z n0 T403.heap := OP402.keep K403q all0
    show Go p e below _ T403 (mkF m 242 #[.val (.int i0), .val (.int i1), .val (.int i2), .val (.int i3), .val (.int i4), .val (.int i5), .val (.ref ar), .val (.int bs), .val (.int na), .val (.int (1 : Int32)), .unset, .unset, .unset] [(.ref bs_403)])
    refine Go.by (fun t k => XS.astore X403.here hx rfl (hb hby at_242) rfl rfl (l' := #[.val (.int i0), .val (.int i1), .val (.int i2), .val (.int i3), .val (.int i4), .val (.int i5), .val (.ref ar), .val (.int bs), .val (.int na), .val (.int (1 : Int32)), .val (.ref bs_403), .unset, .unset]) rfl k) ?_
    show Go p e below _ T403 (mkF m 244 #[.val (.int i0), .val (.int i1), .val (.int i2), .val (.int i3), .val (.int i4), .val (.int i5), .val (.ref ar), .val (.int bs), .val (.int na), .val (.int (1 : Int32)), .val (.ref bs_403), .unset, .unset] [])
    have hc : ∀ c ∈ ([c0] : List Int32), ¬ c < 0 ∧ ¬ (255 : Int32) < c := by
      intro c hc; simp only [List.mem_cons, List.not_mem_nil, or_false] at hc; rcases hc with rfl
      · exact HN _ (by simp)
    exact P244 _ _ _ _ _ ar bs na (1 : Int32) bs_403 bt_403 kb_403 ([c0] : List Int32) (Stand_grow X403 (by decide) (by decide)) rfl N403 K404 O404 hS402 (Nat.le_trans hk402 K403q.1) hZ402 hown402 (RP402.trans R404) P403_1 P403_2 P403_3 P403_4 ((by decide : 1 ≤ 7)) (hc)
  have P235_2 : ∀ (T405 : State) (LL405 : List Loc) (hP405 : Heap) (vm405 : Vm) (kk405 : Nat) (ar : Addr) (ka : ClassId) (bs : Int32) (na : Int32) (c0 : Int32) (c1 : Int32) (c2 : Int32) (c3 : Int32) (c4 : Int32) (c5 : Int32) (c6 : Int32), Stand p l e room_1 (s.setVm vm405) m #[(.int i0), (.int i1), (.int i2), (.int i3), (.int i4), (.int i5)] below meth c T405 LL405 1 7 → T405.heap = hP405 → Fr n0 LL405 → Keep h0 hP405 [] → Old Z n0 hP405 → s.Since vm405 kk405 → kk405 ≤ hP405.size → Z.Warmed39 vm405 → vm405.findClass "com/example/antecedent/antecedent/EntityTypeForLabelPinLaw" = some m.cls → CHr Z EL s.vm h0 vm405 hP405 → (Arv Z hP405 ar ka .char (7 : Int32) ([(.int c0), (.int c1), (.int c2), (.int c3), (.int c4), (.int c5), (.int c6)]) (.int (0 : Int32))) → (∀ c ∈ ([c0, c1, c2, c3, c4, c5, c6] : List Int32), ¬ c < 0 ∧ ¬ (255 : Int32) < c) → Go p e below (OutW Z EL s (Q_law Z i0 i1 i2 i3 i4 i5 em va kv pa oa pl pv kp ol ov ko G1 h0 n0) room_1.cells room_1.slots) T405 (mkF m 235 #[.val (.int i0), .val (.int i1), .val (.int i2), .val (.int i3), .val (.int i4), .val (.int i5), .val (.ref ar), .val (.int bs), .val (.int na), .val (.int (2 : Int32)), .unset, .unset, .unset] []) := by
    intro T405 LL405 hP405 vm405 kk405 ar ka bs na c0 c1 c2 c3 c4 c5 c6 X405 e405 N405 KP405 OP405 hS405 hk405 hZ405 hown405 RP405 VA HN
    have CRP405 := CR0.trans RP405
    refine Go.by (fun t k => XS.aload X405.here hx rfl (hb hby at_235) rfl rfl (XS.iload X405.here hx rfl (hb hby at_237) rfl k)) ?_
    show Go p e below _ T405 (mkF m 239 #[.val (.int i0), .val (.int i1), .val (.int i2), .val (.int i3), .val (.int i4), .val (.int i5), .val (.ref ar), .val (.int bs), .val (.int na), .val (.int (2 : Int32)), .unset, .unset, .unset] [(.int (2 : Int32)), (.ref ar)])
    obtain ⟨_, _, ⟨T406, L406, k406, n406⟩, -, X406, ⟨Lc406, hQ406, l406, y406, z406⟩, st406⟩ := Jvm.LawKit.callS X405 hx (y := (⟨"com/example/antecedent/antecedent/EntityTypeForLabelPinLaw", "make", "([CI)Ljava/lang/String;"⟩ : MethodName)) hown405 (mvT hZ405 (ow1 hw)) (mvT hZ405 (ow2 hw)) (mvT hZ405 (ow3 hw)) (mvT hZ405 (ow4 hw)) (by decide) (backOf (W := 0) (rm_make2 l Z a0 hw [] ar ka c0 c1 c2 c3 c4 c5 c6 G1 hP405 n0 (Nat.le_trans Z0 KP405.1) VA HN O2 P5 OP405) hZ405 (ow4 hw) (ow3 hw) (by decide) (by decide)) (g := (mkF m 239 #[.val (.int i0), .val (.int i1), .val (.int i2), .val (.int i3), .val (.int i4), .val (.int i5), .val (.ref ar), .val (.int bs), .val (.int na), .val (.int (2 : Int32)), .unset, .unset, .unset] [(.int (2 : Int32)), (.ref ar)])) rfl (by rw [hml]; rfl) (argsL := [(.ref ar), (.int (2 : Int32))]) (rest := []) (lenOf opd_11 rfl) rfl (by show 2 * 0 + _ ≤ _; exact Nat.le_of_eq rfl) (hb hby at_239) (fun _ _ => ⟨rfl, e405, (by decide : 1 + 6 ≤ _), (by decide : 7 + 18 ≤ _)⟩)
    dsimp only [Pt.U, Pt.locs, Pt.cells, Pt.slots] at X406 l406 y406 z406 st406 hQ406
    subst l406 y406 z406
    obtain ⟨bs_406, bt_406, kb_406, rfl, N406q, K406q, P406_0, P406_1, P406_2, P406_3, P406_4⟩ := hQ406
    have N406 := Fr.app N405 N406q
    refine Go.by st406 ?_
    have R407 : CHr Z EL vm405 hP405 vm405 T406.heap := CHr.keep K406q all0 CRP405.1
    have CR407 := CRP405.trans R407
    have K407 : Keep h0 T406.heap [] := KP405.trans K406q all0
    have O407 : Old Z n0 T406.heap := OP405.keep K406q all0
    show Go p e below _ T406 (mkF m 242 #[.val (.int i0), .val (.int i1), .val (.int i2), .val (.int i3), .val (.int i4), .val (.int i5), .val (.ref ar), .val (.int bs), .val (.int na), .val (.int (2 : Int32)), .unset, .unset, .unset] [(.ref bs_406)])
    refine Go.by (fun t k => XS.astore X406.here hx rfl (hb hby at_242) rfl rfl (l' := #[.val (.int i0), .val (.int i1), .val (.int i2), .val (.int i3), .val (.int i4), .val (.int i5), .val (.ref ar), .val (.int bs), .val (.int na), .val (.int (2 : Int32)), .val (.ref bs_406), .unset, .unset]) rfl k) ?_
    show Go p e below _ T406 (mkF m 244 #[.val (.int i0), .val (.int i1), .val (.int i2), .val (.int i3), .val (.int i4), .val (.int i5), .val (.ref ar), .val (.int bs), .val (.int na), .val (.int (2 : Int32)), .val (.ref bs_406), .unset, .unset] [])
    have hc : ∀ c ∈ ([c0, c1] : List Int32), ¬ c < 0 ∧ ¬ (255 : Int32) < c := by
      intro c hc; simp only [List.mem_cons, List.not_mem_nil, or_false] at hc; rcases hc with rfl | rfl
      · exact HN _ (by simp)
      · exact HN _ (by simp)
    exact P244 _ _ _ _ _ ar bs na (2 : Int32) bs_406 bt_406 kb_406 ([c0, c1] : List Int32) (Stand_grow X406 (by decide) (by decide)) rfl N406 K407 O407 hS405 (Nat.le_trans hk405 K406q.1) hZ405 hown405 (RP405.trans R407) P406_1 P406_2 P406_3 P406_4 ((by decide : 2 ≤ 7)) (hc)
  have P235_3 : ∀ (T408 : State) (LL408 : List Loc) (hP408 : Heap) (vm408 : Vm) (kk408 : Nat) (ar : Addr) (ka : ClassId) (bs : Int32) (na : Int32) (c0 : Int32) (c1 : Int32) (c2 : Int32) (c3 : Int32) (c4 : Int32) (c5 : Int32) (c6 : Int32), Stand p l e room_1 (s.setVm vm408) m #[(.int i0), (.int i1), (.int i2), (.int i3), (.int i4), (.int i5)] below meth c T408 LL408 1 7 → T408.heap = hP408 → Fr n0 LL408 → Keep h0 hP408 [] → Old Z n0 hP408 → s.Since vm408 kk408 → kk408 ≤ hP408.size → Z.Warmed39 vm408 → vm408.findClass "com/example/antecedent/antecedent/EntityTypeForLabelPinLaw" = some m.cls → CHr Z EL s.vm h0 vm408 hP408 → (Arv Z hP408 ar ka .char (7 : Int32) ([(.int c0), (.int c1), (.int c2), (.int c3), (.int c4), (.int c5), (.int c6)]) (.int (0 : Int32))) → (∀ c ∈ ([c0, c1, c2, c3, c4, c5, c6] : List Int32), ¬ c < 0 ∧ ¬ (255 : Int32) < c) → Go p e below (OutW Z EL s (Q_law Z i0 i1 i2 i3 i4 i5 em va kv pa oa pl pv kp ol ov ko G1 h0 n0) room_1.cells room_1.slots) T408 (mkF m 235 #[.val (.int i0), .val (.int i1), .val (.int i2), .val (.int i3), .val (.int i4), .val (.int i5), .val (.ref ar), .val (.int bs), .val (.int na), .val (.int (3 : Int32)), .unset, .unset, .unset] []) := by
    intro T408 LL408 hP408 vm408 kk408 ar ka bs na c0 c1 c2 c3 c4 c5 c6 X408 e408 N408 KP408 OP408 hS408 hk408 hZ408 hown408 RP408 VA HN
    have CRP408 := CR0.trans RP408
    refine Go.by (fun t k => XS.aload X408.here hx rfl (hb hby at_235) rfl rfl (XS.iload X408.here hx rfl (hb hby at_237) rfl k)) ?_
    show Go p e below _ T408 (mkF m 239 #[.val (.int i0), .val (.int i1), .val (.int i2), .val (.int i3), .val (.int i4), .val (.int i5), .val (.ref ar), .val (.int bs), .val (.int na), .val (.int (3 : Int32)), .unset, .unset, .unset] [(.int (3 : Int32)), (.ref ar)])
    obtain ⟨_, _, ⟨T409, L409, k409, n409⟩, -, X409, ⟨Lc409, hQ409, l409, y409, z409⟩, st409⟩ := Jvm.LawKit.callS X408 hx (y := (⟨"com/example/antecedent/antecedent/EntityTypeForLabelPinLaw", "make", "([CI)Ljava/lang/String;"⟩ : MethodName)) hown408 (mvT hZ408 (ow1 hw)) (mvT hZ408 (ow2 hw)) (mvT hZ408 (ow3 hw)) (mvT hZ408 (ow4 hw)) (by decide) (backOf (W := 0) (rm_make3 l Z a0 hw [] ar ka c0 c1 c2 c3 c4 c5 c6 G1 hP408 n0 (Nat.le_trans Z0 KP408.1) VA HN O2 P5 OP408) hZ408 (ow4 hw) (ow3 hw) (by decide) (by decide)) (g := (mkF m 239 #[.val (.int i0), .val (.int i1), .val (.int i2), .val (.int i3), .val (.int i4), .val (.int i5), .val (.ref ar), .val (.int bs), .val (.int na), .val (.int (3 : Int32)), .unset, .unset, .unset] [(.int (3 : Int32)), (.ref ar)])) rfl (by rw [hml]; rfl) (argsL := [(.ref ar), (.int (3 : Int32))]) (rest := []) (lenOf opd_11 rfl) rfl (by show 2 * 0 + _ ≤ _; exact Nat.le_of_eq rfl) (hb hby at_239) (fun _ _ => ⟨rfl, e408, (by decide : 1 + 6 ≤ _), (by decide : 7 + 18 ≤ _)⟩)
    dsimp only [Pt.U, Pt.locs, Pt.cells, Pt.slots] at X409 l409 y409 z409 st409 hQ409
    subst l409 y409 z409
    obtain ⟨bs_409, bt_409, kb_409, rfl, N409q, K409q, P409_0, P409_1, P409_2, P409_3, P409_4⟩ := hQ409
    have N409 := Fr.app N408 N409q
    refine Go.by st409 ?_
    have R410 : CHr Z EL vm408 hP408 vm408 T409.heap := CHr.keep K409q all0 CRP408.1
    have CR410 := CRP408.trans R410
    have K410 : Keep h0 T409.heap [] := KP408.trans K409q all0
    have O410 : Old Z n0 T409.heap := OP408.keep K409q all0
    show Go p e below _ T409 (mkF m 242 #[.val (.int i0), .val (.int i1), .val (.int i2), .val (.int i3), .val (.int i4), .val (.int i5), .val (.ref ar), .val (.int bs), .val (.int na), .val (.int (3 : Int32)), .unset, .unset, .unset] [(.ref bs_409)])
    refine Go.by (fun t k => XS.astore X409.here hx rfl (hb hby at_242) rfl rfl (l' := #[.val (.int i0), .val (.int i1), .val (.int i2), .val (.int i3), .val (.int i4), .val (.int i5), .val (.ref ar), .val (.int bs), .val (.int na), .val (.int (3 : Int32)), .val (.ref bs_409), .unset, .unset]) rfl k) ?_
    show Go p e below _ T409 (mkF m 244 #[.val (.int i0), .val (.int i1), .val (.int i2), .val (.int i3), .val (.int i4), .val (.int i5), .val (.ref ar), .val (.int bs), .val (.int na), .val (.int (3 : Int32)), .val (.ref bs_409), .unset, .unset] [])
    have hc : ∀ c ∈ ([c0, c1, c2] : List Int32), ¬ c < 0 ∧ ¬ (255 : Int32) < c := by
      intro c hc; simp only [List.mem_cons, List.not_mem_nil, or_false] at hc; rcases hc with rfl | rfl | rfl
      · exact HN _ (by simp)
      · exact HN _ (by simp)
      · exact HN _ (by simp)
    exact P244 _ _ _ _ _ ar bs na (3 : Int32) bs_409 bt_409 kb_409 ([c0, c1, c2] : List Int32) (Stand_grow X409 (by decide) (by decide)) rfl N409 K410 O410 hS408 (Nat.le_trans hk408 K409q.1) hZ408 hown408 (RP408.trans R410) P409_1 P409_2 P409_3 P409_4 ((by decide : 3 ≤ 7)) (hc)
  have P235_4 : ∀ (T411 : State) (LL411 : List Loc) (hP411 : Heap) (vm411 : Vm) (kk411 : Nat) (ar : Addr) (ka : ClassId) (bs : Int32) (na : Int32) (c0 : Int32) (c1 : Int32) (c2 : Int32) (c3 : Int32) (c4 : Int32) (c5 : Int32) (c6 : Int32), Stand p l e room_1 (s.setVm vm411) m #[(.int i0), (.int i1), (.int i2), (.int i3), (.int i4), (.int i5)] below meth c T411 LL411 1 7 → T411.heap = hP411 → Fr n0 LL411 → Keep h0 hP411 [] → Old Z n0 hP411 → s.Since vm411 kk411 → kk411 ≤ hP411.size → Z.Warmed39 vm411 → vm411.findClass "com/example/antecedent/antecedent/EntityTypeForLabelPinLaw" = some m.cls → CHr Z EL s.vm h0 vm411 hP411 → (Arv Z hP411 ar ka .char (7 : Int32) ([(.int c0), (.int c1), (.int c2), (.int c3), (.int c4), (.int c5), (.int c6)]) (.int (0 : Int32))) → (∀ c ∈ ([c0, c1, c2, c3, c4, c5, c6] : List Int32), ¬ c < 0 ∧ ¬ (255 : Int32) < c) → Go p e below (OutW Z EL s (Q_law Z i0 i1 i2 i3 i4 i5 em va kv pa oa pl pv kp ol ov ko G1 h0 n0) room_1.cells room_1.slots) T411 (mkF m 235 #[.val (.int i0), .val (.int i1), .val (.int i2), .val (.int i3), .val (.int i4), .val (.int i5), .val (.ref ar), .val (.int bs), .val (.int na), .val (.int (4 : Int32)), .unset, .unset, .unset] []) := by
    intro T411 LL411 hP411 vm411 kk411 ar ka bs na c0 c1 c2 c3 c4 c5 c6 X411 e411 N411 KP411 OP411 hS411 hk411 hZ411 hown411 RP411 VA HN
    have CRP411 := CR0.trans RP411
    refine Go.by (fun t k => XS.aload X411.here hx rfl (hb hby at_235) rfl rfl (XS.iload X411.here hx rfl (hb hby at_237) rfl k)) ?_
    show Go p e below _ T411 (mkF m 239 #[.val (.int i0), .val (.int i1), .val (.int i2), .val (.int i3), .val (.int i4), .val (.int i5), .val (.ref ar), .val (.int bs), .val (.int na), .val (.int (4 : Int32)), .unset, .unset, .unset] [(.int (4 : Int32)), (.ref ar)])
    obtain ⟨_, _, ⟨T412, L412, k412, n412⟩, -, X412, ⟨Lc412, hQ412, l412, y412, z412⟩, st412⟩ := Jvm.LawKit.callS X411 hx (y := (⟨"com/example/antecedent/antecedent/EntityTypeForLabelPinLaw", "make", "([CI)Ljava/lang/String;"⟩ : MethodName)) hown411 (mvT hZ411 (ow1 hw)) (mvT hZ411 (ow2 hw)) (mvT hZ411 (ow3 hw)) (mvT hZ411 (ow4 hw)) (by decide) (backOf (W := 0) (rm_make4 l Z a0 hw [] ar ka c0 c1 c2 c3 c4 c5 c6 G1 hP411 n0 (Nat.le_trans Z0 KP411.1) VA HN O2 P5 OP411) hZ411 (ow4 hw) (ow3 hw) (by decide) (by decide)) (g := (mkF m 239 #[.val (.int i0), .val (.int i1), .val (.int i2), .val (.int i3), .val (.int i4), .val (.int i5), .val (.ref ar), .val (.int bs), .val (.int na), .val (.int (4 : Int32)), .unset, .unset, .unset] [(.int (4 : Int32)), (.ref ar)])) rfl (by rw [hml]; rfl) (argsL := [(.ref ar), (.int (4 : Int32))]) (rest := []) (lenOf opd_11 rfl) rfl (by show 2 * 0 + _ ≤ _; exact Nat.le_of_eq rfl) (hb hby at_239) (fun _ _ => ⟨rfl, e411, (by decide : 1 + 6 ≤ _), (by decide : 7 + 18 ≤ _)⟩)
    dsimp only [Pt.U, Pt.locs, Pt.cells, Pt.slots] at X412 l412 y412 z412 st412 hQ412
    subst l412 y412 z412
    obtain ⟨bs_412, bt_412, kb_412, rfl, N412q, K412q, P412_0, P412_1, P412_2, P412_3, P412_4⟩ := hQ412
    have N412 := Fr.app N411 N412q
    refine Go.by st412 ?_
    have R413 : CHr Z EL vm411 hP411 vm411 T412.heap := CHr.keep K412q all0 CRP411.1
    have CR413 := CRP411.trans R413
    have K413 : Keep h0 T412.heap [] := KP411.trans K412q all0
    have O413 : Old Z n0 T412.heap := OP411.keep K412q all0
    show Go p e below _ T412 (mkF m 242 #[.val (.int i0), .val (.int i1), .val (.int i2), .val (.int i3), .val (.int i4), .val (.int i5), .val (.ref ar), .val (.int bs), .val (.int na), .val (.int (4 : Int32)), .unset, .unset, .unset] [(.ref bs_412)])
    refine Go.by (fun t k => XS.astore X412.here hx rfl (hb hby at_242) rfl rfl (l' := #[.val (.int i0), .val (.int i1), .val (.int i2), .val (.int i3), .val (.int i4), .val (.int i5), .val (.ref ar), .val (.int bs), .val (.int na), .val (.int (4 : Int32)), .val (.ref bs_412), .unset, .unset]) rfl k) ?_
    show Go p e below _ T412 (mkF m 244 #[.val (.int i0), .val (.int i1), .val (.int i2), .val (.int i3), .val (.int i4), .val (.int i5), .val (.ref ar), .val (.int bs), .val (.int na), .val (.int (4 : Int32)), .val (.ref bs_412), .unset, .unset] [])
    have hc : ∀ c ∈ ([c0, c1, c2, c3] : List Int32), ¬ c < 0 ∧ ¬ (255 : Int32) < c := by
      intro c hc; simp only [List.mem_cons, List.not_mem_nil, or_false] at hc; rcases hc with rfl | rfl | rfl | rfl
      · exact HN _ (by simp)
      · exact HN _ (by simp)
      · exact HN _ (by simp)
      · exact HN _ (by simp)
    exact P244 _ _ _ _ _ ar bs na (4 : Int32) bs_412 bt_412 kb_412 ([c0, c1, c2, c3] : List Int32) (Stand_grow X412 (by decide) (by decide)) rfl N412 K413 O413 hS411 (Nat.le_trans hk411 K412q.1) hZ411 hown411 (RP411.trans R413) P412_1 P412_2 P412_3 P412_4 ((by decide : 4 ≤ 7)) (hc)
  have P235_5 : ∀ (T414 : State) (LL414 : List Loc) (hP414 : Heap) (vm414 : Vm) (kk414 : Nat) (ar : Addr) (ka : ClassId) (bs : Int32) (na : Int32) (c0 : Int32) (c1 : Int32) (c2 : Int32) (c3 : Int32) (c4 : Int32) (c5 : Int32) (c6 : Int32), Stand p l e room_1 (s.setVm vm414) m #[(.int i0), (.int i1), (.int i2), (.int i3), (.int i4), (.int i5)] below meth c T414 LL414 1 7 → T414.heap = hP414 → Fr n0 LL414 → Keep h0 hP414 [] → Old Z n0 hP414 → s.Since vm414 kk414 → kk414 ≤ hP414.size → Z.Warmed39 vm414 → vm414.findClass "com/example/antecedent/antecedent/EntityTypeForLabelPinLaw" = some m.cls → CHr Z EL s.vm h0 vm414 hP414 → (Arv Z hP414 ar ka .char (7 : Int32) ([(.int c0), (.int c1), (.int c2), (.int c3), (.int c4), (.int c5), (.int c6)]) (.int (0 : Int32))) → (∀ c ∈ ([c0, c1, c2, c3, c4, c5, c6] : List Int32), ¬ c < 0 ∧ ¬ (255 : Int32) < c) → Go p e below (OutW Z EL s (Q_law Z i0 i1 i2 i3 i4 i5 em va kv pa oa pl pv kp ol ov ko G1 h0 n0) room_1.cells room_1.slots) T414 (mkF m 235 #[.val (.int i0), .val (.int i1), .val (.int i2), .val (.int i3), .val (.int i4), .val (.int i5), .val (.ref ar), .val (.int bs), .val (.int na), .val (.int (5 : Int32)), .unset, .unset, .unset] []) := by
    intro T414 LL414 hP414 vm414 kk414 ar ka bs na c0 c1 c2 c3 c4 c5 c6 X414 e414 N414 KP414 OP414 hS414 hk414 hZ414 hown414 RP414 VA HN
    have CRP414 := CR0.trans RP414
    refine Go.by (fun t k => XS.aload X414.here hx rfl (hb hby at_235) rfl rfl (XS.iload X414.here hx rfl (hb hby at_237) rfl k)) ?_
    show Go p e below _ T414 (mkF m 239 #[.val (.int i0), .val (.int i1), .val (.int i2), .val (.int i3), .val (.int i4), .val (.int i5), .val (.ref ar), .val (.int bs), .val (.int na), .val (.int (5 : Int32)), .unset, .unset, .unset] [(.int (5 : Int32)), (.ref ar)])
    obtain ⟨_, _, ⟨T415, L415, k415, n415⟩, -, X415, ⟨Lc415, hQ415, l415, y415, z415⟩, st415⟩ := Jvm.LawKit.callS X414 hx (y := (⟨"com/example/antecedent/antecedent/EntityTypeForLabelPinLaw", "make", "([CI)Ljava/lang/String;"⟩ : MethodName)) hown414 (mvT hZ414 (ow1 hw)) (mvT hZ414 (ow2 hw)) (mvT hZ414 (ow3 hw)) (mvT hZ414 (ow4 hw)) (by decide) (backOf (W := 0) (rm_make5 l Z a0 hw [] ar ka c0 c1 c2 c3 c4 c5 c6 G1 hP414 n0 (Nat.le_trans Z0 KP414.1) VA HN O2 P5 OP414) hZ414 (ow4 hw) (ow3 hw) (by decide) (by decide)) (g := (mkF m 239 #[.val (.int i0), .val (.int i1), .val (.int i2), .val (.int i3), .val (.int i4), .val (.int i5), .val (.ref ar), .val (.int bs), .val (.int na), .val (.int (5 : Int32)), .unset, .unset, .unset] [(.int (5 : Int32)), (.ref ar)])) rfl (by rw [hml]; rfl) (argsL := [(.ref ar), (.int (5 : Int32))]) (rest := []) (lenOf opd_11 rfl) rfl (by show 2 * 0 + _ ≤ _; exact Nat.le_of_eq rfl) (hb hby at_239) (fun _ _ => ⟨rfl, e414, (by decide : 1 + 6 ≤ _), (by decide : 7 + 18 ≤ _)⟩)
    dsimp only [Pt.U, Pt.locs, Pt.cells, Pt.slots] at X415 l415 y415 z415 st415 hQ415
    subst l415 y415 z415
    obtain ⟨bs_415, bt_415, kb_415, rfl, N415q, K415q, P415_0, P415_1, P415_2, P415_3, P415_4⟩ := hQ415
    have N415 := Fr.app N414 N415q
    refine Go.by st415 ?_
    have R416 : CHr Z EL vm414 hP414 vm414 T415.heap := CHr.keep K415q all0 CRP414.1
    have CR416 := CRP414.trans R416
    have K416 : Keep h0 T415.heap [] := KP414.trans K415q all0
    have O416 : Old Z n0 T415.heap := OP414.keep K415q all0
    show Go p e below _ T415 (mkF m 242 #[.val (.int i0), .val (.int i1), .val (.int i2), .val (.int i3), .val (.int i4), .val (.int i5), .val (.ref ar), .val (.int bs), .val (.int na), .val (.int (5 : Int32)), .unset, .unset, .unset] [(.ref bs_415)])
    refine Go.by (fun t k => XS.astore X415.here hx rfl (hb hby at_242) rfl rfl (l' := #[.val (.int i0), .val (.int i1), .val (.int i2), .val (.int i3), .val (.int i4), .val (.int i5), .val (.ref ar), .val (.int bs), .val (.int na), .val (.int (5 : Int32)), .val (.ref bs_415), .unset, .unset]) rfl k) ?_
    show Go p e below _ T415 (mkF m 244 #[.val (.int i0), .val (.int i1), .val (.int i2), .val (.int i3), .val (.int i4), .val (.int i5), .val (.ref ar), .val (.int bs), .val (.int na), .val (.int (5 : Int32)), .val (.ref bs_415), .unset, .unset] [])
    have hc : ∀ c ∈ ([c0, c1, c2, c3, c4] : List Int32), ¬ c < 0 ∧ ¬ (255 : Int32) < c := by
      intro c hc; simp only [List.mem_cons, List.not_mem_nil, or_false] at hc; rcases hc with rfl | rfl | rfl | rfl | rfl
      · exact HN _ (by simp)
      · exact HN _ (by simp)
      · exact HN _ (by simp)
      · exact HN _ (by simp)
      · exact HN _ (by simp)
    exact P244 _ _ _ _ _ ar bs na (5 : Int32) bs_415 bt_415 kb_415 ([c0, c1, c2, c3, c4] : List Int32) (Stand_grow X415 (by decide) (by decide)) rfl N415 K416 O416 hS414 (Nat.le_trans hk414 K415q.1) hZ414 hown414 (RP414.trans R416) P415_1 P415_2 P415_3 P415_4 ((by decide : 5 ≤ 7)) (hc)
  have P235_6 : ∀ (T417 : State) (LL417 : List Loc) (hP417 : Heap) (vm417 : Vm) (kk417 : Nat) (ar : Addr) (ka : ClassId) (bs : Int32) (na : Int32) (c0 : Int32) (c1 : Int32) (c2 : Int32) (c3 : Int32) (c4 : Int32) (c5 : Int32) (c6 : Int32), Stand p l e room_1 (s.setVm vm417) m #[(.int i0), (.int i1), (.int i2), (.int i3), (.int i4), (.int i5)] below meth c T417 LL417 1 7 → T417.heap = hP417 → Fr n0 LL417 → Keep h0 hP417 [] → Old Z n0 hP417 → s.Since vm417 kk417 → kk417 ≤ hP417.size → Z.Warmed39 vm417 → vm417.findClass "com/example/antecedent/antecedent/EntityTypeForLabelPinLaw" = some m.cls → CHr Z EL s.vm h0 vm417 hP417 → (Arv Z hP417 ar ka .char (7 : Int32) ([(.int c0), (.int c1), (.int c2), (.int c3), (.int c4), (.int c5), (.int c6)]) (.int (0 : Int32))) → (∀ c ∈ ([c0, c1, c2, c3, c4, c5, c6] : List Int32), ¬ c < 0 ∧ ¬ (255 : Int32) < c) → Go p e below (OutW Z EL s (Q_law Z i0 i1 i2 i3 i4 i5 em va kv pa oa pl pv kp ol ov ko G1 h0 n0) room_1.cells room_1.slots) T417 (mkF m 235 #[.val (.int i0), .val (.int i1), .val (.int i2), .val (.int i3), .val (.int i4), .val (.int i5), .val (.ref ar), .val (.int bs), .val (.int na), .val (.int (6 : Int32)), .unset, .unset, .unset] []) := by
    intro T417 LL417 hP417 vm417 kk417 ar ka bs na c0 c1 c2 c3 c4 c5 c6 X417 e417 N417 KP417 OP417 hS417 hk417 hZ417 hown417 RP417 VA HN
    have CRP417 := CR0.trans RP417
    refine Go.by (fun t k => XS.aload X417.here hx rfl (hb hby at_235) rfl rfl (XS.iload X417.here hx rfl (hb hby at_237) rfl k)) ?_
    show Go p e below _ T417 (mkF m 239 #[.val (.int i0), .val (.int i1), .val (.int i2), .val (.int i3), .val (.int i4), .val (.int i5), .val (.ref ar), .val (.int bs), .val (.int na), .val (.int (6 : Int32)), .unset, .unset, .unset] [(.int (6 : Int32)), (.ref ar)])
    obtain ⟨_, _, ⟨T418, L418, k418, n418⟩, -, X418, ⟨Lc418, hQ418, l418, y418, z418⟩, st418⟩ := Jvm.LawKit.callS X417 hx (y := (⟨"com/example/antecedent/antecedent/EntityTypeForLabelPinLaw", "make", "([CI)Ljava/lang/String;"⟩ : MethodName)) hown417 (mvT hZ417 (ow1 hw)) (mvT hZ417 (ow2 hw)) (mvT hZ417 (ow3 hw)) (mvT hZ417 (ow4 hw)) (by decide) (backOf (W := 0) (rm_make6 l Z a0 hw [] ar ka c0 c1 c2 c3 c4 c5 c6 G1 hP417 n0 (Nat.le_trans Z0 KP417.1) VA HN O2 P5 OP417) hZ417 (ow4 hw) (ow3 hw) (by decide) (by decide)) (g := (mkF m 239 #[.val (.int i0), .val (.int i1), .val (.int i2), .val (.int i3), .val (.int i4), .val (.int i5), .val (.ref ar), .val (.int bs), .val (.int na), .val (.int (6 : Int32)), .unset, .unset, .unset] [(.int (6 : Int32)), (.ref ar)])) rfl (by rw [hml]; rfl) (argsL := [(.ref ar), (.int (6 : Int32))]) (rest := []) (lenOf opd_11 rfl) rfl (by show 2 * 0 + _ ≤ _; exact Nat.le_of_eq rfl) (hb hby at_239) (fun _ _ => ⟨rfl, e417, (by decide : 1 + 6 ≤ _), (by decide : 7 + 18 ≤ _)⟩)
    dsimp only [Pt.U, Pt.locs, Pt.cells, Pt.slots] at X418 l418 y418 z418 st418 hQ418
    subst l418 y418 z418
    obtain ⟨bs_418, bt_418, kb_418, rfl, N418q, K418q, P418_0, P418_1, P418_2, P418_3, P418_4⟩ := hQ418
    have N418 := Fr.app N417 N418q
    refine Go.by st418 ?_
    have R419 : CHr Z EL vm417 hP417 vm417 T418.heap := CHr.keep K418q all0 CRP417.1
    have CR419 := CRP417.trans R419
    have K419 : Keep h0 T418.heap [] := KP417.trans K418q all0
    have O419 : Old Z n0 T418.heap := OP417.keep K418q all0
    show Go p e below _ T418 (mkF m 242 #[.val (.int i0), .val (.int i1), .val (.int i2), .val (.int i3), .val (.int i4), .val (.int i5), .val (.ref ar), .val (.int bs), .val (.int na), .val (.int (6 : Int32)), .unset, .unset, .unset] [(.ref bs_418)])
    refine Go.by (fun t k => XS.astore X418.here hx rfl (hb hby at_242) rfl rfl (l' := #[.val (.int i0), .val (.int i1), .val (.int i2), .val (.int i3), .val (.int i4), .val (.int i5), .val (.ref ar), .val (.int bs), .val (.int na), .val (.int (6 : Int32)), .val (.ref bs_418), .unset, .unset]) rfl k) ?_
    show Go p e below _ T418 (mkF m 244 #[.val (.int i0), .val (.int i1), .val (.int i2), .val (.int i3), .val (.int i4), .val (.int i5), .val (.ref ar), .val (.int bs), .val (.int na), .val (.int (6 : Int32)), .val (.ref bs_418), .unset, .unset] [])
    have hc : ∀ c ∈ ([c0, c1, c2, c3, c4, c5] : List Int32), ¬ c < 0 ∧ ¬ (255 : Int32) < c := by
      intro c hc; simp only [List.mem_cons, List.not_mem_nil, or_false] at hc; rcases hc with rfl | rfl | rfl | rfl | rfl | rfl
      · exact HN _ (by simp)
      · exact HN _ (by simp)
      · exact HN _ (by simp)
      · exact HN _ (by simp)
      · exact HN _ (by simp)
      · exact HN _ (by simp)
    exact P244 _ _ _ _ _ ar bs na (6 : Int32) bs_418 bt_418 kb_418 ([c0, c1, c2, c3, c4, c5] : List Int32) (Stand_grow X418 (by decide) (by decide)) rfl N418 K419 O419 hS417 (Nat.le_trans hk417 K418q.1) hZ417 hown417 (RP417.trans R419) P418_1 P418_2 P418_3 P418_4 ((by decide : 6 ≤ 7)) (hc)
  have P235_7 : ∀ (T420 : State) (LL420 : List Loc) (hP420 : Heap) (vm420 : Vm) (kk420 : Nat) (ar : Addr) (ka : ClassId) (bs : Int32) (na : Int32) (c0 : Int32) (c1 : Int32) (c2 : Int32) (c3 : Int32) (c4 : Int32) (c5 : Int32) (c6 : Int32), Stand p l e room_1 (s.setVm vm420) m #[(.int i0), (.int i1), (.int i2), (.int i3), (.int i4), (.int i5)] below meth c T420 LL420 1 7 → T420.heap = hP420 → Fr n0 LL420 → Keep h0 hP420 [] → Old Z n0 hP420 → s.Since vm420 kk420 → kk420 ≤ hP420.size → Z.Warmed39 vm420 → vm420.findClass "com/example/antecedent/antecedent/EntityTypeForLabelPinLaw" = some m.cls → CHr Z EL s.vm h0 vm420 hP420 → (Arv Z hP420 ar ka .char (7 : Int32) ([(.int c0), (.int c1), (.int c2), (.int c3), (.int c4), (.int c5), (.int c6)]) (.int (0 : Int32))) → (∀ c ∈ ([c0, c1, c2, c3, c4, c5, c6] : List Int32), ¬ c < 0 ∧ ¬ (255 : Int32) < c) → Go p e below (OutW Z EL s (Q_law Z i0 i1 i2 i3 i4 i5 em va kv pa oa pl pv kp ol ov ko G1 h0 n0) room_1.cells room_1.slots) T420 (mkF m 235 #[.val (.int i0), .val (.int i1), .val (.int i2), .val (.int i3), .val (.int i4), .val (.int i5), .val (.ref ar), .val (.int bs), .val (.int na), .val (.int (7 : Int32)), .unset, .unset, .unset] []) := by
    intro T420 LL420 hP420 vm420 kk420 ar ka bs na c0 c1 c2 c3 c4 c5 c6 X420 e420 N420 KP420 OP420 hS420 hk420 hZ420 hown420 RP420 VA HN
    have CRP420 := CR0.trans RP420
    refine Go.by (fun t k => XS.aload X420.here hx rfl (hb hby at_235) rfl rfl (XS.iload X420.here hx rfl (hb hby at_237) rfl k)) ?_
    show Go p e below _ T420 (mkF m 239 #[.val (.int i0), .val (.int i1), .val (.int i2), .val (.int i3), .val (.int i4), .val (.int i5), .val (.ref ar), .val (.int bs), .val (.int na), .val (.int (7 : Int32)), .unset, .unset, .unset] [(.int (7 : Int32)), (.ref ar)])
    obtain ⟨_, _, ⟨T421, L421, k421, n421⟩, -, X421, ⟨Lc421, hQ421, l421, y421, z421⟩, st421⟩ := Jvm.LawKit.callS X420 hx (y := (⟨"com/example/antecedent/antecedent/EntityTypeForLabelPinLaw", "make", "([CI)Ljava/lang/String;"⟩ : MethodName)) hown420 (mvT hZ420 (ow1 hw)) (mvT hZ420 (ow2 hw)) (mvT hZ420 (ow3 hw)) (mvT hZ420 (ow4 hw)) (by decide) (backOf (W := 0) (rm_make7 l Z a0 hw [] ar ka c0 c1 c2 c3 c4 c5 c6 G1 hP420 n0 (Nat.le_trans Z0 KP420.1) VA HN O2 P5 OP420) hZ420 (ow4 hw) (ow3 hw) (by decide) (by decide)) (g := (mkF m 239 #[.val (.int i0), .val (.int i1), .val (.int i2), .val (.int i3), .val (.int i4), .val (.int i5), .val (.ref ar), .val (.int bs), .val (.int na), .val (.int (7 : Int32)), .unset, .unset, .unset] [(.int (7 : Int32)), (.ref ar)])) rfl (by rw [hml]; rfl) (argsL := [(.ref ar), (.int (7 : Int32))]) (rest := []) (lenOf opd_11 rfl) rfl (by show 2 * 0 + _ ≤ _; exact Nat.le_of_eq rfl) (hb hby at_239) (fun _ _ => ⟨rfl, e420, (by decide : 1 + 6 ≤ _), (by decide : 7 + 18 ≤ _)⟩)
    dsimp only [Pt.U, Pt.locs, Pt.cells, Pt.slots] at X421 l421 y421 z421 st421 hQ421
    subst l421 y421 z421
    obtain ⟨bs_421, bt_421, kb_421, rfl, N421q, K421q, P421_0, P421_1, P421_2, P421_3, P421_4⟩ := hQ421
    have N421 := Fr.app N420 N421q
    refine Go.by st421 ?_
    have R422 : CHr Z EL vm420 hP420 vm420 T421.heap := CHr.keep K421q all0 CRP420.1
    have CR422 := CRP420.trans R422
    have K422 : Keep h0 T421.heap [] := KP420.trans K421q all0
    have O422 : Old Z n0 T421.heap := OP420.keep K421q all0
    show Go p e below _ T421 (mkF m 242 #[.val (.int i0), .val (.int i1), .val (.int i2), .val (.int i3), .val (.int i4), .val (.int i5), .val (.ref ar), .val (.int bs), .val (.int na), .val (.int (7 : Int32)), .unset, .unset, .unset] [(.ref bs_421)])
    refine Go.by (fun t k => XS.astore X421.here hx rfl (hb hby at_242) rfl rfl (l' := #[.val (.int i0), .val (.int i1), .val (.int i2), .val (.int i3), .val (.int i4), .val (.int i5), .val (.ref ar), .val (.int bs), .val (.int na), .val (.int (7 : Int32)), .val (.ref bs_421), .unset, .unset]) rfl k) ?_
    show Go p e below _ T421 (mkF m 244 #[.val (.int i0), .val (.int i1), .val (.int i2), .val (.int i3), .val (.int i4), .val (.int i5), .val (.ref ar), .val (.int bs), .val (.int na), .val (.int (7 : Int32)), .val (.ref bs_421), .unset, .unset] [])
    have hc : ∀ c ∈ ([c0, c1, c2, c3, c4, c5, c6] : List Int32), ¬ c < 0 ∧ ¬ (255 : Int32) < c := by
      intro c hc; simp only [List.mem_cons, List.not_mem_nil, or_false] at hc; rcases hc with rfl | rfl | rfl | rfl | rfl | rfl | rfl
      · exact HN _ (by simp)
      · exact HN _ (by simp)
      · exact HN _ (by simp)
      · exact HN _ (by simp)
      · exact HN _ (by simp)
      · exact HN _ (by simp)
      · exact HN _ (by simp)
    exact P244 _ _ _ _ _ ar bs na (7 : Int32) bs_421 bt_421 kb_421 ([c0, c1, c2, c3, c4, c5, c6] : List Int32) (Stand_grow X421 (by decide) (by decide)) rfl N421 K422 O422 hS420 (Nat.le_trans hk420 K421q.1) hZ420 hown420 (RP420.trans R422) P421_1 P421_2 P421_3 P421_4 ((by decide : 7 ≤ 7)) (hc)
  have P217 : ∀ (T423 : State) (LL423 : List Loc) (hP423 : Heap) (vm423 : Vm) (kk423 : Nat) (ar : Addr) (ka : ClassId) (bs : Int32) (na : Int32) (c0 : Int32) (c1 : Int32) (c2 : Int32) (c3 : Int32) (c4 : Int32) (c5 : Int32) (c6 : Int32), Stand p l e room_1 (s.setVm vm423) m #[(.int i0), (.int i1), (.int i2), (.int i3), (.int i4), (.int i5)] below meth c T423 LL423 1 7 → T423.heap = hP423 → Fr n0 LL423 → Keep h0 hP423 [] → Old Z n0 hP423 → s.Since vm423 kk423 → kk423 ≤ hP423.size → Z.Warmed39 vm423 → vm423.findClass "com/example/antecedent/antecedent/EntityTypeForLabelPinLaw" = some m.cls → CHr Z EL s.vm h0 vm423 hP423 → (Arv Z hP423 ar ka .char (7 : Int32) ([(.int c0), (.int c1), (.int c2), (.int c3), (.int c4), (.int c5), (.int c6)]) (.int (0 : Int32))) → (∀ c ∈ ([c0, c1, c2, c3, c4, c5, c6] : List Int32), ¬ c < 0 ∧ ¬ (255 : Int32) < c) → (na = 5 ∨ na = 6 ∨ na = 7) → Go p e below (OutW Z EL s (Q_law Z i0 i1 i2 i3 i4 i5 em va kv pa oa pl pv kp ol ov ko G1 h0 n0) room_1.cells room_1.slots) T423 (mkF m 217 #[.val (.int i0), .val (.int i1), .val (.int i2), .val (.int i3), .val (.int i4), .val (.int i5), .val (.ref ar), .val (.int bs), .val (.int na), .unset, .unset, .unset, .unset] []) := by
    intro T423 LL423 hP423 vm423 kk423 ar ka bs na c0 c1 c2 c3 c4 c5 c6 X423 e423 N423 KP423 OP423 hS423 hk423 hZ423 hown423 RP423 VA HN HA
    have CRP423 := CR0.trans RP423
    refine Go.by (fun t k => XS.iloadN X423.here hx rfl (hb hby at_217) rfl (XS.bipush X423.here hx rfl (hb hby at_218) (XS.iand X423.here hx rfl (hb hby at_220) rfl k))) ?_
    show Go p e below _ T423 (mkF m 221 #[.val (.int i0), .val (.int i1), .val (.int i2), .val (.int i3), .val (.int i4), .val (.int i5), .val (.ref ar), .val (.int bs), .val (.int na), .unset, .unset, .unset, .unset] [(.int (i1 &&& (8 : Int32)))])
    by_cases hz : (i1 &&& (8 : Int32)) = (0 : Int32)
    · refine Go.by (fun t k => XS.ifYes X423.here hx rfl (pc0 := 221) (pc' := 229) rfl (hb hby at_221) rfl ((if0 _ _).trans (teq (show (i1 &&& (8 : Int32)) = (0 : Int32) from hz)).1) (by decide) (by decide) k) ?_
      show Go p e below _ T423 (mkF m 229 #[.val (.int i0), .val (.int i1), .val (.int i2), .val (.int i3), .val (.int i4), .val (.int i5), .val (.ref ar), .val (.int bs), .val (.int na), .unset, .unset, .unset, .unset] [])
      refine Go.by (fun t k => XS.iloadN X423.here hx rfl (hb hby at_229) rfl (XS.bipush X423.here hx rfl (hb hby at_230) (XS.iand X423.here hx rfl (hb hby at_232) rfl k))) ?_
      show Go p e below _ T423 (mkF m 233 #[.val (.int i0), .val (.int i1), .val (.int i2), .val (.int i3), .val (.int i4), .val (.int i5), .val (.ref ar), .val (.int bs), .val (.int na), .unset, .unset, .unset, .unset] [(.int (i1 &&& (7 : Int32)))])
      rcases (mask7c i1 : (i1 &&& (7 : Int32)) = (0 : Int32) ∨ (i1 &&& (7 : Int32)) = (1 : Int32) ∨ (i1 &&& (7 : Int32)) = (2 : Int32) ∨ (i1 &&& (7 : Int32)) = (3 : Int32) ∨ (i1 &&& (7 : Int32)) = (4 : Int32) ∨ (i1 &&& (7 : Int32)) = (5 : Int32) ∨ (i1 &&& (7 : Int32)) = (6 : Int32) ∨ (i1 &&& (7 : Int32)) = (7 : Int32)) with hk424 | hk424 | hk424 | hk424 | hk424 | hk424 | hk424 | hk424
      · rw [hk424]
        show Go p e below _ T423 (mkF m 233 #[.val (.int i0), .val (.int i1), .val (.int i2), .val (.int i3), .val (.int i4), .val (.int i5), .val (.ref ar), .val (.int bs), .val (.int na), .unset, .unset, .unset, .unset] [(.int (0 : Int32))])
        refine Go.by (fun t k => XS.istore X423.here hx rfl (hb hby at_233) rfl (l' := #[.val (.int i0), .val (.int i1), .val (.int i2), .val (.int i3), .val (.int i4), .val (.int i5), .val (.ref ar), .val (.int bs), .val (.int na), .val (.int (0 : Int32)), .unset, .unset, .unset]) rfl k) ?_
        show Go p e below _ T423 (mkF m 235 #[.val (.int i0), .val (.int i1), .val (.int i2), .val (.int i3), .val (.int i4), .val (.int i5), .val (.ref ar), .val (.int bs), .val (.int na), .val (.int (0 : Int32)), .unset, .unset, .unset] [])
        exact P235_0 _ _ _ _ _ ar ka bs na c0 c1 c2 c3 c4 c5 c6 (Stand_grow X423 (by decide) (by decide)) e423 N423 KP423 OP423 hS423 (Nat.le_trans hk423 (Nat.le_refl _)) hZ423 hown423 RP423 VA HN
      · rw [hk424]
        show Go p e below _ T423 (mkF m 233 #[.val (.int i0), .val (.int i1), .val (.int i2), .val (.int i3), .val (.int i4), .val (.int i5), .val (.ref ar), .val (.int bs), .val (.int na), .unset, .unset, .unset, .unset] [(.int (1 : Int32))])
        refine Go.by (fun t k => XS.istore X423.here hx rfl (hb hby at_233) rfl (l' := #[.val (.int i0), .val (.int i1), .val (.int i2), .val (.int i3), .val (.int i4), .val (.int i5), .val (.ref ar), .val (.int bs), .val (.int na), .val (.int (1 : Int32)), .unset, .unset, .unset]) rfl k) ?_
        show Go p e below _ T423 (mkF m 235 #[.val (.int i0), .val (.int i1), .val (.int i2), .val (.int i3), .val (.int i4), .val (.int i5), .val (.ref ar), .val (.int bs), .val (.int na), .val (.int (1 : Int32)), .unset, .unset, .unset] [])
        exact P235_1 _ _ _ _ _ ar ka bs na c0 c1 c2 c3 c4 c5 c6 (Stand_grow X423 (by decide) (by decide)) e423 N423 KP423 OP423 hS423 (Nat.le_trans hk423 (Nat.le_refl _)) hZ423 hown423 RP423 VA HN
      · rw [hk424]
        show Go p e below _ T423 (mkF m 233 #[.val (.int i0), .val (.int i1), .val (.int i2), .val (.int i3), .val (.int i4), .val (.int i5), .val (.ref ar), .val (.int bs), .val (.int na), .unset, .unset, .unset, .unset] [(.int (2 : Int32))])
        refine Go.by (fun t k => XS.istore X423.here hx rfl (hb hby at_233) rfl (l' := #[.val (.int i0), .val (.int i1), .val (.int i2), .val (.int i3), .val (.int i4), .val (.int i5), .val (.ref ar), .val (.int bs), .val (.int na), .val (.int (2 : Int32)), .unset, .unset, .unset]) rfl k) ?_
        show Go p e below _ T423 (mkF m 235 #[.val (.int i0), .val (.int i1), .val (.int i2), .val (.int i3), .val (.int i4), .val (.int i5), .val (.ref ar), .val (.int bs), .val (.int na), .val (.int (2 : Int32)), .unset, .unset, .unset] [])
        exact P235_2 _ _ _ _ _ ar ka bs na c0 c1 c2 c3 c4 c5 c6 (Stand_grow X423 (by decide) (by decide)) e423 N423 KP423 OP423 hS423 (Nat.le_trans hk423 (Nat.le_refl _)) hZ423 hown423 RP423 VA HN
      · rw [hk424]
        show Go p e below _ T423 (mkF m 233 #[.val (.int i0), .val (.int i1), .val (.int i2), .val (.int i3), .val (.int i4), .val (.int i5), .val (.ref ar), .val (.int bs), .val (.int na), .unset, .unset, .unset, .unset] [(.int (3 : Int32))])
        refine Go.by (fun t k => XS.istore X423.here hx rfl (hb hby at_233) rfl (l' := #[.val (.int i0), .val (.int i1), .val (.int i2), .val (.int i3), .val (.int i4), .val (.int i5), .val (.ref ar), .val (.int bs), .val (.int na), .val (.int (3 : Int32)), .unset, .unset, .unset]) rfl k) ?_
        show Go p e below _ T423 (mkF m 235 #[.val (.int i0), .val (.int i1), .val (.int i2), .val (.int i3), .val (.int i4), .val (.int i5), .val (.ref ar), .val (.int bs), .val (.int na), .val (.int (3 : Int32)), .unset, .unset, .unset] [])
        exact P235_3 _ _ _ _ _ ar ka bs na c0 c1 c2 c3 c4 c5 c6 (Stand_grow X423 (by decide) (by decide)) e423 N423 KP423 OP423 hS423 (Nat.le_trans hk423 (Nat.le_refl _)) hZ423 hown423 RP423 VA HN
      · rw [hk424]
        show Go p e below _ T423 (mkF m 233 #[.val (.int i0), .val (.int i1), .val (.int i2), .val (.int i3), .val (.int i4), .val (.int i5), .val (.ref ar), .val (.int bs), .val (.int na), .unset, .unset, .unset, .unset] [(.int (4 : Int32))])
        refine Go.by (fun t k => XS.istore X423.here hx rfl (hb hby at_233) rfl (l' := #[.val (.int i0), .val (.int i1), .val (.int i2), .val (.int i3), .val (.int i4), .val (.int i5), .val (.ref ar), .val (.int bs), .val (.int na), .val (.int (4 : Int32)), .unset, .unset, .unset]) rfl k) ?_
        show Go p e below _ T423 (mkF m 235 #[.val (.int i0), .val (.int i1), .val (.int i2), .val (.int i3), .val (.int i4), .val (.int i5), .val (.ref ar), .val (.int bs), .val (.int na), .val (.int (4 : Int32)), .unset, .unset, .unset] [])
        exact P235_4 _ _ _ _ _ ar ka bs na c0 c1 c2 c3 c4 c5 c6 (Stand_grow X423 (by decide) (by decide)) e423 N423 KP423 OP423 hS423 (Nat.le_trans hk423 (Nat.le_refl _)) hZ423 hown423 RP423 VA HN
      · rw [hk424]
        show Go p e below _ T423 (mkF m 233 #[.val (.int i0), .val (.int i1), .val (.int i2), .val (.int i3), .val (.int i4), .val (.int i5), .val (.ref ar), .val (.int bs), .val (.int na), .unset, .unset, .unset, .unset] [(.int (5 : Int32))])
        refine Go.by (fun t k => XS.istore X423.here hx rfl (hb hby at_233) rfl (l' := #[.val (.int i0), .val (.int i1), .val (.int i2), .val (.int i3), .val (.int i4), .val (.int i5), .val (.ref ar), .val (.int bs), .val (.int na), .val (.int (5 : Int32)), .unset, .unset, .unset]) rfl k) ?_
        show Go p e below _ T423 (mkF m 235 #[.val (.int i0), .val (.int i1), .val (.int i2), .val (.int i3), .val (.int i4), .val (.int i5), .val (.ref ar), .val (.int bs), .val (.int na), .val (.int (5 : Int32)), .unset, .unset, .unset] [])
        exact P235_5 _ _ _ _ _ ar ka bs na c0 c1 c2 c3 c4 c5 c6 (Stand_grow X423 (by decide) (by decide)) e423 N423 KP423 OP423 hS423 (Nat.le_trans hk423 (Nat.le_refl _)) hZ423 hown423 RP423 VA HN
      · rw [hk424]
        show Go p e below _ T423 (mkF m 233 #[.val (.int i0), .val (.int i1), .val (.int i2), .val (.int i3), .val (.int i4), .val (.int i5), .val (.ref ar), .val (.int bs), .val (.int na), .unset, .unset, .unset, .unset] [(.int (6 : Int32))])
        refine Go.by (fun t k => XS.istore X423.here hx rfl (hb hby at_233) rfl (l' := #[.val (.int i0), .val (.int i1), .val (.int i2), .val (.int i3), .val (.int i4), .val (.int i5), .val (.ref ar), .val (.int bs), .val (.int na), .val (.int (6 : Int32)), .unset, .unset, .unset]) rfl k) ?_
        show Go p e below _ T423 (mkF m 235 #[.val (.int i0), .val (.int i1), .val (.int i2), .val (.int i3), .val (.int i4), .val (.int i5), .val (.ref ar), .val (.int bs), .val (.int na), .val (.int (6 : Int32)), .unset, .unset, .unset] [])
        exact P235_6 _ _ _ _ _ ar ka bs na c0 c1 c2 c3 c4 c5 c6 (Stand_grow X423 (by decide) (by decide)) e423 N423 KP423 OP423 hS423 (Nat.le_trans hk423 (Nat.le_refl _)) hZ423 hown423 RP423 VA HN
      · rw [hk424]
        show Go p e below _ T423 (mkF m 233 #[.val (.int i0), .val (.int i1), .val (.int i2), .val (.int i3), .val (.int i4), .val (.int i5), .val (.ref ar), .val (.int bs), .val (.int na), .unset, .unset, .unset, .unset] [(.int (7 : Int32))])
        refine Go.by (fun t k => XS.istore X423.here hx rfl (hb hby at_233) rfl (l' := #[.val (.int i0), .val (.int i1), .val (.int i2), .val (.int i3), .val (.int i4), .val (.int i5), .val (.ref ar), .val (.int bs), .val (.int na), .val (.int (7 : Int32)), .unset, .unset, .unset]) rfl k) ?_
        show Go p e below _ T423 (mkF m 235 #[.val (.int i0), .val (.int i1), .val (.int i2), .val (.int i3), .val (.int i4), .val (.int i5), .val (.ref ar), .val (.int bs), .val (.int na), .val (.int (7 : Int32)), .unset, .unset, .unset] [])
        exact P235_7 _ _ _ _ _ ar ka bs na c0 c1 c2 c3 c4 c5 c6 (Stand_grow X423 (by decide) (by decide)) e423 N423 KP423 OP423 hS423 (Nat.le_trans hk423 (Nat.le_refl _)) hZ423 hown423 RP423 VA HN
    · refine Go.by (fun t k => XS.ifNo X423.here hx rfl (hb hby at_221) rfl ((if0 _ _).trans (feq (show ¬ ((i1 &&& (8 : Int32)) = (0 : Int32)) from hz)).1) k) ?_
      show Go p e below _ T423 (mkF m 224 #[.val (.int i0), .val (.int i1), .val (.int i2), .val (.int i3), .val (.int i4), .val (.int i5), .val (.ref ar), .val (.int bs), .val (.int na), .unset, .unset, .unset, .unset] [])
      refine Go.by (fun t k => XS.iload X423.here hx rfl (hb hby at_224) rfl (XS.goto X423.here hx rfl (pc0 := 226) (pc' := 233) rfl (hb hby at_226) (by decide) (by decide) k)) ?_
      show Go p e below _ T423 (mkF m 233 #[.val (.int i0), .val (.int i1), .val (.int i2), .val (.int i3), .val (.int i4), .val (.int i5), .val (.ref ar), .val (.int bs), .val (.int na), .unset, .unset, .unset, .unset] [(.int na)])
      rcases HA with rfl | rfl | rfl
      · show Go p e below _ T423 (mkF m 233 #[.val (.int i0), .val (.int i1), .val (.int i2), .val (.int i3), .val (.int i4), .val (.int i5), .val (.ref ar), .val (.int bs), .val (.int (5 : Int32)), .unset, .unset, .unset, .unset] [(.int (5 : Int32))])
        refine Go.by (fun t k => XS.istore X423.here hx rfl (hb hby at_233) rfl (l' := #[.val (.int i0), .val (.int i1), .val (.int i2), .val (.int i3), .val (.int i4), .val (.int i5), .val (.ref ar), .val (.int bs), .val (.int (5 : Int32)), .val (.int (5 : Int32)), .unset, .unset, .unset]) rfl k) ?_
        show Go p e below _ T423 (mkF m 235 #[.val (.int i0), .val (.int i1), .val (.int i2), .val (.int i3), .val (.int i4), .val (.int i5), .val (.ref ar), .val (.int bs), .val (.int (5 : Int32)), .val (.int (5 : Int32)), .unset, .unset, .unset] [])
        exact P235_5 _ _ _ _ _ ar ka bs (5 : Int32) c0 c1 c2 c3 c4 c5 c6 (Stand_grow X423 (by decide) (by decide)) e423 N423 KP423 OP423 hS423 (Nat.le_trans hk423 (Nat.le_refl _)) hZ423 hown423 RP423 VA HN
      · show Go p e below _ T423 (mkF m 233 #[.val (.int i0), .val (.int i1), .val (.int i2), .val (.int i3), .val (.int i4), .val (.int i5), .val (.ref ar), .val (.int bs), .val (.int (6 : Int32)), .unset, .unset, .unset, .unset] [(.int (6 : Int32))])
        refine Go.by (fun t k => XS.istore X423.here hx rfl (hb hby at_233) rfl (l' := #[.val (.int i0), .val (.int i1), .val (.int i2), .val (.int i3), .val (.int i4), .val (.int i5), .val (.ref ar), .val (.int bs), .val (.int (6 : Int32)), .val (.int (6 : Int32)), .unset, .unset, .unset]) rfl k) ?_
        show Go p e below _ T423 (mkF m 235 #[.val (.int i0), .val (.int i1), .val (.int i2), .val (.int i3), .val (.int i4), .val (.int i5), .val (.ref ar), .val (.int bs), .val (.int (6 : Int32)), .val (.int (6 : Int32)), .unset, .unset, .unset] [])
        exact P235_6 _ _ _ _ _ ar ka bs (6 : Int32) c0 c1 c2 c3 c4 c5 c6 (Stand_grow X423 (by decide) (by decide)) e423 N423 KP423 OP423 hS423 (Nat.le_trans hk423 (Nat.le_refl _)) hZ423 hown423 RP423 VA HN
      · show Go p e below _ T423 (mkF m 233 #[.val (.int i0), .val (.int i1), .val (.int i2), .val (.int i3), .val (.int i4), .val (.int i5), .val (.ref ar), .val (.int bs), .val (.int (7 : Int32)), .unset, .unset, .unset, .unset] [(.int (7 : Int32))])
        refine Go.by (fun t k => XS.istore X423.here hx rfl (hb hby at_233) rfl (l' := #[.val (.int i0), .val (.int i1), .val (.int i2), .val (.int i3), .val (.int i4), .val (.int i5), .val (.ref ar), .val (.int bs), .val (.int (7 : Int32)), .val (.int (7 : Int32)), .unset, .unset, .unset]) rfl k) ?_
        show Go p e below _ T423 (mkF m 235 #[.val (.int i0), .val (.int i1), .val (.int i2), .val (.int i3), .val (.int i4), .val (.int i5), .val (.ref ar), .val (.int bs), .val (.int (7 : Int32)), .val (.int (7 : Int32)), .unset, .unset, .unset] [])
        exact P235_7 _ _ _ _ _ ar ka bs (7 : Int32) c0 c1 c2 c3 c4 c5 c6 (Stand_grow X423 (by decide) (by decide)) e423 N423 KP423 OP423 hS423 (Nat.le_trans hk423 (Nat.le_refl _)) hZ423 hown423 RP423 VA HN
  have P195 : ∀ (T425 : State) (LL425 : List Loc) (hP425 : Heap) (vm425 : Vm) (kk425 : Nat) (ar : Addr) (ka : ClassId) (bs : Int32) (na : Int32) (c0 : Int32) (c1 : Int32) (c2 : Int32) (c3 : Int32) (c4 : Int32) (c5 : Int32) (c6 : Int32), Stand p l e room_1 (s.setVm vm425) m #[(.int i0), (.int i1), (.int i2), (.int i3), (.int i4), (.int i5)] below meth c T425 LL425 1 7 → T425.heap = hP425 → Fr n0 LL425 → Keep h0 hP425 [] → Old Z n0 hP425 → s.Since vm425 kk425 → kk425 ≤ hP425.size → Z.Warmed39 vm425 → vm425.findClass "com/example/antecedent/antecedent/EntityTypeForLabelPinLaw" = some m.cls → CHr Z EL s.vm h0 vm425 hP425 → (Arv Z hP425 ar ka .char (7 : Int32) ([(.int c0), (.int c1), (.int c2), (.int c3), (.int c4), (.int c5), (.int c6)]) (.int (0 : Int32))) → (∀ c ∈ ([c0, c1, c2, c3, c4, c5, c6] : List Int32), ¬ c < 0 ∧ ¬ (255 : Int32) < c) → (na = 5 ∨ na = 6 ∨ na = 7) → (h0.size ≤ ar) → Go p e below (OutW Z EL s (Q_law Z i0 i1 i2 i3 i4 i5 em va kv pa oa pl pv kp ol ov ko G1 h0 n0) room_1.cells room_1.slots) T425 (mkF m 195 #[.val (.int i0), .val (.int i1), .val (.int i2), .val (.int i3), .val (.int i4), .val (.int i5), .val (.ref ar), .val (.int bs), .val (.int na), .unset, .unset, .unset, .unset] []) := by
    intro T425 LL425 hP425 vm425 kk425 ar ka bs na c0 c1 c2 c3 c4 c5 c6 X425 e425 N425 KP425 OP425 hS425 hk425 hZ425 hown425 RP425 VA HN HA HB
    have CRP425 := CR0.trans RP425
    have r0 := HN c0 (by simp)
    have r1 := HN c1 (by simp)
    have r2 := HN c2 (by simp)
    have r3 := HN c3 (by simp)
    have r4 := HN c4 (by simp)
    have r5 := HN c5 (by simp)
    have r6 := HN c6 (by simp)
    refine Go.by (fun t k => XS.iloadN X425.here hx rfl (hb hby at_195) rfl (XS.iconst X425.here hx rfl (hb hby at_196) (XS.iand X425.here hx rfl (hb hby at_197) rfl k))) ?_
    show Go p e below _ T425 (mkF m 198 #[.val (.int i0), .val (.int i1), .val (.int i2), .val (.int i3), .val (.int i4), .val (.int i5), .val (.ref ar), .val (.int bs), .val (.int na), .unset, .unset, .unset, .unset] [(.int (i0 &&& (4 : Int32)))])
    by_cases hz : (i0 &&& (4 : Int32)) = (0 : Int32)
    · refine Go.by (fun t k => XS.ifYes X425.here hx rfl (pc0 := 198) (pc' := 217) rfl (hb hby at_198) rfl ((if0 _ _).trans (teq (show (i0 &&& (4 : Int32)) = (0 : Int32) from hz)).1) (by decide) (by decide) k) ?_
      show Go p e below _ T425 (mkF m 217 #[.val (.int i0), .val (.int i1), .val (.int i2), .val (.int i3), .val (.int i4), .val (.int i5), .val (.ref ar), .val (.int bs), .val (.int na), .unset, .unset, .unset, .unset] [])
      exact P217 _ _ _ _ _ ar ka bs na c0 c1 c2 c3 c4 c5 c6 (Stand_grow X425 (by decide) (by decide)) e425 N425 KP425 OP425 hS425 (Nat.le_trans hk425 (Nat.le_refl _)) hZ425 hown425 RP425 VA HN HA
    · refine Go.by (fun t k => XS.ifNo X425.here hx rfl (hb hby at_198) rfl ((if0 _ _).trans (feq (show ¬ ((i0 &&& (4 : Int32)) = (0 : Int32)) from hz)).1) k) ?_
      show Go p e below _ T425 (mkF m 201 #[.val (.int i0), .val (.int i1), .val (.int i2), .val (.int i3), .val (.int i4), .val (.int i5), .val (.ref ar), .val (.int bs), .val (.int na), .unset, .unset, .unset, .unset] [])
      refine Go.by (fun t k => XS.aload X425.here hx rfl (hb hby at_201) rfl rfl (XS.iloadN X425.here hx rfl (hb hby at_203) rfl k)) ?_
      show Go p e below _ T425 (mkF m 204 #[.val (.int i0), .val (.int i1), .val (.int i2), .val (.int i3), .val (.int i4), .val (.int i5), .val (.ref ar), .val (.int bs), .val (.int na), .unset, .unset, .unset, .unset] [(.int i2), (.ref ar)])
      refine Go.by (X425.ldcInt hx hown425 (mvT hZ425 (ow84 hw)) (g := (mkF m 204 #[.val (.int i0), .val (.int i1), .val (.int i2), .val (.int i3), .val (.int i4), .val (.int i5), .val (.ref ar), .val (.int bs), .val (.int na), .unset, .unset, .unset, .unset] [(.int i2), (.ref ar)])) rfl (hb hby at_204)) ?_
      show Go p e below _ T425 (mkF m 206 #[.val (.int i0), .val (.int i1), .val (.int i2), .val (.int i3), .val (.int i4), .val (.int i5), .val (.ref ar), .val (.int bs), .val (.int na), .unset, .unset, .unset, .unset] [(.int (2147483647 : Int32)), (.int i2), (.ref ar)])
      refine Go.by (fun t k => XS.iand X425.here hx rfl (hb hby at_206) rfl (XS.bipush X425.here hx rfl (hb hby at_207) (iremM X425 hx rfl (hb hby at_209) rfl (by decide) k))) ?_
      show Go p e below _ T425 (mkF m 210 #[.val (.int i0), .val (.int i1), .val (.int i2), .val (.int i3), .val (.int i4), .val (.int i5), .val (.ref ar), .val (.int bs), .val (.int na), .unset, .unset, .unset, .unset] [(.int ((i2 &&& (2147483647 : Int32)) % (7 : Int32))), (.ref ar)])
      rcases (rem7c i2 : ((i2 &&& (2147483647 : Int32)) % (7 : Int32)) = (0 : Int32) ∨ ((i2 &&& (2147483647 : Int32)) % (7 : Int32)) = (1 : Int32) ∨ ((i2 &&& (2147483647 : Int32)) % (7 : Int32)) = (2 : Int32) ∨ ((i2 &&& (2147483647 : Int32)) % (7 : Int32)) = (3 : Int32) ∨ ((i2 &&& (2147483647 : Int32)) % (7 : Int32)) = (4 : Int32) ∨ ((i2 &&& (2147483647 : Int32)) % (7 : Int32)) = (5 : Int32) ∨ ((i2 &&& (2147483647 : Int32)) % (7 : Int32)) = (6 : Int32)) with hk426 | hk426 | hk426 | hk426 | hk426 | hk426 | hk426
      · rw [hk426]
        show Go p e below _ T425 (mkF m 210 #[.val (.int i0), .val (.int i1), .val (.int i2), .val (.int i3), .val (.int i4), .val (.int i5), .val (.ref ar), .val (.int bs), .val (.int na), .unset, .unset, .unset, .unset] [(.int (0 : Int32)), (.ref ar)])
        refine Go.by (fun t k => XS.iloadN X425.here hx rfl (hb hby at_210) rfl (XS.sipush X425.here hx rfl (hb hby at_211) (XS.iand X425.here hx rfl (hb hby at_214) rfl (XS.i2c X425.here hx rfl (hb hby at_215) rfl k)))) ?_
        show Go p e below _ T425 (mkF m 216 #[.val (.int i0), .val (.int i1), .val (.int i2), .val (.int i3), .val (.int i4), .val (.int i5), .val (.ref ar), .val (.int bs), .val (.int na), .unset, .unset, .unset, .unset] [(.int ((i3 &&& (255 : Int32)).toUInt32.toUInt16.toUInt32.toInt32)), (.int (0 : Int32)), (.ref ar)])
        obtain ⟨c427, A427, q427, S427, M427, G427, J427⟩ := id VA
        obtain ⟨T427, h427, X427, e427, W427, st427⟩ := stC X425 hx hZ425 e425 A427 (j := (0 : Int32)) (inb_of S427 ⟨by decide, by decide⟩) (g := (mkF m 216 #[.val (.int i0), .val (.int i1), .val (.int i2), .val (.int i3), .val (.int i4), .val (.int i5), .val (.ref ar), .val (.int bs), .val (.int na), .unset, .unset, .unset, .unset] [(.int ((i3 &&& (255 : Int32)).toUInt32.toUInt16.toUInt32.toInt32)), (.int (0 : Int32)), (.ref ar)])) rfl rfl (hb hby at_216)
        refine Go.by st427 ?_
        have N427 := Fr.snoc X427 N425 (Nat.le_trans (Nat.le_trans Z0 (Nat.le_refl _)) HB)
        have R428 : CHr Z EL vm425 hP425 vm425 h427 := CHr.wr W427 (safe_arv hZ425.alike VA (by decide)) CRP425.1
        have CR428 := CRP425.trans R428
        have K428 : Keep h0 h427 [] := KP425.wr W427 (Or.inr (Nat.le_trans (Nat.le_refl _) HB))
        have O428 : Old Z n0 h427 := OP425.wr W427 (Nat.le_trans (Nat.le_trans Z0 (Nat.le_refl _)) HB)
        show Go p e below _ T427 (mkF m 217 #[.val (.int i0), .val (.int i1), .val (.int i2), .val (.int i3), .val (.int i4), .val (.int i5), .val (.ref ar), .val (.int bs), .val (.int na), .unset, .unset, .unset, .unset] [])
        have V427 : Arv Z h427 ar ka .char (7 : Int32) ([(.int (nar .char ((i3 &&& (255 : Int32)).toUInt32.toUInt16.toUInt32.toInt32))), (.int c1), (.int c2), (.int c3), (.int c4), (.int c5), (.int c6)]) (.int (0 : Int32)) := Arv.set A427 q427 S427 M427 G427 J427 (fits_nar_char _) W427 0 rfl (Nat.le_of_ble_eq_true rfl)
        have hn : ∀ c ∈ ([(nar .char ((i3 &&& (255 : Int32)).toUInt32.toUInt16.toUInt32.toInt32)), c1, c2, c3, c4, c5, c6] : List Int32), ¬ c < 0 ∧ ¬ (255 : Int32) < c := by
          intro c hc; simp only [List.mem_cons, List.not_mem_nil, or_false] at hc; rcases hc with rfl | rfl | rfl | rfl | rfl | rfl | rfl
          · exact chars_lo i3
          · exact r1
          · exact r2
          · exact r3
          · exact r4
          · exact r5
          · exact r6
        exact P217 _ _ _ _ _ ar ka bs na (nar .char ((i3 &&& (255 : Int32)).toUInt32.toUInt16.toUInt32.toInt32)) c1 c2 c3 c4 c5 c6 (Stand_grow X427 (by decide) (by decide)) e427 N427 K428 O428 hS425 (Nat.le_trans hk425 (Keep.of_wr W427).1) hZ425 hown425 (RP425.trans R428) V427 (hn) HA
      · rw [hk426]
        show Go p e below _ T425 (mkF m 210 #[.val (.int i0), .val (.int i1), .val (.int i2), .val (.int i3), .val (.int i4), .val (.int i5), .val (.ref ar), .val (.int bs), .val (.int na), .unset, .unset, .unset, .unset] [(.int (1 : Int32)), (.ref ar)])
        refine Go.by (fun t k => XS.iloadN X425.here hx rfl (hb hby at_210) rfl (XS.sipush X425.here hx rfl (hb hby at_211) (XS.iand X425.here hx rfl (hb hby at_214) rfl (XS.i2c X425.here hx rfl (hb hby at_215) rfl k)))) ?_
        show Go p e below _ T425 (mkF m 216 #[.val (.int i0), .val (.int i1), .val (.int i2), .val (.int i3), .val (.int i4), .val (.int i5), .val (.ref ar), .val (.int bs), .val (.int na), .unset, .unset, .unset, .unset] [(.int ((i3 &&& (255 : Int32)).toUInt32.toUInt16.toUInt32.toInt32)), (.int (1 : Int32)), (.ref ar)])
        obtain ⟨c429, A429, q429, S429, M429, G429, J429⟩ := id VA
        obtain ⟨T429, h429, X429, e429, W429, st429⟩ := stC X425 hx hZ425 e425 A429 (j := (1 : Int32)) (inb_of S429 ⟨by decide, by decide⟩) (g := (mkF m 216 #[.val (.int i0), .val (.int i1), .val (.int i2), .val (.int i3), .val (.int i4), .val (.int i5), .val (.ref ar), .val (.int bs), .val (.int na), .unset, .unset, .unset, .unset] [(.int ((i3 &&& (255 : Int32)).toUInt32.toUInt16.toUInt32.toInt32)), (.int (1 : Int32)), (.ref ar)])) rfl rfl (hb hby at_216)
        refine Go.by st429 ?_
        have N429 := Fr.snoc X429 N425 (Nat.le_trans (Nat.le_trans Z0 (Nat.le_refl _)) HB)
        have R430 : CHr Z EL vm425 hP425 vm425 h429 := CHr.wr W429 (safe_arv hZ425.alike VA (by decide)) CRP425.1
        have CR430 := CRP425.trans R430
        have K430 : Keep h0 h429 [] := KP425.wr W429 (Or.inr (Nat.le_trans (Nat.le_refl _) HB))
        have O430 : Old Z n0 h429 := OP425.wr W429 (Nat.le_trans (Nat.le_trans Z0 (Nat.le_refl _)) HB)
        show Go p e below _ T429 (mkF m 217 #[.val (.int i0), .val (.int i1), .val (.int i2), .val (.int i3), .val (.int i4), .val (.int i5), .val (.ref ar), .val (.int bs), .val (.int na), .unset, .unset, .unset, .unset] [])
        have V429 : Arv Z h429 ar ka .char (7 : Int32) ([(.int c0), (.int (nar .char ((i3 &&& (255 : Int32)).toUInt32.toUInt16.toUInt32.toInt32))), (.int c2), (.int c3), (.int c4), (.int c5), (.int c6)]) (.int (0 : Int32)) := Arv.set A429 q429 S429 M429 G429 J429 (fits_nar_char _) W429 1 rfl (Nat.le_of_ble_eq_true rfl)
        have hn : ∀ c ∈ ([c0, (nar .char ((i3 &&& (255 : Int32)).toUInt32.toUInt16.toUInt32.toInt32)), c2, c3, c4, c5, c6] : List Int32), ¬ c < 0 ∧ ¬ (255 : Int32) < c := by
          intro c hc; simp only [List.mem_cons, List.not_mem_nil, or_false] at hc; rcases hc with rfl | rfl | rfl | rfl | rfl | rfl | rfl
          · exact r0
          · exact chars_lo i3
          · exact r2
          · exact r3
          · exact r4
          · exact r5
          · exact r6
        exact P217 _ _ _ _ _ ar ka bs na c0 (nar .char ((i3 &&& (255 : Int32)).toUInt32.toUInt16.toUInt32.toInt32)) c2 c3 c4 c5 c6 (Stand_grow X429 (by decide) (by decide)) e429 N429 K430 O430 hS425 (Nat.le_trans hk425 (Keep.of_wr W429).1) hZ425 hown425 (RP425.trans R430) V429 (hn) HA
      · rw [hk426]
        show Go p e below _ T425 (mkF m 210 #[.val (.int i0), .val (.int i1), .val (.int i2), .val (.int i3), .val (.int i4), .val (.int i5), .val (.ref ar), .val (.int bs), .val (.int na), .unset, .unset, .unset, .unset] [(.int (2 : Int32)), (.ref ar)])
        refine Go.by (fun t k => XS.iloadN X425.here hx rfl (hb hby at_210) rfl (XS.sipush X425.here hx rfl (hb hby at_211) (XS.iand X425.here hx rfl (hb hby at_214) rfl (XS.i2c X425.here hx rfl (hb hby at_215) rfl k)))) ?_
        show Go p e below _ T425 (mkF m 216 #[.val (.int i0), .val (.int i1), .val (.int i2), .val (.int i3), .val (.int i4), .val (.int i5), .val (.ref ar), .val (.int bs), .val (.int na), .unset, .unset, .unset, .unset] [(.int ((i3 &&& (255 : Int32)).toUInt32.toUInt16.toUInt32.toInt32)), (.int (2 : Int32)), (.ref ar)])
        obtain ⟨c431, A431, q431, S431, M431, G431, J431⟩ := id VA
        obtain ⟨T431, h431, X431, e431, W431, st431⟩ := stC X425 hx hZ425 e425 A431 (j := (2 : Int32)) (inb_of S431 ⟨by decide, by decide⟩) (g := (mkF m 216 #[.val (.int i0), .val (.int i1), .val (.int i2), .val (.int i3), .val (.int i4), .val (.int i5), .val (.ref ar), .val (.int bs), .val (.int na), .unset, .unset, .unset, .unset] [(.int ((i3 &&& (255 : Int32)).toUInt32.toUInt16.toUInt32.toInt32)), (.int (2 : Int32)), (.ref ar)])) rfl rfl (hb hby at_216)
        refine Go.by st431 ?_
        have N431 := Fr.snoc X431 N425 (Nat.le_trans (Nat.le_trans Z0 (Nat.le_refl _)) HB)
        have R432 : CHr Z EL vm425 hP425 vm425 h431 := CHr.wr W431 (safe_arv hZ425.alike VA (by decide)) CRP425.1
        have CR432 := CRP425.trans R432
        have K432 : Keep h0 h431 [] := KP425.wr W431 (Or.inr (Nat.le_trans (Nat.le_refl _) HB))
        have O432 : Old Z n0 h431 := OP425.wr W431 (Nat.le_trans (Nat.le_trans Z0 (Nat.le_refl _)) HB)
        show Go p e below _ T431 (mkF m 217 #[.val (.int i0), .val (.int i1), .val (.int i2), .val (.int i3), .val (.int i4), .val (.int i5), .val (.ref ar), .val (.int bs), .val (.int na), .unset, .unset, .unset, .unset] [])
        have V431 : Arv Z h431 ar ka .char (7 : Int32) ([(.int c0), (.int c1), (.int (nar .char ((i3 &&& (255 : Int32)).toUInt32.toUInt16.toUInt32.toInt32))), (.int c3), (.int c4), (.int c5), (.int c6)]) (.int (0 : Int32)) := Arv.set A431 q431 S431 M431 G431 J431 (fits_nar_char _) W431 2 rfl (Nat.le_of_ble_eq_true rfl)
        have hn : ∀ c ∈ ([c0, c1, (nar .char ((i3 &&& (255 : Int32)).toUInt32.toUInt16.toUInt32.toInt32)), c3, c4, c5, c6] : List Int32), ¬ c < 0 ∧ ¬ (255 : Int32) < c := by
          intro c hc; simp only [List.mem_cons, List.not_mem_nil, or_false] at hc; rcases hc with rfl | rfl | rfl | rfl | rfl | rfl | rfl
          · exact r0
          · exact r1
          · exact chars_lo i3
          · exact r3
          · exact r4
          · exact r5
          · exact r6
        exact P217 _ _ _ _ _ ar ka bs na c0 c1 (nar .char ((i3 &&& (255 : Int32)).toUInt32.toUInt16.toUInt32.toInt32)) c3 c4 c5 c6 (Stand_grow X431 (by decide) (by decide)) e431 N431 K432 O432 hS425 (Nat.le_trans hk425 (Keep.of_wr W431).1) hZ425 hown425 (RP425.trans R432) V431 (hn) HA
      · rw [hk426]
        show Go p e below _ T425 (mkF m 210 #[.val (.int i0), .val (.int i1), .val (.int i2), .val (.int i3), .val (.int i4), .val (.int i5), .val (.ref ar), .val (.int bs), .val (.int na), .unset, .unset, .unset, .unset] [(.int (3 : Int32)), (.ref ar)])
        refine Go.by (fun t k => XS.iloadN X425.here hx rfl (hb hby at_210) rfl (XS.sipush X425.here hx rfl (hb hby at_211) (XS.iand X425.here hx rfl (hb hby at_214) rfl (XS.i2c X425.here hx rfl (hb hby at_215) rfl k)))) ?_
        show Go p e below _ T425 (mkF m 216 #[.val (.int i0), .val (.int i1), .val (.int i2), .val (.int i3), .val (.int i4), .val (.int i5), .val (.ref ar), .val (.int bs), .val (.int na), .unset, .unset, .unset, .unset] [(.int ((i3 &&& (255 : Int32)).toUInt32.toUInt16.toUInt32.toInt32)), (.int (3 : Int32)), (.ref ar)])
        obtain ⟨c433, A433, q433, S433, M433, G433, J433⟩ := id VA
        obtain ⟨T433, h433, X433, e433, W433, st433⟩ := stC X425 hx hZ425 e425 A433 (j := (3 : Int32)) (inb_of S433 ⟨by decide, by decide⟩) (g := (mkF m 216 #[.val (.int i0), .val (.int i1), .val (.int i2), .val (.int i3), .val (.int i4), .val (.int i5), .val (.ref ar), .val (.int bs), .val (.int na), .unset, .unset, .unset, .unset] [(.int ((i3 &&& (255 : Int32)).toUInt32.toUInt16.toUInt32.toInt32)), (.int (3 : Int32)), (.ref ar)])) rfl rfl (hb hby at_216)
        refine Go.by st433 ?_
        have N433 := Fr.snoc X433 N425 (Nat.le_trans (Nat.le_trans Z0 (Nat.le_refl _)) HB)
        have R434 : CHr Z EL vm425 hP425 vm425 h433 := CHr.wr W433 (safe_arv hZ425.alike VA (by decide)) CRP425.1
        have CR434 := CRP425.trans R434
        have K434 : Keep h0 h433 [] := KP425.wr W433 (Or.inr (Nat.le_trans (Nat.le_refl _) HB))
        have O434 : Old Z n0 h433 := OP425.wr W433 (Nat.le_trans (Nat.le_trans Z0 (Nat.le_refl _)) HB)
        show Go p e below _ T433 (mkF m 217 #[.val (.int i0), .val (.int i1), .val (.int i2), .val (.int i3), .val (.int i4), .val (.int i5), .val (.ref ar), .val (.int bs), .val (.int na), .unset, .unset, .unset, .unset] [])
        have V433 : Arv Z h433 ar ka .char (7 : Int32) ([(.int c0), (.int c1), (.int c2), (.int (nar .char ((i3 &&& (255 : Int32)).toUInt32.toUInt16.toUInt32.toInt32))), (.int c4), (.int c5), (.int c6)]) (.int (0 : Int32)) := Arv.set A433 q433 S433 M433 G433 J433 (fits_nar_char _) W433 3 rfl (Nat.le_of_ble_eq_true rfl)
        have hn : ∀ c ∈ ([c0, c1, c2, (nar .char ((i3 &&& (255 : Int32)).toUInt32.toUInt16.toUInt32.toInt32)), c4, c5, c6] : List Int32), ¬ c < 0 ∧ ¬ (255 : Int32) < c := by
          intro c hc; simp only [List.mem_cons, List.not_mem_nil, or_false] at hc; rcases hc with rfl | rfl | rfl | rfl | rfl | rfl | rfl
          · exact r0
          · exact r1
          · exact r2
          · exact chars_lo i3
          · exact r4
          · exact r5
          · exact r6
        exact P217 _ _ _ _ _ ar ka bs na c0 c1 c2 (nar .char ((i3 &&& (255 : Int32)).toUInt32.toUInt16.toUInt32.toInt32)) c4 c5 c6 (Stand_grow X433 (by decide) (by decide)) e433 N433 K434 O434 hS425 (Nat.le_trans hk425 (Keep.of_wr W433).1) hZ425 hown425 (RP425.trans R434) V433 (hn) HA
      · rw [hk426]
        show Go p e below _ T425 (mkF m 210 #[.val (.int i0), .val (.int i1), .val (.int i2), .val (.int i3), .val (.int i4), .val (.int i5), .val (.ref ar), .val (.int bs), .val (.int na), .unset, .unset, .unset, .unset] [(.int (4 : Int32)), (.ref ar)])
        refine Go.by (fun t k => XS.iloadN X425.here hx rfl (hb hby at_210) rfl (XS.sipush X425.here hx rfl (hb hby at_211) (XS.iand X425.here hx rfl (hb hby at_214) rfl (XS.i2c X425.here hx rfl (hb hby at_215) rfl k)))) ?_
        show Go p e below _ T425 (mkF m 216 #[.val (.int i0), .val (.int i1), .val (.int i2), .val (.int i3), .val (.int i4), .val (.int i5), .val (.ref ar), .val (.int bs), .val (.int na), .unset, .unset, .unset, .unset] [(.int ((i3 &&& (255 : Int32)).toUInt32.toUInt16.toUInt32.toInt32)), (.int (4 : Int32)), (.ref ar)])
        obtain ⟨c435, A435, q435, S435, M435, G435, J435⟩ := id VA
        obtain ⟨T435, h435, X435, e435, W435, st435⟩ := stC X425 hx hZ425 e425 A435 (j := (4 : Int32)) (inb_of S435 ⟨by decide, by decide⟩) (g := (mkF m 216 #[.val (.int i0), .val (.int i1), .val (.int i2), .val (.int i3), .val (.int i4), .val (.int i5), .val (.ref ar), .val (.int bs), .val (.int na), .unset, .unset, .unset, .unset] [(.int ((i3 &&& (255 : Int32)).toUInt32.toUInt16.toUInt32.toInt32)), (.int (4 : Int32)), (.ref ar)])) rfl rfl (hb hby at_216)
        refine Go.by st435 ?_
        have N435 := Fr.snoc X435 N425 (Nat.le_trans (Nat.le_trans Z0 (Nat.le_refl _)) HB)
        have R436 : CHr Z EL vm425 hP425 vm425 h435 := CHr.wr W435 (safe_arv hZ425.alike VA (by decide)) CRP425.1
        have CR436 := CRP425.trans R436
        have K436 : Keep h0 h435 [] := KP425.wr W435 (Or.inr (Nat.le_trans (Nat.le_refl _) HB))
        have O436 : Old Z n0 h435 := OP425.wr W435 (Nat.le_trans (Nat.le_trans Z0 (Nat.le_refl _)) HB)
        show Go p e below _ T435 (mkF m 217 #[.val (.int i0), .val (.int i1), .val (.int i2), .val (.int i3), .val (.int i4), .val (.int i5), .val (.ref ar), .val (.int bs), .val (.int na), .unset, .unset, .unset, .unset] [])
        have V435 : Arv Z h435 ar ka .char (7 : Int32) ([(.int c0), (.int c1), (.int c2), (.int c3), (.int (nar .char ((i3 &&& (255 : Int32)).toUInt32.toUInt16.toUInt32.toInt32))), (.int c5), (.int c6)]) (.int (0 : Int32)) := Arv.set A435 q435 S435 M435 G435 J435 (fits_nar_char _) W435 4 rfl (Nat.le_of_ble_eq_true rfl)
        have hn : ∀ c ∈ ([c0, c1, c2, c3, (nar .char ((i3 &&& (255 : Int32)).toUInt32.toUInt16.toUInt32.toInt32)), c5, c6] : List Int32), ¬ c < 0 ∧ ¬ (255 : Int32) < c := by
          intro c hc; simp only [List.mem_cons, List.not_mem_nil, or_false] at hc; rcases hc with rfl | rfl | rfl | rfl | rfl | rfl | rfl
          · exact r0
          · exact r1
          · exact r2
          · exact r3
          · exact chars_lo i3
          · exact r5
          · exact r6
        exact P217 _ _ _ _ _ ar ka bs na c0 c1 c2 c3 (nar .char ((i3 &&& (255 : Int32)).toUInt32.toUInt16.toUInt32.toInt32)) c5 c6 (Stand_grow X435 (by decide) (by decide)) e435 N435 K436 O436 hS425 (Nat.le_trans hk425 (Keep.of_wr W435).1) hZ425 hown425 (RP425.trans R436) V435 (hn) HA
      · rw [hk426]
        show Go p e below _ T425 (mkF m 210 #[.val (.int i0), .val (.int i1), .val (.int i2), .val (.int i3), .val (.int i4), .val (.int i5), .val (.ref ar), .val (.int bs), .val (.int na), .unset, .unset, .unset, .unset] [(.int (5 : Int32)), (.ref ar)])
        refine Go.by (fun t k => XS.iloadN X425.here hx rfl (hb hby at_210) rfl (XS.sipush X425.here hx rfl (hb hby at_211) (XS.iand X425.here hx rfl (hb hby at_214) rfl (XS.i2c X425.here hx rfl (hb hby at_215) rfl k)))) ?_
        show Go p e below _ T425 (mkF m 216 #[.val (.int i0), .val (.int i1), .val (.int i2), .val (.int i3), .val (.int i4), .val (.int i5), .val (.ref ar), .val (.int bs), .val (.int na), .unset, .unset, .unset, .unset] [(.int ((i3 &&& (255 : Int32)).toUInt32.toUInt16.toUInt32.toInt32)), (.int (5 : Int32)), (.ref ar)])
        obtain ⟨c437, A437, q437, S437, M437, G437, J437⟩ := id VA
        obtain ⟨T437, h437, X437, e437, W437, st437⟩ := stC X425 hx hZ425 e425 A437 (j := (5 : Int32)) (inb_of S437 ⟨by decide, by decide⟩) (g := (mkF m 216 #[.val (.int i0), .val (.int i1), .val (.int i2), .val (.int i3), .val (.int i4), .val (.int i5), .val (.ref ar), .val (.int bs), .val (.int na), .unset, .unset, .unset, .unset] [(.int ((i3 &&& (255 : Int32)).toUInt32.toUInt16.toUInt32.toInt32)), (.int (5 : Int32)), (.ref ar)])) rfl rfl (hb hby at_216)
        refine Go.by st437 ?_
        have N437 := Fr.snoc X437 N425 (Nat.le_trans (Nat.le_trans Z0 (Nat.le_refl _)) HB)
        have R438 : CHr Z EL vm425 hP425 vm425 h437 := CHr.wr W437 (safe_arv hZ425.alike VA (by decide)) CRP425.1
        have CR438 := CRP425.trans R438
        have K438 : Keep h0 h437 [] := KP425.wr W437 (Or.inr (Nat.le_trans (Nat.le_refl _) HB))
        have O438 : Old Z n0 h437 := OP425.wr W437 (Nat.le_trans (Nat.le_trans Z0 (Nat.le_refl _)) HB)
        show Go p e below _ T437 (mkF m 217 #[.val (.int i0), .val (.int i1), .val (.int i2), .val (.int i3), .val (.int i4), .val (.int i5), .val (.ref ar), .val (.int bs), .val (.int na), .unset, .unset, .unset, .unset] [])
        have V437 : Arv Z h437 ar ka .char (7 : Int32) ([(.int c0), (.int c1), (.int c2), (.int c3), (.int c4), (.int (nar .char ((i3 &&& (255 : Int32)).toUInt32.toUInt16.toUInt32.toInt32))), (.int c6)]) (.int (0 : Int32)) := Arv.set A437 q437 S437 M437 G437 J437 (fits_nar_char _) W437 5 rfl (Nat.le_of_ble_eq_true rfl)
        have hn : ∀ c ∈ ([c0, c1, c2, c3, c4, (nar .char ((i3 &&& (255 : Int32)).toUInt32.toUInt16.toUInt32.toInt32)), c6] : List Int32), ¬ c < 0 ∧ ¬ (255 : Int32) < c := by
          intro c hc; simp only [List.mem_cons, List.not_mem_nil, or_false] at hc; rcases hc with rfl | rfl | rfl | rfl | rfl | rfl | rfl
          · exact r0
          · exact r1
          · exact r2
          · exact r3
          · exact r4
          · exact chars_lo i3
          · exact r6
        exact P217 _ _ _ _ _ ar ka bs na c0 c1 c2 c3 c4 (nar .char ((i3 &&& (255 : Int32)).toUInt32.toUInt16.toUInt32.toInt32)) c6 (Stand_grow X437 (by decide) (by decide)) e437 N437 K438 O438 hS425 (Nat.le_trans hk425 (Keep.of_wr W437).1) hZ425 hown425 (RP425.trans R438) V437 (hn) HA
      · rw [hk426]
        show Go p e below _ T425 (mkF m 210 #[.val (.int i0), .val (.int i1), .val (.int i2), .val (.int i3), .val (.int i4), .val (.int i5), .val (.ref ar), .val (.int bs), .val (.int na), .unset, .unset, .unset, .unset] [(.int (6 : Int32)), (.ref ar)])
        refine Go.by (fun t k => XS.iloadN X425.here hx rfl (hb hby at_210) rfl (XS.sipush X425.here hx rfl (hb hby at_211) (XS.iand X425.here hx rfl (hb hby at_214) rfl (XS.i2c X425.here hx rfl (hb hby at_215) rfl k)))) ?_
        show Go p e below _ T425 (mkF m 216 #[.val (.int i0), .val (.int i1), .val (.int i2), .val (.int i3), .val (.int i4), .val (.int i5), .val (.ref ar), .val (.int bs), .val (.int na), .unset, .unset, .unset, .unset] [(.int ((i3 &&& (255 : Int32)).toUInt32.toUInt16.toUInt32.toInt32)), (.int (6 : Int32)), (.ref ar)])
        obtain ⟨c439, A439, q439, S439, M439, G439, J439⟩ := id VA
        obtain ⟨T439, h439, X439, e439, W439, st439⟩ := stC X425 hx hZ425 e425 A439 (j := (6 : Int32)) (inb_of S439 ⟨by decide, by decide⟩) (g := (mkF m 216 #[.val (.int i0), .val (.int i1), .val (.int i2), .val (.int i3), .val (.int i4), .val (.int i5), .val (.ref ar), .val (.int bs), .val (.int na), .unset, .unset, .unset, .unset] [(.int ((i3 &&& (255 : Int32)).toUInt32.toUInt16.toUInt32.toInt32)), (.int (6 : Int32)), (.ref ar)])) rfl rfl (hb hby at_216)
        refine Go.by st439 ?_
        have N439 := Fr.snoc X439 N425 (Nat.le_trans (Nat.le_trans Z0 (Nat.le_refl _)) HB)
        have R440 : CHr Z EL vm425 hP425 vm425 h439 := CHr.wr W439 (safe_arv hZ425.alike VA (by decide)) CRP425.1
        have CR440 := CRP425.trans R440
        have K440 : Keep h0 h439 [] := KP425.wr W439 (Or.inr (Nat.le_trans (Nat.le_refl _) HB))
        have O440 : Old Z n0 h439 := OP425.wr W439 (Nat.le_trans (Nat.le_trans Z0 (Nat.le_refl _)) HB)
        show Go p e below _ T439 (mkF m 217 #[.val (.int i0), .val (.int i1), .val (.int i2), .val (.int i3), .val (.int i4), .val (.int i5), .val (.ref ar), .val (.int bs), .val (.int na), .unset, .unset, .unset, .unset] [])
        have V439 : Arv Z h439 ar ka .char (7 : Int32) ([(.int c0), (.int c1), (.int c2), (.int c3), (.int c4), (.int c5), (.int (nar .char ((i3 &&& (255 : Int32)).toUInt32.toUInt16.toUInt32.toInt32)))]) (.int (0 : Int32)) := Arv.set A439 q439 S439 M439 G439 J439 (fits_nar_char _) W439 6 rfl (Nat.le_of_ble_eq_true rfl)
        have hn : ∀ c ∈ ([c0, c1, c2, c3, c4, c5, (nar .char ((i3 &&& (255 : Int32)).toUInt32.toUInt16.toUInt32.toInt32))] : List Int32), ¬ c < 0 ∧ ¬ (255 : Int32) < c := by
          intro c hc; simp only [List.mem_cons, List.not_mem_nil, or_false] at hc; rcases hc with rfl | rfl | rfl | rfl | rfl | rfl | rfl
          · exact r0
          · exact r1
          · exact r2
          · exact r3
          · exact r4
          · exact r5
          · exact chars_lo i3
        exact P217 _ _ _ _ _ ar ka bs na c0 c1 c2 c3 c4 c5 (nar .char ((i3 &&& (255 : Int32)).toUInt32.toUInt16.toUInt32.toInt32)) (Stand_grow X439 (by decide) (by decide)) e439 N439 K440 O440 hS425 (Nat.le_trans hk425 (Keep.of_wr W439).1) hZ425 hown425 (RP425.trans R440) V439 (hn) HA
  refine Go.by (fun t k => XS.bipush X0.here hx rfl (hb hby at_0) k) ?_
  show Go p e below _ s₁ (mkF m 2 #[.val (.int i0), .val (.int i1), .val (.int i2), .val (.int i3), .val (.int i4), .val (.int i5), .unset, .unset, .unset, .unset, .unset, .unset, .unset] [(.int (7 : Int32))])
  obtain ⟨T441, h441, k441, X441, e441, E441, A441, st441⟩ := newP X0 hx hZ (aty := .char) (ow0 hw) e0 (g := (mkF m 2 #[.val (.int i0), .val (.int i1), .val (.int i2), .val (.int i3), .val (.int i4), .val (.int i5), .unset, .unset, .unset, .unset, .unset, .unset, .unset] [(.int (7 : Int32))])) rfl (hb hby at_2) rfl (by decide) (cap := 7) (by decide) (by decide) (by decide) (by decide)
  obtain ⟨b441, g441⟩ : ∃ z, z = h0.size := ⟨_, rfl⟩
  rw [← g441] at A441 st441
  refine Go.by st441 ?_
  have R442 : CHr Z EL s.vm h0 s.vm h441 := CHr.ext E441 CR0.1
  have CR442 := CR0.trans R442
  have K442 : Keep h0 h441 [] := K0.ext E441
  have O442 : Old Z n0 h441 := X00.ext E441
  show Go p e below _ T441 (mkF m 4 #[.val (.int i0), .val (.int i1), .val (.int i2), .val (.int i3), .val (.int i4), .val (.int i5), .unset, .unset, .unset, .unset, .unset, .unset, .unset] [(.ref b441)])
  have Sf443 : Safe Z EL s.vm h441 b441 := Safe.ext E441 CR0.1 (Safe.new (Nat.le_of_eq g441.symm))
  have V441 : Arv Z h441 b441 k441 .char (7 : Int32) [(.int (0 : Int32)), (.int (0 : Int32)), (.int (0 : Int32)), (.int (0 : Int32)), (.int (0 : Int32)), (.int (0 : Int32)), (.int (0 : Int32))] (.int (0 : Int32)) := (Arv.new A441 (by decide)).pad (pad_rep [] (.int (0 : Int32)) 7)
  refine Go.by (fun t k => XS.astore X441.here hx rfl (hb hby at_4) rfl rfl (l' := #[.val (.int i0), .val (.int i1), .val (.int i2), .val (.int i3), .val (.int i4), .val (.int i5), .val (.ref b441), .unset, .unset, .unset, .unset, .unset, .unset]) rfl (XS.aload X441.here hx rfl (hb hby at_6) rfl rfl (XS.iconst X441.here hx rfl (hb hby at_8) (XS.iload X441.here hx rfl (hb hby at_9) rfl k)))) ?_
  show Go p e below _ T441 (mkF m 11 #[.val (.int i0), .val (.int i1), .val (.int i2), .val (.int i3), .val (.int i4), .val (.int i5), .val (.ref b441), .unset, .unset, .unset, .unset, .unset, .unset] [(.int i4), (.int (0 : Int32)), (.ref b441)])
  refine Go.by (fun t k => XS.sipush X441.here hx rfl (hb hby at_11) (XS.iand X441.here hx rfl (hb hby at_14) rfl (XS.i2c X441.here hx rfl (hb hby at_15) rfl k))) ?_
  show Go p e below _ T441 (mkF m 16 #[.val (.int i0), .val (.int i1), .val (.int i2), .val (.int i3), .val (.int i4), .val (.int i5), .val (.ref b441), .unset, .unset, .unset, .unset, .unset, .unset] [(.int ((i4 &&& (255 : Int32)).toUInt32.toUInt16.toUInt32.toInt32)), (.int (0 : Int32)), (.ref b441)])
  obtain ⟨c444, A444, q444, S444, M444, G444, J444⟩ := id V441
  obtain ⟨T444, h444, X444, e444, W444, st444⟩ := stC X441 hx hZ e441 A444 (j := (0 : Int32)) (inb_of S444 ⟨by decide, by decide⟩) (g := (mkF m 16 #[.val (.int i0), .val (.int i1), .val (.int i2), .val (.int i3), .val (.int i4), .val (.int i5), .val (.ref b441), .unset, .unset, .unset, .unset, .unset, .unset] [(.int ((i4 &&& (255 : Int32)).toUInt32.toUInt16.toUInt32.toInt32)), (.int (0 : Int32)), (.ref b441)])) rfl rfl (hb hby at_16)
  refine Go.by st444 ?_
  have N444 := Fr.snoc X444 N0 (Nat.le_trans (Nat.le_trans Z0 (Nat.le_refl _)) (Nat.le_of_eq g441.symm))
  have R445 : CHr Z EL s.vm h441 s.vm h444 := CHr.wr W444 (safe_arv hZ.alike V441 (by decide)) CR442.1
  have CR445 := CR442.trans R445
  have K445 : Keep h0 h444 [] := K442.wr W444 (Or.inr (Nat.le_trans (Nat.le_refl _) (Nat.le_of_eq g441.symm)))
  have O445 : Old Z n0 h444 := O442.wr W444 (Nat.le_trans (Nat.le_trans Z0 (Nat.le_refl _)) (Nat.le_of_eq g441.symm))
  show Go p e below _ T444 (mkF m 17 #[.val (.int i0), .val (.int i1), .val (.int i2), .val (.int i3), .val (.int i4), .val (.int i5), .val (.ref b441), .unset, .unset, .unset, .unset, .unset, .unset] [])
  have V444 : Arv Z h444 b441 k441 .char (7 : Int32) ([(.int (nar .char ((i4 &&& (255 : Int32)).toUInt32.toUInt16.toUInt32.toInt32))), (.int (0 : Int32)), (.int (0 : Int32)), (.int (0 : Int32)), (.int (0 : Int32)), (.int (0 : Int32)), (.int (0 : Int32))]) (.int (0 : Int32)) := Arv.set A444 q444 S444 M444 G444 J444 (fits_nar_char _) W444 0 rfl (Nat.le_of_ble_eq_true rfl)
  refine Go.by (fun t k => XS.aload X444.here hx rfl (hb hby at_17) rfl rfl (XS.iconst X444.here hx rfl (hb hby at_19) (XS.iload X444.here hx rfl (hb hby at_20) rfl (XS.bipush X444.here hx rfl (hb hby at_22) k)))) ?_
  show Go p e below _ T444 (mkF m 24 #[.val (.int i0), .val (.int i1), .val (.int i2), .val (.int i3), .val (.int i4), .val (.int i5), .val (.ref b441), .unset, .unset, .unset, .unset, .unset, .unset] [(.int (8 : Int32)), (.int i4), (.int (1 : Int32)), (.ref b441)])
  refine Go.by (fun t k => XS.iushr X444.here hx rfl (hb hby at_24) rfl (XS.sipush X444.here hx rfl (hb hby at_25) (XS.iand X444.here hx rfl (hb hby at_28) rfl (XS.i2c X444.here hx rfl (hb hby at_29) rfl k)))) ?_
  show Go p e below _ T444 (mkF m 30 #[.val (.int i0), .val (.int i1), .val (.int i2), .val (.int i3), .val (.int i4), .val (.int i5), .val (.ref b441), .unset, .unset, .unset, .unset, .unset, .unset] [(.int ((((i4.toUInt32 >>> ((8 : Int32) &&& 31).toUInt32).toInt32) &&& (255 : Int32)).toUInt32.toUInt16.toUInt32.toInt32)), (.int (1 : Int32)), (.ref b441)])
  obtain ⟨c446, A446, q446, S446, M446, G446, J446⟩ := id V444
  obtain ⟨T446, h446, X446, e446, W446, st446⟩ := stC X444 hx hZ e444 A446 (j := (1 : Int32)) (inb_of S446 ⟨by decide, by decide⟩) (g := (mkF m 30 #[.val (.int i0), .val (.int i1), .val (.int i2), .val (.int i3), .val (.int i4), .val (.int i5), .val (.ref b441), .unset, .unset, .unset, .unset, .unset, .unset] [(.int ((((i4.toUInt32 >>> ((8 : Int32) &&& 31).toUInt32).toInt32) &&& (255 : Int32)).toUInt32.toUInt16.toUInt32.toInt32)), (.int (1 : Int32)), (.ref b441)])) rfl rfl (hb hby at_30)
  refine Go.by st446 ?_
  have N446 := Fr.snoc X446 N444 (Nat.le_trans (Nat.le_trans Z0 (Nat.le_refl _)) (Nat.le_of_eq g441.symm))
  have R447 : CHr Z EL s.vm h444 s.vm h446 := CHr.wr W446 (safe_arv hZ.alike V444 (by decide)) CR445.1
  have CR447 := CR445.trans R447
  have K447 : Keep h0 h446 [] := K445.wr W446 (Or.inr (Nat.le_trans (Nat.le_refl _) (Nat.le_of_eq g441.symm)))
  have O447 : Old Z n0 h446 := O445.wr W446 (Nat.le_trans (Nat.le_trans Z0 (Nat.le_refl _)) (Nat.le_of_eq g441.symm))
  show Go p e below _ T446 (mkF m 31 #[.val (.int i0), .val (.int i1), .val (.int i2), .val (.int i3), .val (.int i4), .val (.int i5), .val (.ref b441), .unset, .unset, .unset, .unset, .unset, .unset] [])
  have V446 : Arv Z h446 b441 k441 .char (7 : Int32) ([(.int (nar .char ((i4 &&& (255 : Int32)).toUInt32.toUInt16.toUInt32.toInt32))), (.int (nar .char ((((i4.toUInt32 >>> ((8 : Int32) &&& 31).toUInt32).toInt32) &&& (255 : Int32)).toUInt32.toUInt16.toUInt32.toInt32))), (.int (0 : Int32)), (.int (0 : Int32)), (.int (0 : Int32)), (.int (0 : Int32)), (.int (0 : Int32))]) (.int (0 : Int32)) := Arv.set A446 q446 S446 M446 G446 J446 (fits_nar_char _) W446 1 rfl (Nat.le_of_ble_eq_true rfl)
  refine Go.by (fun t k => XS.aload X446.here hx rfl (hb hby at_31) rfl rfl (XS.iconst X446.here hx rfl (hb hby at_33) (XS.iload X446.here hx rfl (hb hby at_34) rfl (XS.bipush X446.here hx rfl (hb hby at_36) k)))) ?_
  show Go p e below _ T446 (mkF m 38 #[.val (.int i0), .val (.int i1), .val (.int i2), .val (.int i3), .val (.int i4), .val (.int i5), .val (.ref b441), .unset, .unset, .unset, .unset, .unset, .unset] [(.int (16 : Int32)), (.int i4), (.int (2 : Int32)), (.ref b441)])
  refine Go.by (fun t k => XS.iushr X446.here hx rfl (hb hby at_38) rfl (XS.sipush X446.here hx rfl (hb hby at_39) (XS.iand X446.here hx rfl (hb hby at_42) rfl (XS.i2c X446.here hx rfl (hb hby at_43) rfl k)))) ?_
  show Go p e below _ T446 (mkF m 44 #[.val (.int i0), .val (.int i1), .val (.int i2), .val (.int i3), .val (.int i4), .val (.int i5), .val (.ref b441), .unset, .unset, .unset, .unset, .unset, .unset] [(.int ((((i4.toUInt32 >>> ((16 : Int32) &&& 31).toUInt32).toInt32) &&& (255 : Int32)).toUInt32.toUInt16.toUInt32.toInt32)), (.int (2 : Int32)), (.ref b441)])
  obtain ⟨c448, A448, q448, S448, M448, G448, J448⟩ := id V446
  obtain ⟨T448, h448, X448, e448, W448, st448⟩ := stC X446 hx hZ e446 A448 (j := (2 : Int32)) (inb_of S448 ⟨by decide, by decide⟩) (g := (mkF m 44 #[.val (.int i0), .val (.int i1), .val (.int i2), .val (.int i3), .val (.int i4), .val (.int i5), .val (.ref b441), .unset, .unset, .unset, .unset, .unset, .unset] [(.int ((((i4.toUInt32 >>> ((16 : Int32) &&& 31).toUInt32).toInt32) &&& (255 : Int32)).toUInt32.toUInt16.toUInt32.toInt32)), (.int (2 : Int32)), (.ref b441)])) rfl rfl (hb hby at_44)
  refine Go.by st448 ?_
  have N448 := Fr.snoc X448 N446 (Nat.le_trans (Nat.le_trans Z0 (Nat.le_refl _)) (Nat.le_of_eq g441.symm))
  have R449 : CHr Z EL s.vm h446 s.vm h448 := CHr.wr W448 (safe_arv hZ.alike V446 (by decide)) CR447.1
  have CR449 := CR447.trans R449
  have K449 : Keep h0 h448 [] := K447.wr W448 (Or.inr (Nat.le_trans (Nat.le_refl _) (Nat.le_of_eq g441.symm)))
  have O449 : Old Z n0 h448 := O447.wr W448 (Nat.le_trans (Nat.le_trans Z0 (Nat.le_refl _)) (Nat.le_of_eq g441.symm))
  show Go p e below _ T448 (mkF m 45 #[.val (.int i0), .val (.int i1), .val (.int i2), .val (.int i3), .val (.int i4), .val (.int i5), .val (.ref b441), .unset, .unset, .unset, .unset, .unset, .unset] [])
  have V448 : Arv Z h448 b441 k441 .char (7 : Int32) ([(.int (nar .char ((i4 &&& (255 : Int32)).toUInt32.toUInt16.toUInt32.toInt32))), (.int (nar .char ((((i4.toUInt32 >>> ((8 : Int32) &&& 31).toUInt32).toInt32) &&& (255 : Int32)).toUInt32.toUInt16.toUInt32.toInt32))), (.int (nar .char ((((i4.toUInt32 >>> ((16 : Int32) &&& 31).toUInt32).toInt32) &&& (255 : Int32)).toUInt32.toUInt16.toUInt32.toInt32))), (.int (0 : Int32)), (.int (0 : Int32)), (.int (0 : Int32)), (.int (0 : Int32))]) (.int (0 : Int32)) := Arv.set A448 q448 S448 M448 G448 J448 (fits_nar_char _) W448 2 rfl (Nat.le_of_ble_eq_true rfl)
  refine Go.by (fun t k => XS.aload X448.here hx rfl (hb hby at_45) rfl rfl (XS.iconst X448.here hx rfl (hb hby at_47) (XS.iload X448.here hx rfl (hb hby at_48) rfl (XS.bipush X448.here hx rfl (hb hby at_50) k)))) ?_
  show Go p e below _ T448 (mkF m 52 #[.val (.int i0), .val (.int i1), .val (.int i2), .val (.int i3), .val (.int i4), .val (.int i5), .val (.ref b441), .unset, .unset, .unset, .unset, .unset, .unset] [(.int (24 : Int32)), (.int i4), (.int (3 : Int32)), (.ref b441)])
  refine Go.by (fun t k => XS.iushr X448.here hx rfl (hb hby at_52) rfl (XS.sipush X448.here hx rfl (hb hby at_53) (XS.iand X448.here hx rfl (hb hby at_56) rfl (XS.i2c X448.here hx rfl (hb hby at_57) rfl k)))) ?_
  show Go p e below _ T448 (mkF m 58 #[.val (.int i0), .val (.int i1), .val (.int i2), .val (.int i3), .val (.int i4), .val (.int i5), .val (.ref b441), .unset, .unset, .unset, .unset, .unset, .unset] [(.int ((((i4.toUInt32 >>> ((24 : Int32) &&& 31).toUInt32).toInt32) &&& (255 : Int32)).toUInt32.toUInt16.toUInt32.toInt32)), (.int (3 : Int32)), (.ref b441)])
  obtain ⟨c450, A450, q450, S450, M450, G450, J450⟩ := id V448
  obtain ⟨T450, h450, X450, e450, W450, st450⟩ := stC X448 hx hZ e448 A450 (j := (3 : Int32)) (inb_of S450 ⟨by decide, by decide⟩) (g := (mkF m 58 #[.val (.int i0), .val (.int i1), .val (.int i2), .val (.int i3), .val (.int i4), .val (.int i5), .val (.ref b441), .unset, .unset, .unset, .unset, .unset, .unset] [(.int ((((i4.toUInt32 >>> ((24 : Int32) &&& 31).toUInt32).toInt32) &&& (255 : Int32)).toUInt32.toUInt16.toUInt32.toInt32)), (.int (3 : Int32)), (.ref b441)])) rfl rfl (hb hby at_58)
  refine Go.by st450 ?_
  have N450 := Fr.snoc X450 N448 (Nat.le_trans (Nat.le_trans Z0 (Nat.le_refl _)) (Nat.le_of_eq g441.symm))
  have R451 : CHr Z EL s.vm h448 s.vm h450 := CHr.wr W450 (safe_arv hZ.alike V448 (by decide)) CR449.1
  have CR451 := CR449.trans R451
  have K451 : Keep h0 h450 [] := K449.wr W450 (Or.inr (Nat.le_trans (Nat.le_refl _) (Nat.le_of_eq g441.symm)))
  have O451 : Old Z n0 h450 := O449.wr W450 (Nat.le_trans (Nat.le_trans Z0 (Nat.le_refl _)) (Nat.le_of_eq g441.symm))
  show Go p e below _ T450 (mkF m 59 #[.val (.int i0), .val (.int i1), .val (.int i2), .val (.int i3), .val (.int i4), .val (.int i5), .val (.ref b441), .unset, .unset, .unset, .unset, .unset, .unset] [])
  have V450 : Arv Z h450 b441 k441 .char (7 : Int32) ([(.int (nar .char ((i4 &&& (255 : Int32)).toUInt32.toUInt16.toUInt32.toInt32))), (.int (nar .char ((((i4.toUInt32 >>> ((8 : Int32) &&& 31).toUInt32).toInt32) &&& (255 : Int32)).toUInt32.toUInt16.toUInt32.toInt32))), (.int (nar .char ((((i4.toUInt32 >>> ((16 : Int32) &&& 31).toUInt32).toInt32) &&& (255 : Int32)).toUInt32.toUInt16.toUInt32.toInt32))), (.int (nar .char ((((i4.toUInt32 >>> ((24 : Int32) &&& 31).toUInt32).toInt32) &&& (255 : Int32)).toUInt32.toUInt16.toUInt32.toInt32))), (.int (0 : Int32)), (.int (0 : Int32)), (.int (0 : Int32))]) (.int (0 : Int32)) := Arv.set A450 q450 S450 M450 G450 J450 (fits_nar_char _) W450 3 rfl (Nat.le_of_ble_eq_true rfl)
  refine Go.by (fun t k => XS.aload X450.here hx rfl (hb hby at_59) rfl rfl (XS.iconst X450.here hx rfl (hb hby at_61) (XS.iload X450.here hx rfl (hb hby at_62) rfl (XS.sipush X450.here hx rfl (hb hby at_64) k)))) ?_
  show Go p e below _ T450 (mkF m 67 #[.val (.int i0), .val (.int i1), .val (.int i2), .val (.int i3), .val (.int i4), .val (.int i5), .val (.ref b441), .unset, .unset, .unset, .unset, .unset, .unset] [(.int (255 : Int32)), (.int i5), (.int (4 : Int32)), (.ref b441)])
  refine Go.by (fun t k => XS.iand X450.here hx rfl (hb hby at_67) rfl (XS.i2c X450.here hx rfl (hb hby at_68) rfl k)) ?_
  show Go p e below _ T450 (mkF m 69 #[.val (.int i0), .val (.int i1), .val (.int i2), .val (.int i3), .val (.int i4), .val (.int i5), .val (.ref b441), .unset, .unset, .unset, .unset, .unset, .unset] [(.int ((i5 &&& (255 : Int32)).toUInt32.toUInt16.toUInt32.toInt32)), (.int (4 : Int32)), (.ref b441)])
  obtain ⟨c452, A452, q452, S452, M452, G452, J452⟩ := id V450
  obtain ⟨T452, h452, X452, e452, W452, st452⟩ := stC X450 hx hZ e450 A452 (j := (4 : Int32)) (inb_of S452 ⟨by decide, by decide⟩) (g := (mkF m 69 #[.val (.int i0), .val (.int i1), .val (.int i2), .val (.int i3), .val (.int i4), .val (.int i5), .val (.ref b441), .unset, .unset, .unset, .unset, .unset, .unset] [(.int ((i5 &&& (255 : Int32)).toUInt32.toUInt16.toUInt32.toInt32)), (.int (4 : Int32)), (.ref b441)])) rfl rfl (hb hby at_69)
  refine Go.by st452 ?_
  have N452 := Fr.snoc X452 N450 (Nat.le_trans (Nat.le_trans Z0 (Nat.le_refl _)) (Nat.le_of_eq g441.symm))
  have R453 : CHr Z EL s.vm h450 s.vm h452 := CHr.wr W452 (safe_arv hZ.alike V450 (by decide)) CR451.1
  have CR453 := CR451.trans R453
  have K453 : Keep h0 h452 [] := K451.wr W452 (Or.inr (Nat.le_trans (Nat.le_refl _) (Nat.le_of_eq g441.symm)))
  have O453 : Old Z n0 h452 := O451.wr W452 (Nat.le_trans (Nat.le_trans Z0 (Nat.le_refl _)) (Nat.le_of_eq g441.symm))
  show Go p e below _ T452 (mkF m 70 #[.val (.int i0), .val (.int i1), .val (.int i2), .val (.int i3), .val (.int i4), .val (.int i5), .val (.ref b441), .unset, .unset, .unset, .unset, .unset, .unset] [])
  have V452 : Arv Z h452 b441 k441 .char (7 : Int32) ([(.int (nar .char ((i4 &&& (255 : Int32)).toUInt32.toUInt16.toUInt32.toInt32))), (.int (nar .char ((((i4.toUInt32 >>> ((8 : Int32) &&& 31).toUInt32).toInt32) &&& (255 : Int32)).toUInt32.toUInt16.toUInt32.toInt32))), (.int (nar .char ((((i4.toUInt32 >>> ((16 : Int32) &&& 31).toUInt32).toInt32) &&& (255 : Int32)).toUInt32.toUInt16.toUInt32.toInt32))), (.int (nar .char ((((i4.toUInt32 >>> ((24 : Int32) &&& 31).toUInt32).toInt32) &&& (255 : Int32)).toUInt32.toUInt16.toUInt32.toInt32))), (.int (nar .char ((i5 &&& (255 : Int32)).toUInt32.toUInt16.toUInt32.toInt32))), (.int (0 : Int32)), (.int (0 : Int32))]) (.int (0 : Int32)) := Arv.set A452 q452 S452 M452 G452 J452 (fits_nar_char _) W452 4 rfl (Nat.le_of_ble_eq_true rfl)
  refine Go.by (fun t k => XS.aload X452.here hx rfl (hb hby at_70) rfl rfl (XS.iconst X452.here hx rfl (hb hby at_72) (XS.iload X452.here hx rfl (hb hby at_73) rfl (XS.bipush X452.here hx rfl (hb hby at_75) k)))) ?_
  show Go p e below _ T452 (mkF m 77 #[.val (.int i0), .val (.int i1), .val (.int i2), .val (.int i3), .val (.int i4), .val (.int i5), .val (.ref b441), .unset, .unset, .unset, .unset, .unset, .unset] [(.int (8 : Int32)), (.int i5), (.int (5 : Int32)), (.ref b441)])
  refine Go.by (fun t k => XS.iushr X452.here hx rfl (hb hby at_77) rfl (XS.sipush X452.here hx rfl (hb hby at_78) (XS.iand X452.here hx rfl (hb hby at_81) rfl (XS.i2c X452.here hx rfl (hb hby at_82) rfl k)))) ?_
  show Go p e below _ T452 (mkF m 83 #[.val (.int i0), .val (.int i1), .val (.int i2), .val (.int i3), .val (.int i4), .val (.int i5), .val (.ref b441), .unset, .unset, .unset, .unset, .unset, .unset] [(.int ((((i5.toUInt32 >>> ((8 : Int32) &&& 31).toUInt32).toInt32) &&& (255 : Int32)).toUInt32.toUInt16.toUInt32.toInt32)), (.int (5 : Int32)), (.ref b441)])
  obtain ⟨c454, A454, q454, S454, M454, G454, J454⟩ := id V452
  obtain ⟨T454, h454, X454, e454, W454, st454⟩ := stC X452 hx hZ e452 A454 (j := (5 : Int32)) (inb_of S454 ⟨by decide, by decide⟩) (g := (mkF m 83 #[.val (.int i0), .val (.int i1), .val (.int i2), .val (.int i3), .val (.int i4), .val (.int i5), .val (.ref b441), .unset, .unset, .unset, .unset, .unset, .unset] [(.int ((((i5.toUInt32 >>> ((8 : Int32) &&& 31).toUInt32).toInt32) &&& (255 : Int32)).toUInt32.toUInt16.toUInt32.toInt32)), (.int (5 : Int32)), (.ref b441)])) rfl rfl (hb hby at_83)
  refine Go.by st454 ?_
  have N454 := Fr.snoc X454 N452 (Nat.le_trans (Nat.le_trans Z0 (Nat.le_refl _)) (Nat.le_of_eq g441.symm))
  have R455 : CHr Z EL s.vm h452 s.vm h454 := CHr.wr W454 (safe_arv hZ.alike V452 (by decide)) CR453.1
  have CR455 := CR453.trans R455
  have K455 : Keep h0 h454 [] := K453.wr W454 (Or.inr (Nat.le_trans (Nat.le_refl _) (Nat.le_of_eq g441.symm)))
  have O455 : Old Z n0 h454 := O453.wr W454 (Nat.le_trans (Nat.le_trans Z0 (Nat.le_refl _)) (Nat.le_of_eq g441.symm))
  show Go p e below _ T454 (mkF m 84 #[.val (.int i0), .val (.int i1), .val (.int i2), .val (.int i3), .val (.int i4), .val (.int i5), .val (.ref b441), .unset, .unset, .unset, .unset, .unset, .unset] [])
  have V454 : Arv Z h454 b441 k441 .char (7 : Int32) ([(.int (nar .char ((i4 &&& (255 : Int32)).toUInt32.toUInt16.toUInt32.toInt32))), (.int (nar .char ((((i4.toUInt32 >>> ((8 : Int32) &&& 31).toUInt32).toInt32) &&& (255 : Int32)).toUInt32.toUInt16.toUInt32.toInt32))), (.int (nar .char ((((i4.toUInt32 >>> ((16 : Int32) &&& 31).toUInt32).toInt32) &&& (255 : Int32)).toUInt32.toUInt16.toUInt32.toInt32))), (.int (nar .char ((((i4.toUInt32 >>> ((24 : Int32) &&& 31).toUInt32).toInt32) &&& (255 : Int32)).toUInt32.toUInt16.toUInt32.toInt32))), (.int (nar .char ((i5 &&& (255 : Int32)).toUInt32.toUInt16.toUInt32.toInt32))), (.int (nar .char ((((i5.toUInt32 >>> ((8 : Int32) &&& 31).toUInt32).toInt32) &&& (255 : Int32)).toUInt32.toUInt16.toUInt32.toInt32))), (.int (0 : Int32))]) (.int (0 : Int32)) := Arv.set A454 q454 S454 M454 G454 J454 (fits_nar_char _) W454 5 rfl (Nat.le_of_ble_eq_true rfl)
  refine Go.by (fun t k => XS.aload X454.here hx rfl (hb hby at_84) rfl rfl (XS.bipush X454.here hx rfl (hb hby at_86) (XS.iload X454.here hx rfl (hb hby at_88) rfl (XS.bipush X454.here hx rfl (hb hby at_90) k)))) ?_
  show Go p e below _ T454 (mkF m 92 #[.val (.int i0), .val (.int i1), .val (.int i2), .val (.int i3), .val (.int i4), .val (.int i5), .val (.ref b441), .unset, .unset, .unset, .unset, .unset, .unset] [(.int (16 : Int32)), (.int i5), (.int (6 : Int32)), (.ref b441)])
  refine Go.by (fun t k => XS.iushr X454.here hx rfl (hb hby at_92) rfl (XS.sipush X454.here hx rfl (hb hby at_93) (XS.iand X454.here hx rfl (hb hby at_96) rfl (XS.i2c X454.here hx rfl (hb hby at_97) rfl k)))) ?_
  show Go p e below _ T454 (mkF m 98 #[.val (.int i0), .val (.int i1), .val (.int i2), .val (.int i3), .val (.int i4), .val (.int i5), .val (.ref b441), .unset, .unset, .unset, .unset, .unset, .unset] [(.int ((((i5.toUInt32 >>> ((16 : Int32) &&& 31).toUInt32).toInt32) &&& (255 : Int32)).toUInt32.toUInt16.toUInt32.toInt32)), (.int (6 : Int32)), (.ref b441)])
  obtain ⟨c456, A456, q456, S456, M456, G456, J456⟩ := id V454
  obtain ⟨T456, h456, X456, e456, W456, st456⟩ := stC X454 hx hZ e454 A456 (j := (6 : Int32)) (inb_of S456 ⟨by decide, by decide⟩) (g := (mkF m 98 #[.val (.int i0), .val (.int i1), .val (.int i2), .val (.int i3), .val (.int i4), .val (.int i5), .val (.ref b441), .unset, .unset, .unset, .unset, .unset, .unset] [(.int ((((i5.toUInt32 >>> ((16 : Int32) &&& 31).toUInt32).toInt32) &&& (255 : Int32)).toUInt32.toUInt16.toUInt32.toInt32)), (.int (6 : Int32)), (.ref b441)])) rfl rfl (hb hby at_98)
  refine Go.by st456 ?_
  have N456 := Fr.snoc X456 N454 (Nat.le_trans (Nat.le_trans Z0 (Nat.le_refl _)) (Nat.le_of_eq g441.symm))
  have R457 : CHr Z EL s.vm h454 s.vm h456 := CHr.wr W456 (safe_arv hZ.alike V454 (by decide)) CR455.1
  have CR457 := CR455.trans R457
  have K457 : Keep h0 h456 [] := K455.wr W456 (Or.inr (Nat.le_trans (Nat.le_refl _) (Nat.le_of_eq g441.symm)))
  have O457 : Old Z n0 h456 := O455.wr W456 (Nat.le_trans (Nat.le_trans Z0 (Nat.le_refl _)) (Nat.le_of_eq g441.symm))
  show Go p e below _ T456 (mkF m 99 #[.val (.int i0), .val (.int i1), .val (.int i2), .val (.int i3), .val (.int i4), .val (.int i5), .val (.ref b441), .unset, .unset, .unset, .unset, .unset, .unset] [])
  have V456 : Arv Z h456 b441 k441 .char (7 : Int32) ([(.int (nar .char ((i4 &&& (255 : Int32)).toUInt32.toUInt16.toUInt32.toInt32))), (.int (nar .char ((((i4.toUInt32 >>> ((8 : Int32) &&& 31).toUInt32).toInt32) &&& (255 : Int32)).toUInt32.toUInt16.toUInt32.toInt32))), (.int (nar .char ((((i4.toUInt32 >>> ((16 : Int32) &&& 31).toUInt32).toInt32) &&& (255 : Int32)).toUInt32.toUInt16.toUInt32.toInt32))), (.int (nar .char ((((i4.toUInt32 >>> ((24 : Int32) &&& 31).toUInt32).toInt32) &&& (255 : Int32)).toUInt32.toUInt16.toUInt32.toInt32))), (.int (nar .char ((i5 &&& (255 : Int32)).toUInt32.toUInt16.toUInt32.toInt32))), (.int (nar .char ((((i5.toUInt32 >>> ((8 : Int32) &&& 31).toUInt32).toInt32) &&& (255 : Int32)).toUInt32.toUInt16.toUInt32.toInt32))), (.int (nar .char ((((i5.toUInt32 >>> ((16 : Int32) &&& 31).toUInt32).toInt32) &&& (255 : Int32)).toUInt32.toUInt16.toUInt32.toInt32)))]) (.int (0 : Int32)) := Arv.set A456 q456 S456 M456 G456 J456 (fits_nar_char _) W456 6 rfl (Nat.le_of_ble_eq_true rfl)
  refine Go.by (fun t k => XS.iloadN X456.here hx rfl (hb hby at_99) rfl (XS.iconst X456.here hx rfl (hb hby at_100) (XS.iand X456.here hx rfl (hb hby at_101) rfl (XS.istore X456.here hx rfl (hb hby at_102) rfl (l' := #[.val (.int i0), .val (.int i1), .val (.int i2), .val (.int i3), .val (.int i4), .val (.int i5), .val (.ref b441), .val (.int (i0 &&& (3 : Int32))), .unset, .unset, .unset, .unset, .unset]) rfl k)))) ?_
  show Go p e below _ T456 (mkF m 104 #[.val (.int i0), .val (.int i1), .val (.int i2), .val (.int i3), .val (.int i4), .val (.int i5), .val (.ref b441), .val (.int (i0 &&& (3 : Int32))), .unset, .unset, .unset, .unset, .unset] [])
  refine Go.by (fun t k => XS.bipush X456.here hx rfl (hb hby at_104) (XS.istore X456.here hx rfl (hb hby at_106) rfl (l' := #[.val (.int i0), .val (.int i1), .val (.int i2), .val (.int i3), .val (.int i4), .val (.int i5), .val (.ref b441), .val (.int (i0 &&& (3 : Int32))), .val (.int (7 : Int32)), .unset, .unset, .unset, .unset]) rfl (XS.iload X456.here hx rfl (hb hby at_108) rfl k))) ?_
  show Go p e below _ T456 (mkF m 110 #[.val (.int i0), .val (.int i1), .val (.int i2), .val (.int i3), .val (.int i4), .val (.int i5), .val (.ref b441), .val (.int (i0 &&& (3 : Int32))), .val (.int (7 : Int32)), .unset, .unset, .unset, .unset] [(.int (i0 &&& (3 : Int32)))])
  by_cases h0_ : (i0 &&& (3 : Int32)) = (0 : Int32)
  · refine Go.by (fun t k => XS.ifNo X456.here hx rfl (hb hby at_110) rfl ((if0 _ _).trans (teq (show (i0 &&& (3 : Int32)) = (0 : Int32) from h0_)).2) k) ?_
    show Go p e below _ T456 (mkF m 113 #[.val (.int i0), .val (.int i1), .val (.int i2), .val (.int i3), .val (.int i4), .val (.int i5), .val (.ref b441), .val (.int (i0 &&& (3 : Int32))), .val (.int (7 : Int32)), .unset, .unset, .unset, .unset] [])
    refine Go.by (fun t k => XS.aload X456.here hx rfl (hb hby at_113) rfl rfl (XS.iconst X456.here hx rfl (hb hby at_115) (XS.bipush X456.here hx rfl (hb hby at_116) k))) ?_
    show Go p e below _ T456 (mkF m 118 #[.val (.int i0), .val (.int i1), .val (.int i2), .val (.int i3), .val (.int i4), .val (.int i5), .val (.ref b441), .val (.int (i0 &&& (3 : Int32))), .val (.int (7 : Int32)), .unset, .unset, .unset, .unset] [(.int (112 : Int32)), (.int (0 : Int32)), (.ref b441)])
    obtain ⟨c458, A458, q458, S458, M458, G458, J458⟩ := id V456
    obtain ⟨T458, h458, X458, e458, W458, st458⟩ := stC X456 hx hZ e456 A458 (j := (0 : Int32)) (inb_of S458 ⟨by decide, by decide⟩) (g := (mkF m 118 #[.val (.int i0), .val (.int i1), .val (.int i2), .val (.int i3), .val (.int i4), .val (.int i5), .val (.ref b441), .val (.int (i0 &&& (3 : Int32))), .val (.int (7 : Int32)), .unset, .unset, .unset, .unset] [(.int (112 : Int32)), (.int (0 : Int32)), (.ref b441)])) rfl rfl (hb hby at_118)
    refine Go.by st458 ?_
    have N458 := Fr.snoc X458 N456 (Nat.le_trans (Nat.le_trans Z0 (Nat.le_refl _)) (Nat.le_of_eq g441.symm))
    have R459 : CHr Z EL s.vm h456 s.vm h458 := CHr.wr W458 (safe_arv hZ.alike V456 (by decide)) CR457.1
    have CR459 := CR457.trans R459
    have K459 : Keep h0 h458 [] := K457.wr W458 (Or.inr (Nat.le_trans (Nat.le_refl _) (Nat.le_of_eq g441.symm)))
    have O459 : Old Z n0 h458 := O457.wr W458 (Nat.le_trans (Nat.le_trans Z0 (Nat.le_refl _)) (Nat.le_of_eq g441.symm))
    show Go p e below _ T458 (mkF m 119 #[.val (.int i0), .val (.int i1), .val (.int i2), .val (.int i3), .val (.int i4), .val (.int i5), .val (.ref b441), .val (.int (i0 &&& (3 : Int32))), .val (.int (7 : Int32)), .unset, .unset, .unset, .unset] [])
    have V458 : Arv Z h458 b441 k441 .char (7 : Int32) ([(.int (nar .char (112 : Int32))), (.int (nar .char ((((i4.toUInt32 >>> ((8 : Int32) &&& 31).toUInt32).toInt32) &&& (255 : Int32)).toUInt32.toUInt16.toUInt32.toInt32))), (.int (nar .char ((((i4.toUInt32 >>> ((16 : Int32) &&& 31).toUInt32).toInt32) &&& (255 : Int32)).toUInt32.toUInt16.toUInt32.toInt32))), (.int (nar .char ((((i4.toUInt32 >>> ((24 : Int32) &&& 31).toUInt32).toInt32) &&& (255 : Int32)).toUInt32.toUInt16.toUInt32.toInt32))), (.int (nar .char ((i5 &&& (255 : Int32)).toUInt32.toUInt16.toUInt32.toInt32))), (.int (nar .char ((((i5.toUInt32 >>> ((8 : Int32) &&& 31).toUInt32).toInt32) &&& (255 : Int32)).toUInt32.toUInt16.toUInt32.toInt32))), (.int (nar .char ((((i5.toUInt32 >>> ((16 : Int32) &&& 31).toUInt32).toInt32) &&& (255 : Int32)).toUInt32.toUInt16.toUInt32.toInt32)))]) (.int (0 : Int32)) := Arv.set A458 q458 S458 M458 G458 J458 (fits_nar_char _) W458 0 rfl (Nat.le_of_ble_eq_true rfl)
    refine Go.by (fun t k => XS.aload X458.here hx rfl (hb hby at_119) rfl rfl (XS.iconst X458.here hx rfl (hb hby at_121) (XS.bipush X458.here hx rfl (hb hby at_122) k))) ?_
    show Go p e below _ T458 (mkF m 124 #[.val (.int i0), .val (.int i1), .val (.int i2), .val (.int i3), .val (.int i4), .val (.int i5), .val (.ref b441), .val (.int (i0 &&& (3 : Int32))), .val (.int (7 : Int32)), .unset, .unset, .unset, .unset] [(.int (101 : Int32)), (.int (1 : Int32)), (.ref b441)])
    obtain ⟨c460, A460, q460, S460, M460, G460, J460⟩ := id V458
    obtain ⟨T460, h460, X460, e460, W460, st460⟩ := stC X458 hx hZ e458 A460 (j := (1 : Int32)) (inb_of S460 ⟨by decide, by decide⟩) (g := (mkF m 124 #[.val (.int i0), .val (.int i1), .val (.int i2), .val (.int i3), .val (.int i4), .val (.int i5), .val (.ref b441), .val (.int (i0 &&& (3 : Int32))), .val (.int (7 : Int32)), .unset, .unset, .unset, .unset] [(.int (101 : Int32)), (.int (1 : Int32)), (.ref b441)])) rfl rfl (hb hby at_124)
    refine Go.by st460 ?_
    have N460 := Fr.snoc X460 N458 (Nat.le_trans (Nat.le_trans Z0 (Nat.le_refl _)) (Nat.le_of_eq g441.symm))
    have R461 : CHr Z EL s.vm h458 s.vm h460 := CHr.wr W460 (safe_arv hZ.alike V458 (by decide)) CR459.1
    have CR461 := CR459.trans R461
    have K461 : Keep h0 h460 [] := K459.wr W460 (Or.inr (Nat.le_trans (Nat.le_refl _) (Nat.le_of_eq g441.symm)))
    have O461 : Old Z n0 h460 := O459.wr W460 (Nat.le_trans (Nat.le_trans Z0 (Nat.le_refl _)) (Nat.le_of_eq g441.symm))
    show Go p e below _ T460 (mkF m 125 #[.val (.int i0), .val (.int i1), .val (.int i2), .val (.int i3), .val (.int i4), .val (.int i5), .val (.ref b441), .val (.int (i0 &&& (3 : Int32))), .val (.int (7 : Int32)), .unset, .unset, .unset, .unset] [])
    have V460 : Arv Z h460 b441 k441 .char (7 : Int32) ([(.int (nar .char (112 : Int32))), (.int (nar .char (101 : Int32))), (.int (nar .char ((((i4.toUInt32 >>> ((16 : Int32) &&& 31).toUInt32).toInt32) &&& (255 : Int32)).toUInt32.toUInt16.toUInt32.toInt32))), (.int (nar .char ((((i4.toUInt32 >>> ((24 : Int32) &&& 31).toUInt32).toInt32) &&& (255 : Int32)).toUInt32.toUInt16.toUInt32.toInt32))), (.int (nar .char ((i5 &&& (255 : Int32)).toUInt32.toUInt16.toUInt32.toInt32))), (.int (nar .char ((((i5.toUInt32 >>> ((8 : Int32) &&& 31).toUInt32).toInt32) &&& (255 : Int32)).toUInt32.toUInt16.toUInt32.toInt32))), (.int (nar .char ((((i5.toUInt32 >>> ((16 : Int32) &&& 31).toUInt32).toInt32) &&& (255 : Int32)).toUInt32.toUInt16.toUInt32.toInt32)))]) (.int (0 : Int32)) := Arv.set A460 q460 S460 M460 G460 J460 (fits_nar_char _) W460 1 rfl (Nat.le_of_ble_eq_true rfl)
    refine Go.by (fun t k => XS.aload X460.here hx rfl (hb hby at_125) rfl rfl (XS.iconst X460.here hx rfl (hb hby at_127) (XS.bipush X460.here hx rfl (hb hby at_128) k))) ?_
    show Go p e below _ T460 (mkF m 130 #[.val (.int i0), .val (.int i1), .val (.int i2), .val (.int i3), .val (.int i4), .val (.int i5), .val (.ref b441), .val (.int (i0 &&& (3 : Int32))), .val (.int (7 : Int32)), .unset, .unset, .unset, .unset] [(.int (114 : Int32)), (.int (2 : Int32)), (.ref b441)])
    obtain ⟨c462, A462, q462, S462, M462, G462, J462⟩ := id V460
    obtain ⟨T462, h462, X462, e462, W462, st462⟩ := stC X460 hx hZ e460 A462 (j := (2 : Int32)) (inb_of S462 ⟨by decide, by decide⟩) (g := (mkF m 130 #[.val (.int i0), .val (.int i1), .val (.int i2), .val (.int i3), .val (.int i4), .val (.int i5), .val (.ref b441), .val (.int (i0 &&& (3 : Int32))), .val (.int (7 : Int32)), .unset, .unset, .unset, .unset] [(.int (114 : Int32)), (.int (2 : Int32)), (.ref b441)])) rfl rfl (hb hby at_130)
    refine Go.by st462 ?_
    have N462 := Fr.snoc X462 N460 (Nat.le_trans (Nat.le_trans Z0 (Nat.le_refl _)) (Nat.le_of_eq g441.symm))
    have R463 : CHr Z EL s.vm h460 s.vm h462 := CHr.wr W462 (safe_arv hZ.alike V460 (by decide)) CR461.1
    have CR463 := CR461.trans R463
    have K463 : Keep h0 h462 [] := K461.wr W462 (Or.inr (Nat.le_trans (Nat.le_refl _) (Nat.le_of_eq g441.symm)))
    have O463 : Old Z n0 h462 := O461.wr W462 (Nat.le_trans (Nat.le_trans Z0 (Nat.le_refl _)) (Nat.le_of_eq g441.symm))
    show Go p e below _ T462 (mkF m 131 #[.val (.int i0), .val (.int i1), .val (.int i2), .val (.int i3), .val (.int i4), .val (.int i5), .val (.ref b441), .val (.int (i0 &&& (3 : Int32))), .val (.int (7 : Int32)), .unset, .unset, .unset, .unset] [])
    have V462 : Arv Z h462 b441 k441 .char (7 : Int32) ([(.int (nar .char (112 : Int32))), (.int (nar .char (101 : Int32))), (.int (nar .char (114 : Int32))), (.int (nar .char ((((i4.toUInt32 >>> ((24 : Int32) &&& 31).toUInt32).toInt32) &&& (255 : Int32)).toUInt32.toUInt16.toUInt32.toInt32))), (.int (nar .char ((i5 &&& (255 : Int32)).toUInt32.toUInt16.toUInt32.toInt32))), (.int (nar .char ((((i5.toUInt32 >>> ((8 : Int32) &&& 31).toUInt32).toInt32) &&& (255 : Int32)).toUInt32.toUInt16.toUInt32.toInt32))), (.int (nar .char ((((i5.toUInt32 >>> ((16 : Int32) &&& 31).toUInt32).toInt32) &&& (255 : Int32)).toUInt32.toUInt16.toUInt32.toInt32)))]) (.int (0 : Int32)) := Arv.set A462 q462 S462 M462 G462 J462 (fits_nar_char _) W462 2 rfl (Nat.le_of_ble_eq_true rfl)
    refine Go.by (fun t k => XS.aload X462.here hx rfl (hb hby at_131) rfl rfl (XS.iconst X462.here hx rfl (hb hby at_133) (XS.bipush X462.here hx rfl (hb hby at_134) k))) ?_
    show Go p e below _ T462 (mkF m 136 #[.val (.int i0), .val (.int i1), .val (.int i2), .val (.int i3), .val (.int i4), .val (.int i5), .val (.ref b441), .val (.int (i0 &&& (3 : Int32))), .val (.int (7 : Int32)), .unset, .unset, .unset, .unset] [(.int (115 : Int32)), (.int (3 : Int32)), (.ref b441)])
    obtain ⟨c464, A464, q464, S464, M464, G464, J464⟩ := id V462
    obtain ⟨T464, h464, X464, e464, W464, st464⟩ := stC X462 hx hZ e462 A464 (j := (3 : Int32)) (inb_of S464 ⟨by decide, by decide⟩) (g := (mkF m 136 #[.val (.int i0), .val (.int i1), .val (.int i2), .val (.int i3), .val (.int i4), .val (.int i5), .val (.ref b441), .val (.int (i0 &&& (3 : Int32))), .val (.int (7 : Int32)), .unset, .unset, .unset, .unset] [(.int (115 : Int32)), (.int (3 : Int32)), (.ref b441)])) rfl rfl (hb hby at_136)
    refine Go.by st464 ?_
    have N464 := Fr.snoc X464 N462 (Nat.le_trans (Nat.le_trans Z0 (Nat.le_refl _)) (Nat.le_of_eq g441.symm))
    have R465 : CHr Z EL s.vm h462 s.vm h464 := CHr.wr W464 (safe_arv hZ.alike V462 (by decide)) CR463.1
    have CR465 := CR463.trans R465
    have K465 : Keep h0 h464 [] := K463.wr W464 (Or.inr (Nat.le_trans (Nat.le_refl _) (Nat.le_of_eq g441.symm)))
    have O465 : Old Z n0 h464 := O463.wr W464 (Nat.le_trans (Nat.le_trans Z0 (Nat.le_refl _)) (Nat.le_of_eq g441.symm))
    show Go p e below _ T464 (mkF m 137 #[.val (.int i0), .val (.int i1), .val (.int i2), .val (.int i3), .val (.int i4), .val (.int i5), .val (.ref b441), .val (.int (i0 &&& (3 : Int32))), .val (.int (7 : Int32)), .unset, .unset, .unset, .unset] [])
    have V464 : Arv Z h464 b441 k441 .char (7 : Int32) ([(.int (nar .char (112 : Int32))), (.int (nar .char (101 : Int32))), (.int (nar .char (114 : Int32))), (.int (nar .char (115 : Int32))), (.int (nar .char ((i5 &&& (255 : Int32)).toUInt32.toUInt16.toUInt32.toInt32))), (.int (nar .char ((((i5.toUInt32 >>> ((8 : Int32) &&& 31).toUInt32).toInt32) &&& (255 : Int32)).toUInt32.toUInt16.toUInt32.toInt32))), (.int (nar .char ((((i5.toUInt32 >>> ((16 : Int32) &&& 31).toUInt32).toInt32) &&& (255 : Int32)).toUInt32.toUInt16.toUInt32.toInt32)))]) (.int (0 : Int32)) := Arv.set A464 q464 S464 M464 G464 J464 (fits_nar_char _) W464 3 rfl (Nat.le_of_ble_eq_true rfl)
    refine Go.by (fun t k => XS.aload X464.here hx rfl (hb hby at_137) rfl rfl (XS.iconst X464.here hx rfl (hb hby at_139) (XS.bipush X464.here hx rfl (hb hby at_140) k))) ?_
    show Go p e below _ T464 (mkF m 142 #[.val (.int i0), .val (.int i1), .val (.int i2), .val (.int i3), .val (.int i4), .val (.int i5), .val (.ref b441), .val (.int (i0 &&& (3 : Int32))), .val (.int (7 : Int32)), .unset, .unset, .unset, .unset] [(.int (111 : Int32)), (.int (4 : Int32)), (.ref b441)])
    obtain ⟨c466, A466, q466, S466, M466, G466, J466⟩ := id V464
    obtain ⟨T466, h466, X466, e466, W466, st466⟩ := stC X464 hx hZ e464 A466 (j := (4 : Int32)) (inb_of S466 ⟨by decide, by decide⟩) (g := (mkF m 142 #[.val (.int i0), .val (.int i1), .val (.int i2), .val (.int i3), .val (.int i4), .val (.int i5), .val (.ref b441), .val (.int (i0 &&& (3 : Int32))), .val (.int (7 : Int32)), .unset, .unset, .unset, .unset] [(.int (111 : Int32)), (.int (4 : Int32)), (.ref b441)])) rfl rfl (hb hby at_142)
    refine Go.by st466 ?_
    have N466 := Fr.snoc X466 N464 (Nat.le_trans (Nat.le_trans Z0 (Nat.le_refl _)) (Nat.le_of_eq g441.symm))
    have R467 : CHr Z EL s.vm h464 s.vm h466 := CHr.wr W466 (safe_arv hZ.alike V464 (by decide)) CR465.1
    have CR467 := CR465.trans R467
    have K467 : Keep h0 h466 [] := K465.wr W466 (Or.inr (Nat.le_trans (Nat.le_refl _) (Nat.le_of_eq g441.symm)))
    have O467 : Old Z n0 h466 := O465.wr W466 (Nat.le_trans (Nat.le_trans Z0 (Nat.le_refl _)) (Nat.le_of_eq g441.symm))
    show Go p e below _ T466 (mkF m 143 #[.val (.int i0), .val (.int i1), .val (.int i2), .val (.int i3), .val (.int i4), .val (.int i5), .val (.ref b441), .val (.int (i0 &&& (3 : Int32))), .val (.int (7 : Int32)), .unset, .unset, .unset, .unset] [])
    have V466 : Arv Z h466 b441 k441 .char (7 : Int32) ([(.int (nar .char (112 : Int32))), (.int (nar .char (101 : Int32))), (.int (nar .char (114 : Int32))), (.int (nar .char (115 : Int32))), (.int (nar .char (111 : Int32))), (.int (nar .char ((((i5.toUInt32 >>> ((8 : Int32) &&& 31).toUInt32).toInt32) &&& (255 : Int32)).toUInt32.toUInt16.toUInt32.toInt32))), (.int (nar .char ((((i5.toUInt32 >>> ((16 : Int32) &&& 31).toUInt32).toInt32) &&& (255 : Int32)).toUInt32.toUInt16.toUInt32.toInt32)))]) (.int (0 : Int32)) := Arv.set A466 q466 S466 M466 G466 J466 (fits_nar_char _) W466 4 rfl (Nat.le_of_ble_eq_true rfl)
    refine Go.by (fun t k => XS.aload X466.here hx rfl (hb hby at_143) rfl rfl (XS.iconst X466.here hx rfl (hb hby at_145) (XS.bipush X466.here hx rfl (hb hby at_146) k))) ?_
    show Go p e below _ T466 (mkF m 148 #[.val (.int i0), .val (.int i1), .val (.int i2), .val (.int i3), .val (.int i4), .val (.int i5), .val (.ref b441), .val (.int (i0 &&& (3 : Int32))), .val (.int (7 : Int32)), .unset, .unset, .unset, .unset] [(.int (110 : Int32)), (.int (5 : Int32)), (.ref b441)])
    obtain ⟨c468, A468, q468, S468, M468, G468, J468⟩ := id V466
    obtain ⟨T468, h468, X468, e468, W468, st468⟩ := stC X466 hx hZ e466 A468 (j := (5 : Int32)) (inb_of S468 ⟨by decide, by decide⟩) (g := (mkF m 148 #[.val (.int i0), .val (.int i1), .val (.int i2), .val (.int i3), .val (.int i4), .val (.int i5), .val (.ref b441), .val (.int (i0 &&& (3 : Int32))), .val (.int (7 : Int32)), .unset, .unset, .unset, .unset] [(.int (110 : Int32)), (.int (5 : Int32)), (.ref b441)])) rfl rfl (hb hby at_148)
    refine Go.by st468 ?_
    have N468 := Fr.snoc X468 N466 (Nat.le_trans (Nat.le_trans Z0 (Nat.le_refl _)) (Nat.le_of_eq g441.symm))
    have R469 : CHr Z EL s.vm h466 s.vm h468 := CHr.wr W468 (safe_arv hZ.alike V466 (by decide)) CR467.1
    have CR469 := CR467.trans R469
    have K469 : Keep h0 h468 [] := K467.wr W468 (Or.inr (Nat.le_trans (Nat.le_refl _) (Nat.le_of_eq g441.symm)))
    have O469 : Old Z n0 h468 := O467.wr W468 (Nat.le_trans (Nat.le_trans Z0 (Nat.le_refl _)) (Nat.le_of_eq g441.symm))
    show Go p e below _ T468 (mkF m 149 #[.val (.int i0), .val (.int i1), .val (.int i2), .val (.int i3), .val (.int i4), .val (.int i5), .val (.ref b441), .val (.int (i0 &&& (3 : Int32))), .val (.int (7 : Int32)), .unset, .unset, .unset, .unset] [])
    have V468 : Arv Z h468 b441 k441 .char (7 : Int32) ([(.int (nar .char (112 : Int32))), (.int (nar .char (101 : Int32))), (.int (nar .char (114 : Int32))), (.int (nar .char (115 : Int32))), (.int (nar .char (111 : Int32))), (.int (nar .char (110 : Int32))), (.int (nar .char ((((i5.toUInt32 >>> ((16 : Int32) &&& 31).toUInt32).toInt32) &&& (255 : Int32)).toUInt32.toUInt16.toUInt32.toInt32)))]) (.int (0 : Int32)) := Arv.set A468 q468 S468 M468 G468 J468 (fits_nar_char _) W468 5 rfl (Nat.le_of_ble_eq_true rfl)
    refine Go.by (fun t k => XS.bipush X468.here hx rfl (hb hby at_149) (XS.istore X468.here hx rfl (hb hby at_151) rfl (l' := #[.val (.int i0), .val (.int i1), .val (.int i2), .val (.int i3), .val (.int i4), .val (.int i5), .val (.ref b441), .val (.int (i0 &&& (3 : Int32))), .val (.int (6 : Int32)), .unset, .unset, .unset, .unset]) rfl (XS.goto X468.here hx rfl (pc0 := 153) (pc' := 195) rfl (hb hby at_153) (by decide) (by decide) k))) ?_
    show Go p e below _ T468 (mkF m 195 #[.val (.int i0), .val (.int i1), .val (.int i2), .val (.int i3), .val (.int i4), .val (.int i5), .val (.ref b441), .val (.int (i0 &&& (3 : Int32))), .val (.int (6 : Int32)), .unset, .unset, .unset, .unset] [])
    have hn : ∀ c ∈ ([(nar .char (112 : Int32)), (nar .char (101 : Int32)), (nar .char (114 : Int32)), (nar .char (115 : Int32)), (nar .char (111 : Int32)), (nar .char (110 : Int32)), (nar .char ((((i5.toUInt32 >>> ((16 : Int32) &&& 31).toUInt32).toInt32) &&& (255 : Int32)).toUInt32.toUInt16.toUInt32.toInt32))] : List Int32), ¬ c < 0 ∧ ¬ (255 : Int32) < c := by
      intro c hc; simp only [List.mem_cons, List.not_mem_nil, or_false] at hc; rcases hc with rfl | rfl | rfl | rfl | rfl | rfl | rfl
      · decide
      · decide
      · decide
      · decide
      · decide
      · decide
      · exact chars_lo ((i5.toUInt32 >>> ((16 : Int32) &&& 31).toUInt32).toInt32)
    exact P195 _ _ _ _ _ b441 k441 (i0 &&& (3 : Int32)) (6 : Int32) (nar .char (112 : Int32)) (nar .char (101 : Int32)) (nar .char (114 : Int32)) (nar .char (115 : Int32)) (nar .char (111 : Int32)) (nar .char (110 : Int32)) (nar .char ((((i5.toUInt32 >>> ((16 : Int32) &&& 31).toUInt32).toInt32) &&& (255 : Int32)).toUInt32.toUInt16.toUInt32.toInt32)) (Stand_grow X468 (by decide) (by decide)) e468 N468 K469 O469 hS0 (Nat.le_trans (Nat.le_refl _) (Nat.le_trans (Nat.le_trans (Nat.le_trans (Nat.le_trans (Nat.le_trans (Nat.le_trans (Nat.le_trans (Nat.le_trans (Nat.le_trans (Nat.le_trans (Nat.le_trans (Nat.le_trans (Nat.le_trans E441.1 (Keep.of_wr W444).1) (Keep.of_wr W446).1) (Keep.of_wr W448).1) (Keep.of_wr W450).1) (Keep.of_wr W452).1) (Keep.of_wr W454).1) (Keep.of_wr W456).1) (Keep.of_wr W458).1) (Keep.of_wr W460).1) (Keep.of_wr W462).1) (Keep.of_wr W464).1) (Keep.of_wr W466).1) (Keep.of_wr W468).1)) hZ hown (((((((((((((R442.trans R445).trans R447).trans R449).trans R451).trans R453).trans R455).trans R457).trans R459).trans R461).trans R463).trans R465).trans R467).trans R469) V468 (hn) (by decide) (Nat.le_trans (Nat.le_refl _) (Nat.le_of_eq g441.symm))
  · refine Go.by (fun t k => XS.ifYes X456.here hx rfl (pc0 := 110) (pc' := 156) rfl (hb hby at_110) rfl ((if0 _ _).trans (feq (show ¬ ((i0 &&& (3 : Int32)) = (0 : Int32)) from h0_)).2) (by decide) (by decide) k) ?_
    show Go p e below _ T456 (mkF m 156 #[.val (.int i0), .val (.int i1), .val (.int i2), .val (.int i3), .val (.int i4), .val (.int i5), .val (.ref b441), .val (.int (i0 &&& (3 : Int32))), .val (.int (7 : Int32)), .unset, .unset, .unset, .unset] [])
    refine Go.by (fun t k => XS.iload X456.here hx rfl (hb hby at_156) rfl (XS.iconst X456.here hx rfl (hb hby at_158) k)) ?_
    show Go p e below _ T456 (mkF m 159 #[.val (.int i0), .val (.int i1), .val (.int i2), .val (.int i3), .val (.int i4), .val (.int i5), .val (.ref b441), .val (.int (i0 &&& (3 : Int32))), .val (.int (7 : Int32)), .unset, .unset, .unset, .unset] [(.int (1 : Int32)), (.int (i0 &&& (3 : Int32)))])
    by_cases h1_ : (i0 &&& (3 : Int32)) = (1 : Int32)
    · refine Go.by (fun t k => XS.icmpNo X456.here hx rfl (hb hby at_159) rfl (teq (show (i0 &&& (3 : Int32)) = (1 : Int32) from h1_)).2 k) ?_
      show Go p e below _ T456 (mkF m 162 #[.val (.int i0), .val (.int i1), .val (.int i2), .val (.int i3), .val (.int i4), .val (.int i5), .val (.ref b441), .val (.int (i0 &&& (3 : Int32))), .val (.int (7 : Int32)), .unset, .unset, .unset, .unset] [])
      refine Go.by (fun t k => XS.aload X456.here hx rfl (hb hby at_162) rfl rfl (XS.iconst X456.here hx rfl (hb hby at_164) (XS.bipush X456.here hx rfl (hb hby at_165) k))) ?_
      show Go p e below _ T456 (mkF m 167 #[.val (.int i0), .val (.int i1), .val (.int i2), .val (.int i3), .val (.int i4), .val (.int i5), .val (.ref b441), .val (.int (i0 &&& (3 : Int32))), .val (.int (7 : Int32)), .unset, .unset, .unset, .unset] [(.int (111 : Int32)), (.int (0 : Int32)), (.ref b441)])
      obtain ⟨c470, A470, q470, S470, M470, G470, J470⟩ := id V456
      obtain ⟨T470, h470, X470, e470, W470, st470⟩ := stC X456 hx hZ e456 A470 (j := (0 : Int32)) (inb_of S470 ⟨by decide, by decide⟩) (g := (mkF m 167 #[.val (.int i0), .val (.int i1), .val (.int i2), .val (.int i3), .val (.int i4), .val (.int i5), .val (.ref b441), .val (.int (i0 &&& (3 : Int32))), .val (.int (7 : Int32)), .unset, .unset, .unset, .unset] [(.int (111 : Int32)), (.int (0 : Int32)), (.ref b441)])) rfl rfl (hb hby at_167)
      refine Go.by st470 ?_
      have N470 := Fr.snoc X470 N456 (Nat.le_trans (Nat.le_trans Z0 (Nat.le_refl _)) (Nat.le_of_eq g441.symm))
      have R471 : CHr Z EL s.vm h456 s.vm h470 := CHr.wr W470 (safe_arv hZ.alike V456 (by decide)) CR457.1
      have CR471 := CR457.trans R471
      have K471 : Keep h0 h470 [] := K457.wr W470 (Or.inr (Nat.le_trans (Nat.le_refl _) (Nat.le_of_eq g441.symm)))
      have O471 : Old Z n0 h470 := O457.wr W470 (Nat.le_trans (Nat.le_trans Z0 (Nat.le_refl _)) (Nat.le_of_eq g441.symm))
      show Go p e below _ T470 (mkF m 168 #[.val (.int i0), .val (.int i1), .val (.int i2), .val (.int i3), .val (.int i4), .val (.int i5), .val (.ref b441), .val (.int (i0 &&& (3 : Int32))), .val (.int (7 : Int32)), .unset, .unset, .unset, .unset] [])
      have V470 : Arv Z h470 b441 k441 .char (7 : Int32) ([(.int (nar .char (111 : Int32))), (.int (nar .char ((((i4.toUInt32 >>> ((8 : Int32) &&& 31).toUInt32).toInt32) &&& (255 : Int32)).toUInt32.toUInt16.toUInt32.toInt32))), (.int (nar .char ((((i4.toUInt32 >>> ((16 : Int32) &&& 31).toUInt32).toInt32) &&& (255 : Int32)).toUInt32.toUInt16.toUInt32.toInt32))), (.int (nar .char ((((i4.toUInt32 >>> ((24 : Int32) &&& 31).toUInt32).toInt32) &&& (255 : Int32)).toUInt32.toUInt16.toUInt32.toInt32))), (.int (nar .char ((i5 &&& (255 : Int32)).toUInt32.toUInt16.toUInt32.toInt32))), (.int (nar .char ((((i5.toUInt32 >>> ((8 : Int32) &&& 31).toUInt32).toInt32) &&& (255 : Int32)).toUInt32.toUInt16.toUInt32.toInt32))), (.int (nar .char ((((i5.toUInt32 >>> ((16 : Int32) &&& 31).toUInt32).toInt32) &&& (255 : Int32)).toUInt32.toUInt16.toUInt32.toInt32)))]) (.int (0 : Int32)) := Arv.set A470 q470 S470 M470 G470 J470 (fits_nar_char _) W470 0 rfl (Nat.le_of_ble_eq_true rfl)
      refine Go.by (fun t k => XS.aload X470.here hx rfl (hb hby at_168) rfl rfl (XS.iconst X470.here hx rfl (hb hby at_170) (XS.bipush X470.here hx rfl (hb hby at_171) k))) ?_
      show Go p e below _ T470 (mkF m 173 #[.val (.int i0), .val (.int i1), .val (.int i2), .val (.int i3), .val (.int i4), .val (.int i5), .val (.ref b441), .val (.int (i0 &&& (3 : Int32))), .val (.int (7 : Int32)), .unset, .unset, .unset, .unset] [(.int (116 : Int32)), (.int (1 : Int32)), (.ref b441)])
      obtain ⟨c472, A472, q472, S472, M472, G472, J472⟩ := id V470
      obtain ⟨T472, h472, X472, e472, W472, st472⟩ := stC X470 hx hZ e470 A472 (j := (1 : Int32)) (inb_of S472 ⟨by decide, by decide⟩) (g := (mkF m 173 #[.val (.int i0), .val (.int i1), .val (.int i2), .val (.int i3), .val (.int i4), .val (.int i5), .val (.ref b441), .val (.int (i0 &&& (3 : Int32))), .val (.int (7 : Int32)), .unset, .unset, .unset, .unset] [(.int (116 : Int32)), (.int (1 : Int32)), (.ref b441)])) rfl rfl (hb hby at_173)
      refine Go.by st472 ?_
      have N472 := Fr.snoc X472 N470 (Nat.le_trans (Nat.le_trans Z0 (Nat.le_refl _)) (Nat.le_of_eq g441.symm))
      have R473 : CHr Z EL s.vm h470 s.vm h472 := CHr.wr W472 (safe_arv hZ.alike V470 (by decide)) CR471.1
      have CR473 := CR471.trans R473
      have K473 : Keep h0 h472 [] := K471.wr W472 (Or.inr (Nat.le_trans (Nat.le_refl _) (Nat.le_of_eq g441.symm)))
      have O473 : Old Z n0 h472 := O471.wr W472 (Nat.le_trans (Nat.le_trans Z0 (Nat.le_refl _)) (Nat.le_of_eq g441.symm))
      show Go p e below _ T472 (mkF m 174 #[.val (.int i0), .val (.int i1), .val (.int i2), .val (.int i3), .val (.int i4), .val (.int i5), .val (.ref b441), .val (.int (i0 &&& (3 : Int32))), .val (.int (7 : Int32)), .unset, .unset, .unset, .unset] [])
      have V472 : Arv Z h472 b441 k441 .char (7 : Int32) ([(.int (nar .char (111 : Int32))), (.int (nar .char (116 : Int32))), (.int (nar .char ((((i4.toUInt32 >>> ((16 : Int32) &&& 31).toUInt32).toInt32) &&& (255 : Int32)).toUInt32.toUInt16.toUInt32.toInt32))), (.int (nar .char ((((i4.toUInt32 >>> ((24 : Int32) &&& 31).toUInt32).toInt32) &&& (255 : Int32)).toUInt32.toUInt16.toUInt32.toInt32))), (.int (nar .char ((i5 &&& (255 : Int32)).toUInt32.toUInt16.toUInt32.toInt32))), (.int (nar .char ((((i5.toUInt32 >>> ((8 : Int32) &&& 31).toUInt32).toInt32) &&& (255 : Int32)).toUInt32.toUInt16.toUInt32.toInt32))), (.int (nar .char ((((i5.toUInt32 >>> ((16 : Int32) &&& 31).toUInt32).toInt32) &&& (255 : Int32)).toUInt32.toUInt16.toUInt32.toInt32)))]) (.int (0 : Int32)) := Arv.set A472 q472 S472 M472 G472 J472 (fits_nar_char _) W472 1 rfl (Nat.le_of_ble_eq_true rfl)
      refine Go.by (fun t k => XS.aload X472.here hx rfl (hb hby at_174) rfl rfl (XS.iconst X472.here hx rfl (hb hby at_176) (XS.bipush X472.here hx rfl (hb hby at_177) k))) ?_
      show Go p e below _ T472 (mkF m 179 #[.val (.int i0), .val (.int i1), .val (.int i2), .val (.int i3), .val (.int i4), .val (.int i5), .val (.ref b441), .val (.int (i0 &&& (3 : Int32))), .val (.int (7 : Int32)), .unset, .unset, .unset, .unset] [(.int (104 : Int32)), (.int (2 : Int32)), (.ref b441)])
      obtain ⟨c474, A474, q474, S474, M474, G474, J474⟩ := id V472
      obtain ⟨T474, h474, X474, e474, W474, st474⟩ := stC X472 hx hZ e472 A474 (j := (2 : Int32)) (inb_of S474 ⟨by decide, by decide⟩) (g := (mkF m 179 #[.val (.int i0), .val (.int i1), .val (.int i2), .val (.int i3), .val (.int i4), .val (.int i5), .val (.ref b441), .val (.int (i0 &&& (3 : Int32))), .val (.int (7 : Int32)), .unset, .unset, .unset, .unset] [(.int (104 : Int32)), (.int (2 : Int32)), (.ref b441)])) rfl rfl (hb hby at_179)
      refine Go.by st474 ?_
      have N474 := Fr.snoc X474 N472 (Nat.le_trans (Nat.le_trans Z0 (Nat.le_refl _)) (Nat.le_of_eq g441.symm))
      have R475 : CHr Z EL s.vm h472 s.vm h474 := CHr.wr W474 (safe_arv hZ.alike V472 (by decide)) CR473.1
      have CR475 := CR473.trans R475
      have K475 : Keep h0 h474 [] := K473.wr W474 (Or.inr (Nat.le_trans (Nat.le_refl _) (Nat.le_of_eq g441.symm)))
      have O475 : Old Z n0 h474 := O473.wr W474 (Nat.le_trans (Nat.le_trans Z0 (Nat.le_refl _)) (Nat.le_of_eq g441.symm))
      show Go p e below _ T474 (mkF m 180 #[.val (.int i0), .val (.int i1), .val (.int i2), .val (.int i3), .val (.int i4), .val (.int i5), .val (.ref b441), .val (.int (i0 &&& (3 : Int32))), .val (.int (7 : Int32)), .unset, .unset, .unset, .unset] [])
      have V474 : Arv Z h474 b441 k441 .char (7 : Int32) ([(.int (nar .char (111 : Int32))), (.int (nar .char (116 : Int32))), (.int (nar .char (104 : Int32))), (.int (nar .char ((((i4.toUInt32 >>> ((24 : Int32) &&& 31).toUInt32).toInt32) &&& (255 : Int32)).toUInt32.toUInt16.toUInt32.toInt32))), (.int (nar .char ((i5 &&& (255 : Int32)).toUInt32.toUInt16.toUInt32.toInt32))), (.int (nar .char ((((i5.toUInt32 >>> ((8 : Int32) &&& 31).toUInt32).toInt32) &&& (255 : Int32)).toUInt32.toUInt16.toUInt32.toInt32))), (.int (nar .char ((((i5.toUInt32 >>> ((16 : Int32) &&& 31).toUInt32).toInt32) &&& (255 : Int32)).toUInt32.toUInt16.toUInt32.toInt32)))]) (.int (0 : Int32)) := Arv.set A474 q474 S474 M474 G474 J474 (fits_nar_char _) W474 2 rfl (Nat.le_of_ble_eq_true rfl)
      refine Go.by (fun t k => XS.aload X474.here hx rfl (hb hby at_180) rfl rfl (XS.iconst X474.here hx rfl (hb hby at_182) (XS.bipush X474.here hx rfl (hb hby at_183) k))) ?_
      show Go p e below _ T474 (mkF m 185 #[.val (.int i0), .val (.int i1), .val (.int i2), .val (.int i3), .val (.int i4), .val (.int i5), .val (.ref b441), .val (.int (i0 &&& (3 : Int32))), .val (.int (7 : Int32)), .unset, .unset, .unset, .unset] [(.int (101 : Int32)), (.int (3 : Int32)), (.ref b441)])
      obtain ⟨c476, A476, q476, S476, M476, G476, J476⟩ := id V474
      obtain ⟨T476, h476, X476, e476, W476, st476⟩ := stC X474 hx hZ e474 A476 (j := (3 : Int32)) (inb_of S476 ⟨by decide, by decide⟩) (g := (mkF m 185 #[.val (.int i0), .val (.int i1), .val (.int i2), .val (.int i3), .val (.int i4), .val (.int i5), .val (.ref b441), .val (.int (i0 &&& (3 : Int32))), .val (.int (7 : Int32)), .unset, .unset, .unset, .unset] [(.int (101 : Int32)), (.int (3 : Int32)), (.ref b441)])) rfl rfl (hb hby at_185)
      refine Go.by st476 ?_
      have N476 := Fr.snoc X476 N474 (Nat.le_trans (Nat.le_trans Z0 (Nat.le_refl _)) (Nat.le_of_eq g441.symm))
      have R477 : CHr Z EL s.vm h474 s.vm h476 := CHr.wr W476 (safe_arv hZ.alike V474 (by decide)) CR475.1
      have CR477 := CR475.trans R477
      have K477 : Keep h0 h476 [] := K475.wr W476 (Or.inr (Nat.le_trans (Nat.le_refl _) (Nat.le_of_eq g441.symm)))
      have O477 : Old Z n0 h476 := O475.wr W476 (Nat.le_trans (Nat.le_trans Z0 (Nat.le_refl _)) (Nat.le_of_eq g441.symm))
      show Go p e below _ T476 (mkF m 186 #[.val (.int i0), .val (.int i1), .val (.int i2), .val (.int i3), .val (.int i4), .val (.int i5), .val (.ref b441), .val (.int (i0 &&& (3 : Int32))), .val (.int (7 : Int32)), .unset, .unset, .unset, .unset] [])
      have V476 : Arv Z h476 b441 k441 .char (7 : Int32) ([(.int (nar .char (111 : Int32))), (.int (nar .char (116 : Int32))), (.int (nar .char (104 : Int32))), (.int (nar .char (101 : Int32))), (.int (nar .char ((i5 &&& (255 : Int32)).toUInt32.toUInt16.toUInt32.toInt32))), (.int (nar .char ((((i5.toUInt32 >>> ((8 : Int32) &&& 31).toUInt32).toInt32) &&& (255 : Int32)).toUInt32.toUInt16.toUInt32.toInt32))), (.int (nar .char ((((i5.toUInt32 >>> ((16 : Int32) &&& 31).toUInt32).toInt32) &&& (255 : Int32)).toUInt32.toUInt16.toUInt32.toInt32)))]) (.int (0 : Int32)) := Arv.set A476 q476 S476 M476 G476 J476 (fits_nar_char _) W476 3 rfl (Nat.le_of_ble_eq_true rfl)
      refine Go.by (fun t k => XS.aload X476.here hx rfl (hb hby at_186) rfl rfl (XS.iconst X476.here hx rfl (hb hby at_188) (XS.bipush X476.here hx rfl (hb hby at_189) k))) ?_
      show Go p e below _ T476 (mkF m 191 #[.val (.int i0), .val (.int i1), .val (.int i2), .val (.int i3), .val (.int i4), .val (.int i5), .val (.ref b441), .val (.int (i0 &&& (3 : Int32))), .val (.int (7 : Int32)), .unset, .unset, .unset, .unset] [(.int (114 : Int32)), (.int (4 : Int32)), (.ref b441)])
      obtain ⟨c478, A478, q478, S478, M478, G478, J478⟩ := id V476
      obtain ⟨T478, h478, X478, e478, W478, st478⟩ := stC X476 hx hZ e476 A478 (j := (4 : Int32)) (inb_of S478 ⟨by decide, by decide⟩) (g := (mkF m 191 #[.val (.int i0), .val (.int i1), .val (.int i2), .val (.int i3), .val (.int i4), .val (.int i5), .val (.ref b441), .val (.int (i0 &&& (3 : Int32))), .val (.int (7 : Int32)), .unset, .unset, .unset, .unset] [(.int (114 : Int32)), (.int (4 : Int32)), (.ref b441)])) rfl rfl (hb hby at_191)
      refine Go.by st478 ?_
      have N478 := Fr.snoc X478 N476 (Nat.le_trans (Nat.le_trans Z0 (Nat.le_refl _)) (Nat.le_of_eq g441.symm))
      have R479 : CHr Z EL s.vm h476 s.vm h478 := CHr.wr W478 (safe_arv hZ.alike V476 (by decide)) CR477.1
      have CR479 := CR477.trans R479
      have K479 : Keep h0 h478 [] := K477.wr W478 (Or.inr (Nat.le_trans (Nat.le_refl _) (Nat.le_of_eq g441.symm)))
      have O479 : Old Z n0 h478 := O477.wr W478 (Nat.le_trans (Nat.le_trans Z0 (Nat.le_refl _)) (Nat.le_of_eq g441.symm))
      show Go p e below _ T478 (mkF m 192 #[.val (.int i0), .val (.int i1), .val (.int i2), .val (.int i3), .val (.int i4), .val (.int i5), .val (.ref b441), .val (.int (i0 &&& (3 : Int32))), .val (.int (7 : Int32)), .unset, .unset, .unset, .unset] [])
      have V478 : Arv Z h478 b441 k441 .char (7 : Int32) ([(.int (nar .char (111 : Int32))), (.int (nar .char (116 : Int32))), (.int (nar .char (104 : Int32))), (.int (nar .char (101 : Int32))), (.int (nar .char (114 : Int32))), (.int (nar .char ((((i5.toUInt32 >>> ((8 : Int32) &&& 31).toUInt32).toInt32) &&& (255 : Int32)).toUInt32.toUInt16.toUInt32.toInt32))), (.int (nar .char ((((i5.toUInt32 >>> ((16 : Int32) &&& 31).toUInt32).toInt32) &&& (255 : Int32)).toUInt32.toUInt16.toUInt32.toInt32)))]) (.int (0 : Int32)) := Arv.set A478 q478 S478 M478 G478 J478 (fits_nar_char _) W478 4 rfl (Nat.le_of_ble_eq_true rfl)
      refine Go.by (fun t k => XS.iconst X478.here hx rfl (hb hby at_192) (XS.istore X478.here hx rfl (hb hby at_193) rfl (l' := #[.val (.int i0), .val (.int i1), .val (.int i2), .val (.int i3), .val (.int i4), .val (.int i5), .val (.ref b441), .val (.int (i0 &&& (3 : Int32))), .val (.int (5 : Int32)), .unset, .unset, .unset, .unset]) rfl k)) ?_
      show Go p e below _ T478 (mkF m 195 #[.val (.int i0), .val (.int i1), .val (.int i2), .val (.int i3), .val (.int i4), .val (.int i5), .val (.ref b441), .val (.int (i0 &&& (3 : Int32))), .val (.int (5 : Int32)), .unset, .unset, .unset, .unset] [])
      have hn : ∀ c ∈ ([(nar .char (111 : Int32)), (nar .char (116 : Int32)), (nar .char (104 : Int32)), (nar .char (101 : Int32)), (nar .char (114 : Int32)), (nar .char ((((i5.toUInt32 >>> ((8 : Int32) &&& 31).toUInt32).toInt32) &&& (255 : Int32)).toUInt32.toUInt16.toUInt32.toInt32)), (nar .char ((((i5.toUInt32 >>> ((16 : Int32) &&& 31).toUInt32).toInt32) &&& (255 : Int32)).toUInt32.toUInt16.toUInt32.toInt32))] : List Int32), ¬ c < 0 ∧ ¬ (255 : Int32) < c := by
        intro c hc; simp only [List.mem_cons, List.not_mem_nil, or_false] at hc; rcases hc with rfl | rfl | rfl | rfl | rfl | rfl | rfl
        · decide
        · decide
        · decide
        · decide
        · decide
        · exact chars_lo ((i5.toUInt32 >>> ((8 : Int32) &&& 31).toUInt32).toInt32)
        · exact chars_lo ((i5.toUInt32 >>> ((16 : Int32) &&& 31).toUInt32).toInt32)
      exact P195 _ _ _ _ _ b441 k441 (i0 &&& (3 : Int32)) (5 : Int32) (nar .char (111 : Int32)) (nar .char (116 : Int32)) (nar .char (104 : Int32)) (nar .char (101 : Int32)) (nar .char (114 : Int32)) (nar .char ((((i5.toUInt32 >>> ((8 : Int32) &&& 31).toUInt32).toInt32) &&& (255 : Int32)).toUInt32.toUInt16.toUInt32.toInt32)) (nar .char ((((i5.toUInt32 >>> ((16 : Int32) &&& 31).toUInt32).toInt32) &&& (255 : Int32)).toUInt32.toUInt16.toUInt32.toInt32)) (Stand_grow X478 (by decide) (by decide)) e478 N478 K479 O479 hS0 (Nat.le_trans (Nat.le_refl _) (Nat.le_trans (Nat.le_trans (Nat.le_trans (Nat.le_trans (Nat.le_trans (Nat.le_trans (Nat.le_trans (Nat.le_trans (Nat.le_trans (Nat.le_trans (Nat.le_trans (Nat.le_trans E441.1 (Keep.of_wr W444).1) (Keep.of_wr W446).1) (Keep.of_wr W448).1) (Keep.of_wr W450).1) (Keep.of_wr W452).1) (Keep.of_wr W454).1) (Keep.of_wr W456).1) (Keep.of_wr W470).1) (Keep.of_wr W472).1) (Keep.of_wr W474).1) (Keep.of_wr W476).1) (Keep.of_wr W478).1)) hZ hown ((((((((((((R442.trans R445).trans R447).trans R449).trans R451).trans R453).trans R455).trans R457).trans R471).trans R473).trans R475).trans R477).trans R479) V478 (hn) (by decide) (Nat.le_trans (Nat.le_refl _) (Nat.le_of_eq g441.symm))
    · refine Go.by (fun t k => XS.icmpYes X456.here hx rfl (pc0 := 159) (pc' := 195) rfl (hb hby at_159) rfl (feq (show ¬ ((i0 &&& (3 : Int32)) = (1 : Int32)) from h1_)).2 (by decide) (by decide) k) ?_
      show Go p e below _ T456 (mkF m 195 #[.val (.int i0), .val (.int i1), .val (.int i2), .val (.int i3), .val (.int i4), .val (.int i5), .val (.ref b441), .val (.int (i0 &&& (3 : Int32))), .val (.int (7 : Int32)), .unset, .unset, .unset, .unset] [])
      have hn : ∀ c ∈ ([(nar .char ((i4 &&& (255 : Int32)).toUInt32.toUInt16.toUInt32.toInt32)), (nar .char ((((i4.toUInt32 >>> ((8 : Int32) &&& 31).toUInt32).toInt32) &&& (255 : Int32)).toUInt32.toUInt16.toUInt32.toInt32)), (nar .char ((((i4.toUInt32 >>> ((16 : Int32) &&& 31).toUInt32).toInt32) &&& (255 : Int32)).toUInt32.toUInt16.toUInt32.toInt32)), (nar .char ((((i4.toUInt32 >>> ((24 : Int32) &&& 31).toUInt32).toInt32) &&& (255 : Int32)).toUInt32.toUInt16.toUInt32.toInt32)), (nar .char ((i5 &&& (255 : Int32)).toUInt32.toUInt16.toUInt32.toInt32)), (nar .char ((((i5.toUInt32 >>> ((8 : Int32) &&& 31).toUInt32).toInt32) &&& (255 : Int32)).toUInt32.toUInt16.toUInt32.toInt32)), (nar .char ((((i5.toUInt32 >>> ((16 : Int32) &&& 31).toUInt32).toInt32) &&& (255 : Int32)).toUInt32.toUInt16.toUInt32.toInt32))] : List Int32), ¬ c < 0 ∧ ¬ (255 : Int32) < c := by
        intro c hc; simp only [List.mem_cons, List.not_mem_nil, or_false] at hc; rcases hc with rfl | rfl | rfl | rfl | rfl | rfl | rfl
        · exact chars_lo i4
        · exact chars_lo ((i4.toUInt32 >>> ((8 : Int32) &&& 31).toUInt32).toInt32)
        · exact chars_lo ((i4.toUInt32 >>> ((16 : Int32) &&& 31).toUInt32).toInt32)
        · exact chars_lo ((i4.toUInt32 >>> ((24 : Int32) &&& 31).toUInt32).toInt32)
        · exact chars_lo i5
        · exact chars_lo ((i5.toUInt32 >>> ((8 : Int32) &&& 31).toUInt32).toInt32)
        · exact chars_lo ((i5.toUInt32 >>> ((16 : Int32) &&& 31).toUInt32).toInt32)
      exact P195 _ _ _ _ _ b441 k441 (i0 &&& (3 : Int32)) (7 : Int32) (nar .char ((i4 &&& (255 : Int32)).toUInt32.toUInt16.toUInt32.toInt32)) (nar .char ((((i4.toUInt32 >>> ((8 : Int32) &&& 31).toUInt32).toInt32) &&& (255 : Int32)).toUInt32.toUInt16.toUInt32.toInt32)) (nar .char ((((i4.toUInt32 >>> ((16 : Int32) &&& 31).toUInt32).toInt32) &&& (255 : Int32)).toUInt32.toUInt16.toUInt32.toInt32)) (nar .char ((((i4.toUInt32 >>> ((24 : Int32) &&& 31).toUInt32).toInt32) &&& (255 : Int32)).toUInt32.toUInt16.toUInt32.toInt32)) (nar .char ((i5 &&& (255 : Int32)).toUInt32.toUInt16.toUInt32.toInt32)) (nar .char ((((i5.toUInt32 >>> ((8 : Int32) &&& 31).toUInt32).toInt32) &&& (255 : Int32)).toUInt32.toUInt16.toUInt32.toInt32)) (nar .char ((((i5.toUInt32 >>> ((16 : Int32) &&& 31).toUInt32).toInt32) &&& (255 : Int32)).toUInt32.toUInt16.toUInt32.toInt32)) (Stand_grow X456 (by decide) (by decide)) e456 N456 K457 O457 hS0 (Nat.le_trans (Nat.le_refl _) (Nat.le_trans (Nat.le_trans (Nat.le_trans (Nat.le_trans (Nat.le_trans (Nat.le_trans (Nat.le_trans E441.1 (Keep.of_wr W444).1) (Keep.of_wr W446).1) (Keep.of_wr W448).1) (Keep.of_wr W450).1) (Keep.of_wr W452).1) (Keep.of_wr W454).1) (Keep.of_wr W456).1)) hZ hown (((((((R442.trans R445).trans R447).trans R449).trans R451).trans R453).trans R455).trans R457) V456 (hn) (by decide) (Nat.le_trans (Nat.le_refl _) (Nat.le_of_eq g441.symm))
set_option maxRecDepth 65536 in
set_option maxHeartbeats 40000000 in
theorem comes_1 {Post : Tables → Env → Array Value → State → Outcome → State → Prop} (hpost : ∀ tb e args s v u, (limb_1_1.after args s (.returned v) u = true ∧ limb_1_2.after args s (.returned v) u = true ∧ True) → ReturnedEndW s (.returned v) u (Jvm.fieldLocs frame_1_writes args s ++ Jvm.arrayLocs frame_1_arrays args s ++ Jvm.staticLocs frame_1_statics s) 32 3264 → Post tb e args s (.returned v) u) :
    ArmFor flags0 classFile x code maxLocals ret World_1 tables_1 room_1 Calls_1 rest_1 Pre_1 Post := by
  intro l hfl _ _ p e ha hc hk s m args below hf hA hF happ hP
  obtain ⟨hcalls, hrest, hpre⟩ := hP
  obtain ⟨-, -, -, hnamed, -, -, -, hat⟩ := (Spec.applies_iff hf).mp happ
  obtain ⟨hg, hn⟩ := and_e (Cond.before_iff.mp (show (Jvm.Cond.and given_1 narrow_1).before args s = true from hpre))
  obtain ⟨hcount, r0⟩ := and_e hg
  obtain ⟨k0, r1⟩ := and_e r0
  obtain ⟨k1, r2⟩ := and_e r1
  obtain ⟨k2, r3⟩ := and_e r2
  obtain ⟨k3, r4⟩ := and_e r3
  obtain ⟨k4, r5⟩ := and_e r4
  obtain ⟨w0, w1, w2, w3, w4, w5, rfl⟩ : ∃ w0 w1 w2 w3 w4 w5 : Value, args = #[w0, w1, w2, w3, w4, w5] := by
    have hs : args.size = 6 := by simpa [Cond.value, given_1] using hcount
    obtain ⟨L⟩ := args
    match L, hs with
    | [w0, w1, w2, w3, w4, w5], _ => exact ⟨w0, w1, w2, w3, w4, w5, rfl⟩
  have hw := fun d (hd : d ∈ tables_1) => atoms_spec (ws := Jvm.Cond.code x code maxLocals ret :: tables_1) hat d (List.mem_cons_of_mem _ hd)
  obtain ⟨i0, e0⟩ := is_v k0
  obtain rfl : w0 = (.int i0) := Option.some.inj e0
  obtain ⟨i1, e1⟩ := is_v k1
  obtain rfl : w1 = (.int i1) := Option.some.inj e1
  obtain ⟨i2, e2⟩ := is_v k2
  obtain rfl : w2 = (.int i2) := Option.some.inj e2
  obtain ⟨i3, e3⟩ := is_v k3
  obtain rfl : w3 = (.int i3) := Option.some.inj e3
  obtain ⟨i4, e4⟩ := is_v k4
  obtain rfl : w4 = (.int i4) := Option.some.inj e4
  obtain ⟨i5, e5⟩ := is_v r5
  obtain rfl : w5 = (.int i5) := Option.some.inj e5
  obtain ⟨hsets, hown0⟩ := atoms_of _ (rest_1_c_eq ▸ (show rest_1_c.before _ s = true from hrest))
  have n5 := not_v (Cond.before_iff.mp (hsets _ (List.mem_of_getElem? (i := 2) rfl)))
  obtain ⟨G1, eG1⟩ := is_v (Cond.before_iff.mp (hsets _ (List.mem_of_getElem? (i := 1) rfl)))
  have O2 : Sta s s.heap "java/lang/String" "COMPACT_STRINGS" "Z" (.int G1) := Sta.start eG1 (Or.inl (hsets _ (List.mem_of_getElem? (i := 0) rfl)))
  obtain ⟨G3, eG3, rG3⟩ := isR_v (Cond.before_iff.mp (hsets _ (List.mem_of_getElem? (i := 8) rfl)))
  have O4 : Sta s s.heap "jdk/internal/util/Preconditions" "SIOOBE_FORMATTER" "Ljava/util/function/BiFunction;" G3 := Sta.start eG3 (Or.inl (hsets _ (List.mem_of_getElem? (i := 7) rfl)))
  have P5 : ¬ (G1 = (0 : Int32)) := gotF (Cond.eq_ints eG1 (Term.int_eval (0))) n5
  have hfit : Fit s := fun {y c} hc i hi => by
    obtain ⟨ha, rfl⟩ := Array.getElem?_eq_some_iff.mp hc
    have q := List.all_eq_true.mp ((Array.all_eq_true_iff_forall_mem.mp hF) _ (Array.getElem_mem ha)) i (List.mem_range.mpr hi)
    simpa [Array.getElem?_eq_getElem hi] using q
  have hheld : ∀ p ∈ EL, Jvm.Lit.constHeld s p.1 p.2 := fun p hp => hcalls.1 p hp
  obtain ⟨m0, z0⟩ := and_e hn
  obtain ⟨m1, z1⟩ := and_e z0
  obtain ⟨m2, z2⟩ := and_e z1
  obtain ⟨m3, z3⟩ := and_e z2
  obtain ⟨m4, z4⟩ := and_e z3
  obtain ⟨m5, z5⟩ := and_e z4
  obtain ⟨m6, z6⟩ := and_e z5
  obtain ⟨m7, z7⟩ := and_e z6
  obtain ⟨m8, z8⟩ := and_e z7
  obtain ⟨m9, z9⟩ := and_e z8
  obtain ⟨m10, z10⟩ := and_e z9
  obtain ⟨m11, z11⟩ := and_e z10
  obtain ⟨m12, z12⟩ := and_e z11
  obtain ⟨m13, z13⟩ := and_e z12
  obtain ⟨m14, z14⟩ := and_e z13
  obtain ⟨m15, z15⟩ := and_e z14
  obtain ⟨m16, z16⟩ := and_e z15
  obtain ⟨m17, z17⟩ := and_e z16
  obtain ⟨m18, z18⟩ := and_e z17
  obtain ⟨m19, z19⟩ := and_e z18
  obtain ⟨m20, z20⟩ := and_e z19
  obtain ⟨m21, z21⟩ := and_e z20
  obtain ⟨m22, z22⟩ := and_e z21
  obtain ⟨m23, z23⟩ := and_e z22
  obtain ⟨m24, z24⟩ := and_e z23
  have m25 := z24
  obtain ⟨va, ev⟩ := exa_v m1; obtain ⟨pa, ep⟩ := exa_v m3; obtain ⟨oa, eo⟩ := exa_v m5; obtain ⟨pl, epl⟩ := exa_v m7; obtain ⟨ol, eol⟩ := exa_v m11; obtain ⟨pv, epv⟩ := arr_v m9; obtain ⟨ov, eov⟩ := arr_v m13
  have s11 := Cond.before_iff.mp (hsets _ (List.mem_of_getElem? (i := 11) rfl))
  have s12 := Cond.before_iff.mp (hsets _ (List.mem_of_getElem? (i := 12) rfl))
  obtain ⟨em, eem⟩ := exa_v s11
  obtain ⟨kv, OV⟩ := own_arv (vs := [.ref pa, .ref oa]) (dv := .null) hfit ev m0 m2 (by decide) rfl (fun c hc => ⟨own_el (own_eqR m4 ep) ev hc (by decide), own_el (own_eqR m6 eo) ev hc (by decide), trivial⟩)
  obtain ⟨kp, LB4⟩ := own_arv (vs := B8 PER) (dv := .int 0) hfit epv m9 m10 (by decide) rfl (fun c hc => b8per ▸ ⟨own_el (own_eqI m15) epv hc (by decide), own_el (own_eqI m16) epv hc (by decide), own_el (own_eqI m17) epv hc (by decide), own_el (own_eqI m18) epv hc (by decide), own_el (own_eqI m19) epv hc (by decide), own_el (own_eqI m20) epv hc (by decide), trivial⟩)
  obtain ⟨ko, LB9⟩ := own_arv (vs := B8 OTH) (dv := .int 0) hfit eov m13 m14 (by decide) rfl (fun c hc => b8oth ▸ ⟨own_el (own_eqI m21) eov hc (by decide), own_el (own_eqI m22) eov hc (by decide), own_el (own_eqI m23) eov hc (by decide), own_el (own_eqI m24) eov hc (by decide), own_el (own_eqI m25) eov hc (by decide), trivial⟩)
  have hCH : CHv s EL s.vm s.heap := CHv.start (hEW hw) hheld (hsets _ (List.mem_of_getElem? (i := 2) rfl)) (ostr hw _ (List.mem_of_getElem? (i := 2) rfl)) (ostr hw _ (List.mem_of_getElem? (i := 1) rfl))
  obtain ⟨n, o, h1, h2, h3, _, L, rfl, ⟨rfl, N, -⟩, -, hq⟩ := rm_law l s _ hw tables_1 i0 i1 i2 i3 i4 i5 em va kv pa oa pl pv kp ol ov ko G1 s.heap s.heap.size (Nat.le_refl _) (Sta.start ev (Or.inl (ow71 hw))) OV (Exa.start ev m1) (Fld.start ((fld_at ep).symm.trans epl)) (Exa.start epl m7) (Fld.start ((fld_at epl).symm.trans (own_eqI m8))) (Fld.start ((fld_at epl).symm.trans epv)) LB4 (Fld.start ((fld_at eo).symm.trans eol)) (Exa.start eol m11) (Fld.start ((fld_at eol).symm.trans (own_eqI m12))) (Fld.start ((fld_at eol).symm.trans eov)) LB9 (Sta.start eem (Or.inl (hsets _ (List.mem_of_getElem? (i := 10) rfl)))) (Exa.start eem s11) (Fld.start ((fld_at eem).symm.trans (null_v s12))) (Sta.start ep (Or.inr ⟨(ow50 hw), (ow69 hw)⟩)) (Sta.start eo (Or.inr ⟨(ow50 hw), (ow70 hw)⟩)) O2 P5 (Old.start s) p e ha hc hk s m _ below hf ((Spec.applies_iff_loose hf).mp happ).1 ⟨rfl, State.Warmed39.refl s, rfl, hCH⟩ trivial
  refine ⟨n, _, h1, h2, h3, hpost _ _ _ _ _ _ ⟨Cond.after_iff.mpr rfl, Cond.after_iff.mpr (eq_i res_at (Term.int_eval (1)) rfl), trivial⟩ ⟨hq.1, hq.2.1, hq.2.2.1, (hq.2.2.2.sift fun y hy => Or.inr (N y hy)).mono (by decide) (by decide)⟩⟩
theorem main_1_1 : Claimed_1_1 := comes_1 fun _ _ _ _ _ _ h hF => ⟨h.1, hF⟩
theorem main_1_2 : Claimed_1_2 := comes_1 fun _ _ _ _ _ _ h hF => ⟨h.2.1, hF⟩
end Jvm.Pilot.@@N@@
namespace Jvm.Pilot.@@N@@
open Jvm Jvm.ClassFile Sem Op Lib Jvm.Free Jvm.Stand Jvm.Pilot.@@N@@.Jvm.D
/-! MADE BY PROGRAM (witnessworld.py) out of the Statement's table words and the real class files: 24 classes; the members and pool entries that the words name. The judged class is class 1, her method 1. -/
namespace start1
open Jvm.ClassFile
def u (s : String) : CpInfo := .utf8 (stringToUtf16 s)
/-- a pool by its gaps: so many unusable entries, then the entry; so many at the end -/
def gap : Nat → List CpInfo → List CpInfo
  | 0, r => r
  | n + 1, r => .unusable :: gap n r
def poolList (es : List (Nat × CpInfo)) (last : Nat) : List CpInfo := es.foldr (fun e r => gap e.1 (e.2 :: r)) (gap last [])
def pool (es : List (Nat × CpInfo)) (last : Nat) : Array CpInfo := ⟨poolList es last⟩
def fileOf (pool : Array CpInfo) (this : Nat) (attrs : Array Attribute := #[]) (ms : Array MethodInfo := #[]) (fl : Nat := 33) (sup : Nat := 0) (ifs : Array Nat := #[]) (fds : Array FieldInfo := #[]) : ClassFile where
  minorVersion := 0
  majorVersion := 65
  constantPool := pool
  accessFlags := fl
  thisClass := this
  superClass := sup
  interfaces := ifs
  fields := fds
  methods := ms
  attributes := attrs
def plain (name : String) (sup : Option ClassId) : Class where
  name := name
  kind := .ordinary
  loader := none
  accessFlags := 33
  super := sup
  interfaces := #[]
  cf := none
  fields := #[]
  methods := #[]
  instanceTypes := #[]
  staticTypes := #[]
  resolved := #[]
  callSites := []
  init := .initialized
  statics := none
  mirror := none

def pool0 : Array CpInfo := pool [(5, u "<init>"), (0, u "()V"), (1, .class_ 10), (1, u "java/lang/Object"), (85, u "clone"), (0, u "()Ljava/lang/Object;")] 26

def k0c0 : Code := { maxStack := 0, maxLocals := 1, code := object_method_1_code, exceptionTable := #[], attributes := #[] }
def k0m0 : Method := { name := "<init>", desc := "()V", sig := { parameters := [], returnType := none }, accessFlags := 1, code := some k0c0 }
def k0m1 : Method := { name := "clone", desc := "()Ljava/lang/Object;", sig := { parameters := [], returnType := some (.object "java/lang/Object") }, accessFlags := 260, code := none }
/-- java/lang/Object -/
def k0 : Class := { plain "java/lang/Object" none with
  accessFlags := 33
  interfaces := #[]
  cf := some (fileOf pool0 8 #[] #[{ accessFlags := 1, nameIndex := 5, descriptorIndex := 6, attributes := #[] }, { accessFlags := 260, nameIndex := 96, descriptorIndex := 97, attributes := #[] }] 33 0 #[] #[])
  fields := #[]
  methods := #[k0m0, k0m1]
  instanceTypes := #[]
  staticTypes := #[]
  resolved := Array.replicate 124 none
  statics := none }

def pool1 : Array CpInfo := pool [(2, .class_ 4), (1, u "java/lang/Object"), (0, u "<init>"), (0, u "()V"), (0, .integer 2147483647), (0, .methodref 9 10), (0, .class_ 11), (0, .nameAndType 12 13), (0, u "com/example/antecedent/antecedent/EntityTypeForLabelPinLaw"), (0, u "make"), (0, u "([CI)Ljava/lang/String;"), (0, .string 15), (0, u "person"), (0, .methodref 17 18), (0, .class_ 19), (0, .nameAndType 20 21), (0, u "java/lang/String"), (0, u "equals"), (0, u "(Ljava/lang/Object;)Z"), (0, .string 23), (0, u "other"), (0, .methodref 25 26), (0, .class_ 27), (0, .nameAndType 28 29), (0, u "com/example/antecedent/antecedent/EntityType"), (0, u "forLabel"), (0, u "(Ljava/lang/String;)Ljava/util/Optional;"), (0, .methodref 31 32), (0, .class_ 33), (0, .nameAndType 34 35), (0, u "java/util/Optional"), (0, u "isPresent"), (0, u "()Z"), (0, .methodref 31 37), (0, .nameAndType 38 39), (0, u "get"), (0, u "()Ljava/lang/Object;"), (0, .fieldref 25 41), (0, .nameAndType 42 43), (0, u "PERSON"), (0, u "Lcom/example/antecedent/antecedent/EntityType;"), (0, .fieldref 25 45), (0, .nameAndType 46 43), (0, u "OTHER"), (0, .methodref 17 48), (0, .nameAndType 5 49), (0, u "([C)V"), (2, u "law"), (0, u "(IIIIII)Z")] 5

def k1m0 : Method := { name := "<init>", desc := "()V", sig := { parameters := [], returnType := none }, accessFlags := 2, code := none }
def k1c1 : Code := { maxStack := 4, maxLocals := 13, code := code, exceptionTable := #[], attributes := #[] }
def k1m1 : Method := { name := "law", desc := "(IIIIII)Z", sig := { parameters := [.int, .int, .int, .int, .int, .int], returnType := some .boolean }, accessFlags := 9, code := some k1c1 }
def k1c2 : Code := { maxStack := 7, maxLocals := 2, code := method_3_code, exceptionTable := #[], attributes := #[] }
def k1m2 : Method := { name := "make", desc := "([CI)Ljava/lang/String;", sig := { parameters := [(.array .char), .int], returnType := some (.object "java/lang/String") }, accessFlags := 10, code := some k1c2 }
/-- com/example/antecedent/antecedent/EntityTypeForLabelPinLaw -/
def k1 : Class := { plain "com/example/antecedent/antecedent/EntityTypeForLabelPinLaw" (some 0) with
  accessFlags := 49
  interfaces := #[]
  cf := some (fileOf pool1 9 #[] #[{ accessFlags := 2, nameIndex := 5, descriptorIndex := 6, attributes := #[] }, { accessFlags := 9, nameIndex := 52, descriptorIndex := 53, attributes := #[] }, { accessFlags := 10, nameIndex := 12, descriptorIndex := 13, attributes := #[] }] 49 2 #[] #[])
  fields := #[]
  methods := #[k1m0, k1m1, k1m2]
  instanceTypes := #[]
  staticTypes := #[]
  resolved := Array.replicate 59 none
  statics := none }

def pool2 : Array CpInfo := pool [(1, .class_ 2), (0, u "java/io/Serializable"), (0, .class_ 4), (0, u "java/lang/Object")] 2

/-- java/io/Serializable -/
def k2 : Class := { plain "java/io/Serializable" (some 0) with
  accessFlags := 1537
  interfaces := #[]
  cf := some (fileOf pool2 1 #[] #[] 1537 3 #[] #[])
  fields := #[]
  methods := #[]
  instanceTypes := #[]
  staticTypes := #[]
  resolved := Array.replicate 7 none
  statics := none }

def pool3 : Array CpInfo := pool [(1, .class_ 2), (0, u "java/lang/Comparable"), (0, .class_ 4), (0, u "java/lang/Object")] 7

/-- java/lang/Comparable -/
def k3 : Class := { plain "java/lang/Comparable" (some 0) with
  accessFlags := 1537
  interfaces := #[]
  cf := some (fileOf pool3 1 #[] #[] 1537 3 #[] #[])
  fields := #[]
  methods := #[]
  instanceTypes := #[]
  staticTypes := #[]
  resolved := Array.replicate 12 none
  statics := none }

def pool4 : Array CpInfo := pool [(2, .class_ 4), (1, u "java/lang/CharSequence"), (42, .class_ 48), (0, u "java/lang/CharSequence$1CodePointIterator"), (10, .class_ 60), (0, u "java/lang/CharSequence$1CharIterator"), (5, .class_ 67), (0, u "java/lang/Object")] 63

/-- java/lang/CharSequence -/
def k4 : Class := { plain "java/lang/CharSequence" (some 0) with
  accessFlags := 1537
  interfaces := #[]
  cf := some (fileOf pool4 2 #[.nestMembers #[47, 59]] #[] 1537 66 #[] #[])
  fields := #[]
  methods := #[]
  instanceTypes := #[]
  staticTypes := #[]
  resolved := Array.replicate 131 none
  statics := none }

def pool5 : Array CpInfo := pool [(1, .class_ 2), (0, u "java/lang/constant/Constable"), (0, .class_ 4), (0, u "java/lang/Object")] 6

/-- java/lang/constant/Constable -/
def k5 : Class := { plain "java/lang/constant/Constable" (some 0) with
  accessFlags := 1537
  interfaces := #[]
  cf := some (fileOf pool5 1 #[] #[] 1537 3 #[] #[])
  fields := #[]
  methods := #[]
  instanceTypes := #[]
  staticTypes := #[]
  resolved := Array.replicate 11 none
  statics := none }

def pool6 : Array CpInfo := pool [(1, .class_ 2), (0, u "java/lang/constant/ConstantDesc"), (0, .class_ 4), (0, u "java/lang/Object")] 32

/-- java/lang/constant/ConstantDesc -/
def k6 : Class := { plain "java/lang/constant/ConstantDesc" (some 0) with
  accessFlags := 1537
  interfaces := #[]
  cf := some (fileOf pool6 1 #[] #[] 1537 3 #[] #[])
  fields := #[]
  methods := #[]
  instanceTypes := #[]
  staticTypes := #[]
  resolved := Array.replicate 37 none
  statics := none }

def pool7 : Array CpInfo := pool [(1, .methodref 2 3), (0, .class_ 4), (0, .nameAndType 5 6), (0, u "java/lang/Object"), (0, u "<init>"), (0, u "()V"), (0, .string 8), (0, u ""), (0, .fieldref 10 11), (0, .class_ 12), (0, .nameAndType 13 14), (0, u "java/lang/String"), (0, u "value"), (0, u "[B"), (0, .fieldref 10 16), (0, .nameAndType 17 18), (0, u "coder"), (0, u "B"), (2, u "hash"), (0, u "I"), (2, u "hashIsZero"), (0, u "Z"), (0, .methodref 10 28), (0, .nameAndType 5 29), (0, u "([CIILjava/lang/Void;)V"), (8, .fieldref 10 39), (0, .nameAndType 40 26), (0, u "COMPACT_STRINGS"), (1, .class_ 44), (1, u "java/lang/StringUTF16"), (0, u "compress"), (1, .methodref 42 48), (0, .nameAndType 49 50), (0, u "coderFromArrayLen"), (0, u "([BI)B"), (56, .class_ 109), (1, u "java/lang/StringLatin1"), (67, .methodref 42 178), (0, .nameAndType 45 179), (0, u "([CII)[B"), (361, .methodref 107 542), (0, .nameAndType 543 544), (0, u "equals"), (0, u "([B[B)Z"), (28, u "(Ljava/lang/Object;)Z"), (1, .class_ 576), (0, u "java/lang/CharSequence"), (22, u "CASE_INSENSITIVE_ORDER"), (0, u "Ljava/util/Comparator;"), (409, u "([C)V"), (90, u "serialPersistentFields"), (0, u "[Ljava/io/ObjectStreamField;"), (0, .class_ 1104), (0, u "java/lang/String$CaseInsensitiveComparator"), (1, .class_ 1107), (0, u "java/io/Serializable"), (0, .class_ 1109), (0, u "java/lang/Comparable"), (0, .class_ 1111), (0, u "java/lang/constant/Constable"), (0, .class_ 1113), (0, u "java/lang/constant/ConstantDesc"), (2, u "serialVersionUID"), (0, u "J"), (3, u "REPL"), (0, u "C"), (2, u "LATIN1"), (1, u "UTF16")] 323

def k7m0 : Method := { name := "<init>", desc := "()V", sig := { parameters := [], returnType := none }, accessFlags := 1, code := none }
def k7c1 : Code := { maxStack := 5, maxLocals := 2, code := jdk_42_method_3_code, exceptionTable := #[], attributes := #[] }
def k7m1 : Method := { name := "<init>", desc := "([C)V", sig := { parameters := [(.array .char)], returnType := none }, accessFlags := 1, code := some k7c1 }
def k7c2 : Code := { maxStack := 2, maxLocals := 3, code := jdk_42_method_66_code, exceptionTable := #[], attributes := #[] }
def k7m2 : Method := { name := "equals", desc := "(Ljava/lang/Object;)Z", sig := { parameters := [(.object "java/lang/Object")], returnType := some .boolean }, accessFlags := 1, code := some k7c2 }
def k7c3 : Code := { maxStack := 4, maxLocals := 6, code := jdk_42_method_149_code, exceptionTable := #[], attributes := #[] }
def k7m3 : Method := { name := "<init>", desc := "([CIILjava/lang/Void;)V", sig := { parameters := [(.array .char), .int, .int, (.object "java/lang/Void")], returnType := none }, accessFlags := 2, code := some k7c3 }
/-- java/lang/String -/
def k7 : Class := { plain "java/lang/String" (some 0) with
  accessFlags := 49
  interfaces := #[2, 3, 4, 5, 6]
  cf := some (fileOf pool7 10 #[.nestMembers #[1103]] #[{ accessFlags := 1, nameIndex := 5, descriptorIndex := 6, attributes := #[] }, { accessFlags := 1, nameIndex := 5, descriptorIndex := 1010, attributes := #[] }, { accessFlags := 1, nameIndex := 543, descriptorIndex := 573, attributes := #[] }, { accessFlags := 2, nameIndex := 5, descriptorIndex := 29, attributes := #[] }] 49 2 #[1106, 1108, 575, 1110, 1112] #[{ accessFlags := 18, nameIndex := 13, descriptorIndex := 14, attributes := #[] }, { accessFlags := 18, nameIndex := 17, descriptorIndex := 18, attributes := #[] }, { accessFlags := 2, nameIndex := 21, descriptorIndex := 22, attributes := #[] }, { accessFlags := 2, nameIndex := 25, descriptorIndex := 26, attributes := #[] }, { accessFlags := 26, nameIndex := 1116, descriptorIndex := 1117, attributes := #[] }, { accessFlags := 24, nameIndex := 40, descriptorIndex := 26, attributes := #[] }, { accessFlags := 26, nameIndex := 1101, descriptorIndex := 1102, attributes := #[] }, { accessFlags := 26, nameIndex := 1121, descriptorIndex := 1122, attributes := #[] }, { accessFlags := 25, nameIndex := 599, descriptorIndex := 600, attributes := #[] }, { accessFlags := 24, nameIndex := 1125, descriptorIndex := 18, attributes := #[] }, { accessFlags := 24, nameIndex := 1127, descriptorIndex := 18, attributes := #[] }])
  fields := #[{ name := "value", type := (.array .byte), accessFlags := 18, slot := 0, constantValue := 0 }, { name := "coder", type := .byte, accessFlags := 18, slot := 1, constantValue := 0 }, { name := "hash", type := .int, accessFlags := 2, slot := 2, constantValue := 0 }, { name := "hashIsZero", type := .boolean, accessFlags := 2, slot := 3, constantValue := 0 }, { name := "serialVersionUID", type := .long, accessFlags := 26, slot := 0, constantValue := 0 }, { name := "COMPACT_STRINGS", type := .boolean, accessFlags := 24, slot := 1, constantValue := 0 }, { name := "serialPersistentFields", type := (.array (.object "java/io/ObjectStreamField")), accessFlags := 26, slot := 2, constantValue := 0 }, { name := "REPL", type := .char, accessFlags := 26, slot := 3, constantValue := 0 }, { name := "CASE_INSENSITIVE_ORDER", type := (.object "java/util/Comparator"), accessFlags := 25, slot := 4, constantValue := 0 }, { name := "LATIN1", type := .byte, accessFlags := 24, slot := 5, constantValue := 0 }, { name := "UTF16", type := .byte, accessFlags := 24, slot := 6, constantValue := 0 }]
  methods := #[k7m0, k7m1, k7m2, k7m3]
  instanceTypes := #[(.array .byte), .byte, .int, .boolean]
  staticTypes := #[.long, .boolean, (.array (.object "java/io/ObjectStreamField")), .char, (.object "java/util/Comparator"), .byte, .byte]
  resolved := Array.replicate 1451 none
  statics := some 0 }

def pool8 : Array CpInfo := pool [(6, .class_ 8), (1, u "java/lang/Object"), (0, u "<init>"), (0, u "()V"), (1, .class_ 14), (1, u "java/lang/StringUTF16"), (31, u "$assertionsDisabled"), (0, u "Z"), (13, u "HI_BYTE_SHIFT"), (0, u "I"), (2, u "LO_BYTE_SHIFT"), (49, .methodref 12 116), (0, .nameAndType 117 118), (0, u "compress"), (0, u "([CI[BII)I"), (3, u "([CII)[B"), (138, u "coderFromArrayLen"), (0, u "([BI)B"), (106, .class_ 371), (1, u "java/lang/StringUTF16$LinesSpliterator"), (58, u "MAX_LENGTH"), (196, .class_ 628), (0, u "java/lang/StringUTF16$CodePointsSpliterator"), (0, .class_ 630), (0, u "java/lang/StringUTF16$CharsSpliterator")] 4

def k8m0 : Method := { name := "<init>", desc := "()V", sig := { parameters := [], returnType := none }, accessFlags := 0, code := none }
def k8c1 : Code := { maxStack := 2, maxLocals := 2, code := jdk_52_method_15_code, exceptionTable := #[], attributes := #[] }
def k8m1 : Method := { name := "coderFromArrayLen", desc := "([BI)B", sig := { parameters := [(.array .byte), .int], returnType := some .byte }, accessFlags := 8, code := some k8c1 }
def k8c2 : Code := { maxStack := 5, maxLocals := 6, code := jdk_52_method_16_code, exceptionTable := #[], attributes := #[] }
def k8m2 : Method := { name := "compress", desc := "([CII)[B", sig := { parameters := [(.array .char), .int, .int], returnType := some (.array .byte) }, accessFlags := 9, code := some k8c2 }
def k8c3 : Code := { maxStack := 3, maxLocals := 7, code := jdk_52_method_21_code, exceptionTable := #[], attributes := #[] }
def k8m3 : Method := { name := "compress", desc := "([CI[BII)I", sig := { parameters := [(.array .char), .int, (.array .byte), .int, .int], returnType := some .int }, accessFlags := 9, code := some k8c3 }
/-- java/lang/StringUTF16 -/
def k8 : Class := { plain "java/lang/StringUTF16" (some 0) with
  accessFlags := 48
  interfaces := #[]
  cf := some (fileOf pool8 12 #[.nestMembers #[627, 629, 369]] #[{ accessFlags := 0, nameIndex := 9, descriptorIndex := 10, attributes := #[] }, { accessFlags := 8, nameIndex := 261, descriptorIndex := 262, attributes := #[] }, { accessFlags := 9, nameIndex := 117, descriptorIndex := 122, attributes := #[] }, { accessFlags := 9, nameIndex := 117, descriptorIndex := 118, attributes := #[] }] 48 6 #[] #[{ accessFlags := 26, nameIndex := 61, descriptorIndex := 62, attributes := #[] }, { accessFlags := 26, nameIndex := 65, descriptorIndex := 62, attributes := #[] }, { accessFlags := 24, nameIndex := 430, descriptorIndex := 62, attributes := #[] }, { accessFlags := 4120, nameIndex := 46, descriptorIndex := 47, attributes := #[] }])
  fields := #[{ name := "HI_BYTE_SHIFT", type := .int, accessFlags := 26, slot := 0, constantValue := 0 }, { name := "LO_BYTE_SHIFT", type := .int, accessFlags := 26, slot := 1, constantValue := 0 }, { name := "MAX_LENGTH", type := .int, accessFlags := 24, slot := 2, constantValue := 0 }, { name := "$assertionsDisabled", type := .boolean, accessFlags := 4120, slot := 3, constantValue := 0 }]
  methods := #[k8m0, k8m1, k8m2, k8m3]
  instanceTypes := #[]
  staticTypes := #[.int, .int, .int, .boolean]
  resolved := Array.replicate 635 none
  statics := none }

def pool9 : Array CpInfo := pool [(4, .class_ 6), (1, u "java/lang/Object"), (0, u "<init>"), (0, u "()V"), (5, .class_ 16), (1, u "java/lang/StringLatin1"), (104, u "$assertionsDisabled"), (0, u "Z"), (98, .class_ 223), (1, u "java/lang/StringLatin1$LinesSpliterator"), (57, u "equals"), (0, u "([B[B)Z"), (107, .class_ 391), (0, u "java/lang/StringLatin1$CharsSpliterator")] 3

def k9m0 : Method := { name := "<init>", desc := "()V", sig := { parameters := [], returnType := none }, accessFlags := 0, code := none }
def k9c1 : Code := { maxStack := 3, maxLocals := 3, code := jdk_43_method_13_code, exceptionTable := #[], attributes := #[] }
def k9m1 : Method := { name := "equals", desc := "([B[B)Z", sig := { parameters := [(.array .byte), (.array .byte)], returnType := some .boolean }, accessFlags := 9, code := some k9c1 }
/-- java/lang/StringLatin1 -/
def k9 : Class := { plain "java/lang/StringLatin1" (some 0) with
  accessFlags := 48
  interfaces := #[]
  cf := some (fileOf pool9 14 #[.nestMembers #[390, 221]] #[{ accessFlags := 0, nameIndex := 7, descriptorIndex := 8, attributes := #[] }, { accessFlags := 9, nameIndex := 281, descriptorIndex := 282, attributes := #[] }] 48 4 #[] #[{ accessFlags := 4120, nameIndex := 121, descriptorIndex := 122, attributes := #[] }])
  fields := #[{ name := "$assertionsDisabled", type := .boolean, accessFlags := 4120, slot := 0, constantValue := 0 }]
  methods := #[k9m0, k9m1]
  instanceTypes := #[]
  staticTypes := #[.boolean]
  resolved := Array.replicate 395 none
  statics := none }

def pool10 : Array CpInfo := pool [(2, .class_ 4), (1, u "java/lang/Enum"), (0, u "name"), (0, u "Ljava/lang/String;"), (2, u "ordinal"), (0, u "I"), (1, .class_ 14), (1, u "java/lang/Object"), (4, u "hash"), (86, .class_ 108), (1, u "java/lang/Enum$EnumDesc"), (2, .class_ 112), (0, u "java/lang/constant/Constable"), (0, .class_ 114), (0, u "java/lang/Comparable"), (0, .class_ 116), (0, u "java/io/Serializable")] 87

/-- java/lang/Enum -/
def k10 : Class := { plain "java/lang/Enum" (some 0) with
  accessFlags := 1057
  interfaces := #[5, 3, 2]
  cf := some (fileOf pool10 2 #[.nestMembers #[106]] #[] 1057 12 #[111, 113, 115] #[{ accessFlags := 18, nameIndex := 5, descriptorIndex := 6, attributes := #[] }, { accessFlags := 18, nameIndex := 9, descriptorIndex := 10, attributes := #[] }, { accessFlags := 2, nameIndex := 19, descriptorIndex := 10, attributes := #[] }])
  fields := #[{ name := "name", type := (.object "java/lang/String"), accessFlags := 18, slot := 0, constantValue := 0 }, { name := "ordinal", type := .int, accessFlags := 18, slot := 1, constantValue := 0 }, { name := "hash", type := .int, accessFlags := 2, slot := 2, constantValue := 0 }]
  methods := #[]
  instanceTypes := #[(.object "java/lang/String"), .int, .int]
  staticTypes := #[]
  resolved := Array.replicate 204 none
  statics := none }

def pool11 : Array CpInfo := pool [(1, .class_ 2), (0, u "com/example/antecedent/antecedent/EntityType"), (2, u "PERSON"), (0, u "Lcom/example/antecedent/antecedent/EntityType;"), (2, u "OTHER"), (0, .fieldref 1 11), (0, .nameAndType 12 13), (0, u "$VALUES"), (0, u "[Lcom/example/antecedent/antecedent/EntityType;"), (0, .methodref 15 16), (0, .class_ 13), (0, .nameAndType 17 18), (0, u "clone"), (0, u "()Ljava/lang/Object;"), (1, .class_ 22), (1, u "java/lang/Enum"), (6, .fieldref 1 30), (0, .nameAndType 31 32), (0, u "label"), (0, u "Ljava/lang/String;"), (2, u "pronouns"), (0, u "Ljava/util/List;"), (2, u "nounPhrases"), (0, u "Z"), (2, u "gendered"), (0, .methodref 45 46), (0, .class_ 47), (0, .nameAndType 48 49), (0, u "java/util/Optional"), (0, u "empty"), (0, u "()Ljava/util/Optional;"), (0, .methodref 1 51), (0, .nameAndType 52 53), (0, u "values"), (0, u "()[Lcom/example/antecedent/antecedent/EntityType;"), (0, .methodref 55 56), (0, .class_ 57), (0, .nameAndType 58 59), (0, u "java/lang/String"), (0, u "equals"), (0, u "(Ljava/lang/Object;)Z"), (0, .methodref 45 61), (0, .nameAndType 62 63), (0, u "of"), (0, u "(Ljava/lang/Object;)Ljava/util/Optional;"), (2, u "forLabel"), (0, u "(Ljava/lang/String;)Ljava/util/Optional;")] 106

def k11c0 : Code := { maxStack := 1, maxLocals := 0, code := prog_4_method_1_code, exceptionTable := #[], attributes := #[] }
def k11m0 : Method := { name := "values", desc := "()[Lcom/example/antecedent/antecedent/EntityType;", sig := { parameters := [], returnType := some (.array (.object "com/example/antecedent/antecedent/EntityType")) }, accessFlags := 9, code := some k11c0 }
def k11c1 : Code := { maxStack := 2, maxLocals := 6, code := prog_4_method_4_code, exceptionTable := #[], attributes := #[] }
def k11m1 : Method := { name := "forLabel", desc := "(Ljava/lang/String;)Ljava/util/Optional;", sig := { parameters := [(.object "java/lang/String")], returnType := some (.object "java/util/Optional") }, accessFlags := 9, code := some k11c1 }
/-- com/example/antecedent/antecedent/EntityType -/
def k11 : Class := { plain "com/example/antecedent/antecedent/EntityType" (some 10) with
  accessFlags := 16433
  interfaces := #[]
  cf := some (fileOf pool11 1 #[] #[{ accessFlags := 9, nameIndex := 52, descriptorIndex := 53, attributes := #[] }, { accessFlags := 9, nameIndex := 66, descriptorIndex := 67, attributes := #[] }] 16433 20 #[] #[{ accessFlags := 16409, nameIndex := 5, descriptorIndex := 6, attributes := #[] }, { accessFlags := 16409, nameIndex := 9, descriptorIndex := 6, attributes := #[] }, { accessFlags := 18, nameIndex := 31, descriptorIndex := 32, attributes := #[] }, { accessFlags := 18, nameIndex := 35, descriptorIndex := 36, attributes := #[] }, { accessFlags := 18, nameIndex := 39, descriptorIndex := 40, attributes := #[] }, { accessFlags := 18, nameIndex := 43, descriptorIndex := 40, attributes := #[] }, { accessFlags := 4122, nameIndex := 12, descriptorIndex := 13, attributes := #[] }])
  fields := #[{ name := "PERSON", type := (.object "com/example/antecedent/antecedent/EntityType"), accessFlags := 16409, slot := 0, constantValue := 0 }, { name := "OTHER", type := (.object "com/example/antecedent/antecedent/EntityType"), accessFlags := 16409, slot := 1, constantValue := 0 }, { name := "label", type := (.object "java/lang/String"), accessFlags := 18, slot := 3, constantValue := 0 }, { name := "pronouns", type := (.object "java/util/List"), accessFlags := 18, slot := 4, constantValue := 0 }, { name := "nounPhrases", type := .boolean, accessFlags := 18, slot := 5, constantValue := 0 }, { name := "gendered", type := .boolean, accessFlags := 18, slot := 6, constantValue := 0 }, { name := "$VALUES", type := (.array (.object "com/example/antecedent/antecedent/EntityType")), accessFlags := 4122, slot := 2, constantValue := 0 }]
  methods := #[k11m0, k11m1]
  instanceTypes := #[(.object "java/lang/String"), .int, .int, (.object "java/lang/String"), (.object "java/util/List"), .boolean, .boolean]
  staticTypes := #[(.object "com/example/antecedent/antecedent/EntityType"), (.object "com/example/antecedent/antecedent/EntityType"), (.array (.object "com/example/antecedent/antecedent/EntityType"))]
  resolved := Array.replicate 174 none
  statics := some 1 }

def pool12 : Array CpInfo := pool [(1, .fieldref 2 3), (0, .class_ 4), (0, .nameAndType 5 6), (0, u "java/util/Optional"), (0, u "EMPTY"), (0, u "Ljava/util/Optional;"), (0, .methodref 8 9), (0, .class_ 10), (0, .nameAndType 11 12), (0, u "java/lang/Object"), (0, u "<init>"), (0, u "()V"), (0, .fieldref 2 14), (0, .nameAndType 15 16), (0, u "value"), (0, u "Ljava/lang/Object;"), (0, .methodref 18 19), (0, .class_ 20), (0, .nameAndType 21 22), (0, u "java/util/Objects"), (0, u "requireNonNull"), (0, u "(Ljava/lang/Object;)Ljava/lang/Object;"), (0, .methodref 2 24), (0, .nameAndType 11 25), (0, u "(Ljava/lang/Object;)V"), (20, u "()Z"), (8, u "empty"), (0, u "()Ljava/util/Optional;"), (8, u "(Ljava/lang/Object;)Ljava/util/Optional;"), (2, u "isPresent"), (4, u "get"), (0, u "()Ljava/lang/Object;"), (7, u "of")] 104

def k12c0 : Code := { maxStack := 1, maxLocals := 1, code := jdk_32_method_1_code, exceptionTable := #[], attributes := #[] }
def k12m0 : Method := { name := "empty", desc := "()Ljava/util/Optional;", sig := { parameters := [], returnType := some (.object "java/util/Optional") }, accessFlags := 9, code := some k12c0 }
def k12c1 : Code := { maxStack := 2, maxLocals := 2, code := jdk_32_method_2_code, exceptionTable := #[], attributes := #[] }
def k12m1 : Method := { name := "<init>", desc := "(Ljava/lang/Object;)V", sig := { parameters := [(.object "java/lang/Object")], returnType := none }, accessFlags := 2, code := some k12c1 }
def k12c2 : Code := { maxStack := 3, maxLocals := 1, code := jdk_32_method_3_code, exceptionTable := #[], attributes := #[] }
def k12m2 : Method := { name := "of", desc := "(Ljava/lang/Object;)Ljava/util/Optional;", sig := { parameters := [(.object "java/lang/Object")], returnType := some (.object "java/util/Optional") }, accessFlags := 9, code := some k12c2 }
def k12c3 : Code := { maxStack := 3, maxLocals := 1, code := jdk_32_method_5_code, exceptionTable := #[], attributes := #[] }
def k12m3 : Method := { name := "get", desc := "()Ljava/lang/Object;", sig := { parameters := [], returnType := some (.object "java/lang/Object") }, accessFlags := 1, code := some k12c3 }
def k12c4 : Code := { maxStack := 1, maxLocals := 1, code := jdk_32_method_6_code, exceptionTable := #[], attributes := #[] }
def k12m4 : Method := { name := "isPresent", desc := "()Z", sig := { parameters := [], returnType := some .boolean }, accessFlags := 1, code := some k12c4 }
/-- java/util/Optional -/
def k12 : Class := { plain "java/util/Optional" (some 0) with
  accessFlags := 49
  interfaces := #[]
  cf := some (fileOf pool12 2 #[] #[{ accessFlags := 9, nameIndex := 55, descriptorIndex := 56, attributes := #[] }, { accessFlags := 2, nameIndex := 11, descriptorIndex := 25, attributes := #[] }, { accessFlags := 9, nameIndex := 82, descriptorIndex := 65, attributes := #[] }, { accessFlags := 1, nameIndex := 73, descriptorIndex := 74, attributes := #[] }, { accessFlags := 1, nameIndex := 68, descriptorIndex := 46, attributes := #[] }] 49 8 #[] #[{ accessFlags := 26, nameIndex := 5, descriptorIndex := 6, attributes := #[] }, { accessFlags := 18, nameIndex := 15, descriptorIndex := 16, attributes := #[] }])
  fields := #[{ name := "EMPTY", type := (.object "java/util/Optional"), accessFlags := 26, slot := 0, constantValue := 0 }, { name := "value", type := (.object "java/lang/Object"), accessFlags := 18, slot := 0, constantValue := 0 }]
  methods := #[k12m0, k12m1, k12m2, k12m3, k12m4]
  instanceTypes := #[(.object "java/lang/Object")]
  staticTypes := #[(.object "java/util/Optional")]
  resolved := Array.replicate 187 none
  statics := some 2 }

def pool13 : Array CpInfo := pool [(1, .class_ 2), (0, u "java/lang/Cloneable"), (0, .class_ 4), (0, u "java/lang/Object")] 2

/-- java/lang/Cloneable -/
def k13 : Class := { plain "java/lang/Cloneable" (some 0) with
  accessFlags := 1537
  interfaces := #[]
  cf := some (fileOf pool13 1 #[] #[] 1537 3 #[] #[])
  fields := #[]
  methods := #[]
  instanceTypes := #[]
  staticTypes := #[]
  resolved := Array.replicate 7 none
  statics := none }

def pool14 : Array CpInfo := pool [(2, .class_ 4), (1, u "java/lang/Object"), (0, u "<init>"), (0, u "()V"), (35, .class_ 44), (1, u "java/util/Objects"), (0, u "requireNonNull"), (0, u "(Ljava/lang/Object;)Ljava/lang/Object;")] 137

def k14m0 : Method := { name := "<init>", desc := "()V", sig := { parameters := [], returnType := none }, accessFlags := 2, code := none }
def k14c1 : Code := { maxStack := 2, maxLocals := 1, code := jdk_31_method_10_code, exceptionTable := #[], attributes := #[] }
def k14m1 : Method := { name := "requireNonNull", desc := "(Ljava/lang/Object;)Ljava/lang/Object;", sig := { parameters := [(.object "java/lang/Object")], returnType := some (.object "java/lang/Object") }, accessFlags := 9, code := some k14c1 }
/-- java/util/Objects -/
def k14 : Class := { plain "java/util/Objects" (some 0) with
  accessFlags := 49
  interfaces := #[]
  cf := some (fileOf pool14 42 #[] #[{ accessFlags := 2, nameIndex := 5, descriptorIndex := 6, attributes := #[] }, { accessFlags := 9, nameIndex := 45, descriptorIndex := 46, attributes := #[] }] 49 2 #[] #[])
  fields := #[]
  methods := #[k14m0, k14m1]
  instanceTypes := #[]
  staticTypes := #[]
  resolved := Array.replicate 184 none
  statics := none }

def pool15 : Array CpInfo := pool [(2, .class_ 4), (1, u "java/lang/Object"), (0, u "<init>"), (0, u "()V"), (17, .class_ 26), (1, u "jdk/internal/util/Preconditions"), (28, .class_ 56), (0, u "jdk/internal/util/Preconditions$4"), (57, .class_ 115), (0, u "jdk/internal/util/Preconditions$1"), (7, u "SIOOBE_FORMATTER"), (0, u "Ljava/util/function/BiFunction;"), (0, .class_ 126), (0, u "jdk/internal/util/Preconditions$2"), (3, u "AIOOBE_FORMATTER"), (0, .class_ 132), (0, u "jdk/internal/util/Preconditions$3"), (3, u "IOOBE_FORMATTER")] 57

def k15m0 : Method := { name := "<init>", desc := "()V", sig := { parameters := [], returnType := none }, accessFlags := 1, code := none }
/-- jdk/internal/util/Preconditions -/
def k15 : Class := { plain "jdk/internal/util/Preconditions" (some 0) with
  accessFlags := 33
  interfaces := #[]
  cf := some (fileOf pool15 24 #[.nestMembers #[55, 131, 125, 114]] #[{ accessFlags := 1, nameIndex := 5, descriptorIndex := 6, attributes := #[] }] 33 2 #[] #[{ accessFlags := 25, nameIndex := 123, descriptorIndex := 124, attributes := #[] }, { accessFlags := 25, nameIndex := 130, descriptorIndex := 124, attributes := #[] }, { accessFlags := 25, nameIndex := 136, descriptorIndex := 124, attributes := #[] }])
  fields := #[{ name := "SIOOBE_FORMATTER", type := (.object "java/util/function/BiFunction"), accessFlags := 25, slot := 0, constantValue := 0 }, { name := "AIOOBE_FORMATTER", type := (.object "java/util/function/BiFunction"), accessFlags := 25, slot := 1, constantValue := 0 }, { name := "IOOBE_FORMATTER", type := (.object "java/util/function/BiFunction"), accessFlags := 25, slot := 2, constantValue := 0 }]
  methods := #[k15m0]
  instanceTypes := #[]
  staticTypes := #[(.object "java/util/function/BiFunction"), (.object "java/util/function/BiFunction"), (.object "java/util/function/BiFunction")]
  resolved := Array.replicate 194 none
  statics := some 3 }

def pool16 : Array CpInfo := pool [(9, u "<init>"), (6, .class_ 18), (1, u "java/lang/Object"), (0, u "()V"), (1, .class_ 23), (1, u "jdk/internal/util/ArraysSupport"), (0, u "LOG2_ARRAY_LONG_INDEX_SCALE"), (0, u "I"), (2, u "U"), (0, u "Ljdk/internal/misc/Unsafe;"), (8, u "BIG_ENDIAN"), (0, u "Z"), (8, u "LOG2_BYTE_BIT_SIZE"), (4, u "LOG2_ARRAY_INT_INDEX_SCALE"), (54, u "JLA"), (0, u "Ljdk/internal/access/JavaLangAccess;"), (11, u "LOG2_ARRAY_BOOLEAN_INDEX_SCALE"), (9, u "LOG2_ARRAY_BYTE_INDEX_SCALE"), (5, u "LOG2_ARRAY_CHAR_INDEX_SCALE"), (5, u "LOG2_ARRAY_SHORT_INDEX_SCALE"), (18, u "LOG2_ARRAY_FLOAT_INDEX_SCALE"), (24, u "LOG2_ARRAY_DOUBLE_INDEX_SCALE"), (89, u "T_BOOLEAN"), (2, u "T_CHAR"), (1, u "T_FLOAT"), (1, u "T_DOUBLE"), (1, u "T_BYTE"), (1, u "T_SHORT"), (1, u "T_INT"), (1, u "T_LONG"), (1, u "SOFT_MAX_ARRAY_LENGTH")] 83

def k16m0 : Method := { name := "<init>", desc := "()V", sig := { parameters := [], returnType := none }, accessFlags := 2, code := none }
/-- jdk/internal/util/ArraysSupport -/
def k16 : Class := { plain "jdk/internal/util/ArraysSupport" (some 0) with
  accessFlags := 33
  interfaces := #[]
  cf := some (fileOf pool16 21 #[] #[{ accessFlags := 2, nameIndex := 9, descriptorIndex := 19, attributes := #[] }] 33 16 #[] #[{ accessFlags := 24, nameIndex := 28, descriptorIndex := 29, attributes := #[] }, { accessFlags := 26, nameIndex := 38, descriptorIndex := 39, attributes := #[] }, { accessFlags := 25, nameIndex := 121, descriptorIndex := 25, attributes := #[] }, { accessFlags := 25, nameIndex := 131, descriptorIndex := 25, attributes := #[] }, { accessFlags := 25, nameIndex := 137, descriptorIndex := 25, attributes := #[] }, { accessFlags := 25, nameIndex := 143, descriptorIndex := 25, attributes := #[] }, { accessFlags := 25, nameIndex := 53, descriptorIndex := 25, attributes := #[] }, { accessFlags := 25, nameIndex := 24, descriptorIndex := 25, attributes := #[] }, { accessFlags := 25, nameIndex := 162, descriptorIndex := 25, attributes := #[] }, { accessFlags := 25, nameIndex := 187, descriptorIndex := 25, attributes := #[] }, { accessFlags := 26, nameIndex := 48, descriptorIndex := 25, attributes := #[] }, { accessFlags := 25, nameIndex := 277, descriptorIndex := 25, attributes := #[] }, { accessFlags := 25, nameIndex := 280, descriptorIndex := 25, attributes := #[] }, { accessFlags := 25, nameIndex := 282, descriptorIndex := 25, attributes := #[] }, { accessFlags := 25, nameIndex := 284, descriptorIndex := 25, attributes := #[] }, { accessFlags := 25, nameIndex := 286, descriptorIndex := 25, attributes := #[] }, { accessFlags := 25, nameIndex := 288, descriptorIndex := 25, attributes := #[] }, { accessFlags := 25, nameIndex := 290, descriptorIndex := 25, attributes := #[] }, { accessFlags := 25, nameIndex := 292, descriptorIndex := 25, attributes := #[] }, { accessFlags := 26, nameIndex := 108, descriptorIndex := 109, attributes := #[] }, { accessFlags := 25, nameIndex := 294, descriptorIndex := 25, attributes := #[] }])
  fields := #[{ name := "U", type := (.object "jdk/internal/misc/Unsafe"), accessFlags := 24, slot := 0, constantValue := 0 }, { name := "BIG_ENDIAN", type := .boolean, accessFlags := 26, slot := 1, constantValue := 0 }, { name := "LOG2_ARRAY_BOOLEAN_INDEX_SCALE", type := .int, accessFlags := 25, slot := 2, constantValue := 0 }, { name := "LOG2_ARRAY_BYTE_INDEX_SCALE", type := .int, accessFlags := 25, slot := 3, constantValue := 0 }, { name := "LOG2_ARRAY_CHAR_INDEX_SCALE", type := .int, accessFlags := 25, slot := 4, constantValue := 0 }, { name := "LOG2_ARRAY_SHORT_INDEX_SCALE", type := .int, accessFlags := 25, slot := 5, constantValue := 0 }, { name := "LOG2_ARRAY_INT_INDEX_SCALE", type := .int, accessFlags := 25, slot := 6, constantValue := 0 }, { name := "LOG2_ARRAY_LONG_INDEX_SCALE", type := .int, accessFlags := 25, slot := 7, constantValue := 0 }, { name := "LOG2_ARRAY_FLOAT_INDEX_SCALE", type := .int, accessFlags := 25, slot := 8, constantValue := 0 }, { name := "LOG2_ARRAY_DOUBLE_INDEX_SCALE", type := .int, accessFlags := 25, slot := 9, constantValue := 0 }, { name := "LOG2_BYTE_BIT_SIZE", type := .int, accessFlags := 26, slot := 10, constantValue := 0 }, { name := "T_BOOLEAN", type := .int, accessFlags := 25, slot := 11, constantValue := 0 }, { name := "T_CHAR", type := .int, accessFlags := 25, slot := 12, constantValue := 0 }, { name := "T_FLOAT", type := .int, accessFlags := 25, slot := 13, constantValue := 0 }, { name := "T_DOUBLE", type := .int, accessFlags := 25, slot := 14, constantValue := 0 }, { name := "T_BYTE", type := .int, accessFlags := 25, slot := 15, constantValue := 0 }, { name := "T_SHORT", type := .int, accessFlags := 25, slot := 16, constantValue := 0 }, { name := "T_INT", type := .int, accessFlags := 25, slot := 17, constantValue := 0 }, { name := "T_LONG", type := .int, accessFlags := 25, slot := 18, constantValue := 0 }, { name := "JLA", type := (.object "jdk/internal/access/JavaLangAccess"), accessFlags := 26, slot := 19, constantValue := 0 }, { name := "SOFT_MAX_ARRAY_LENGTH", type := .int, accessFlags := 25, slot := 20, constantValue := 0 }]
  methods := #[k16m0]
  instanceTypes := #[]
  staticTypes := #[(.object "jdk/internal/misc/Unsafe"), .boolean, .int, .int, .int, .int, .int, .int, .int, .int, .int, .int, .int, .int, .int, .int, .int, .int, .int, (.object "jdk/internal/access/JavaLangAccess"), .int]
  resolved := Array.replicate 378 none
  statics := none }

/-- the primitive byte -/
def k17 : Class := { plain "byte" none with kind := .primitive 'B', accessFlags := 0x411 }
/-- [B -/
def k18 : Class := { plain "[B" (some 0) with kind := .array 17 .byte, interfaces := #[13, 2], accessFlags := 1041 }

/-- the primitive char -/
def k19 : Class := { plain "char" none with kind := .primitive 'C', accessFlags := 0x411 }
/-- [C -/
def k20 : Class := { plain "[C" (some 0) with kind := .array 19 .char, interfaces := #[13, 2], accessFlags := 1041 }

/-- the primitive int -/
def k21 : Class := { plain "int" none with kind := .primitive 'I', accessFlags := 0x411 }
/-- [I -/
def k22 : Class := { plain "[I" (some 0) with kind := .array 21 .int, interfaces := #[13, 2], accessFlags := 1041 }

/-- [Lcom/example/antecedent/antecedent/EntityType; -/
def k23 : Class := { plain "[Lcom/example/antecedent/antecedent/EntityType;" (some 0) with kind := .array 11 (.object "com/example/antecedent/antecedent/EntityType"), interfaces := #[13, 2], accessFlags := 1041 }

def heap : Heap := #[{ cls := 7, slots := #[.long 0, .int 1, .null, .int 0, .null, .int 0, .int 0], vm := .statics 7 },
  { cls := 11, slots := #[.ref 5, .ref 6, .ref 4], vm := .statics 11 },
  { cls := 12, slots := #[.ref 11], vm := .statics 12 },
  { cls := 15, slots := #[.null, .null, .null], vm := .statics 15 },
  { cls := 23, slots := #[.ref 5, .ref 6], vm := .none },
  { cls := 11, slots := #[.null, .int 0, .int 0, .ref 7, .null, .int 0, .int 0], vm := .none },
  { cls := 11, slots := #[.null, .int 1, .int 0, .ref 8, .null, .int 0, .int 0], vm := .none },
  { cls := 7, slots := #[.ref 9, .int 0, .int 0, .int 0], vm := .none },
  { cls := 7, slots := #[.ref 10, .int 0, .int 0, .int 0], vm := .none },
  { cls := 18, slots := #[.int 112, .int 101, .int 114, .int 115, .int 111, .int 110], vm := .none },
  { cls := 18, slots := #[.int 111, .int 116, .int 104, .int 101, .int 114], vm := .none },
  { cls := 12, slots := #[.null], vm := .none }]
def classes : Array Class := #[k0, k1, k2, k3, k4, k5, k6, k7, k8, k9, k10, k11, k12, k13, k14, k15, k16, k17, k18, k19, k20, k21, k22, k23]
def interned : List (Array UInt16 × Addr) := []
def slotsUsed : Nat := 50
def theMethod : MethodId := ⟨1, 1⟩
def args0 : Array Value := #[.int 5, .int 5, .int 5, .int 5, .int 5, .int 5]
def aboutOver (below : List Frame) : State where
  vm := { classes := classes, interned := interned.toArray }
  heap := heap
  slotsUsed := slotsUsed
  threads := #[{ frames := .invoking theMethod args0 :: below }]
def below0 : List Frame := [.native { method := ⟨0, 0⟩, args := #[] }]
def about1 : State := aboutOver below0
def p0 : Program := .bare "" "" ""
def e0 : Env := launch0.env 0 0 0
theorem w_frames : about1.frames = Frame.invoking theMethod args0 :: below0 := rfl
set_option maxRecDepth 65536 in
theorem w_args : argsFit about1.vm theMethod args0 = true := by decide +kernel
set_option maxRecDepth 65536 in
theorem w_heap : heapFits about1 = true := by decide +kernel
set_option maxRecDepth 65536 in
theorem w_runnable : about1.curStatus? = some .runnable := by decide +kernel
set_option maxRecDepth 65536 in
theorem w_alone : about1.alone = true := by decide +kernel
set_option maxRecDepth 65536 in
theorem w_named : about1.methodNamed? x = some theMethod := by decide +kernel
set_option maxRecDepth 65536 in
theorem w_hears : about1.hears theMethod below0 = true := by decide +kernel
set_option maxRecDepth 65536 in
theorem w_ripe : about1.ripe theMethod args0 below0 = true := by decide +kernel
theorem w_running : about1.status = .running := rfl
set_option maxRecDepth 65536 in
theorem w_room : about1.hasRoom e0.platform room_1 = true :=
  launch0.hasRoom_least _ room_1 (by decide +kernel) (by decide +kernel) (by decide +kernel) (by decide +kernel) (by decide +kernel) (by decide +kernel)
theorem allAtoms_all (ts : List Jvm.Cond) (a : Array Jvm.Value) (st : Jvm.State) : (allAtoms ts).before a st = ts.all (fun c => c.before a st) := by
  induction ts with
  | nil => rfl
  | cons c t ih =>
    show (Jvm.Cond.and c (allAtoms t)).before a st = _
    rw [Jvm.Cond.before_and, ih, List.all_cons]
def words1 : List Jvm.Cond := Jvm.Cond.code x code maxLocals ret :: tables_1
/-- a 'code' word, met by the world's own term for the bytes: nothing is compared byte by byte -/
theorem code_word {y : MethodName} {bytes : ByteArray} {mx : Nat} {rt : Option FieldType} {a : Array Value} {s : State} {m : MethodId} {meth : Method} {c : Code} (h1 : s.methodNamed? y = some m) (h2 : s.vm.method? m = some meth) (h3 : meth.code = some c) (h4 : c.code = bytes)
    (h5 : (c.maxLocals == mx && c.exceptionTable.isEmpty && decide (c.maxStack ≤ mostOperands) && decide (meth.sig.returnType = rt) && !meth.locks && decide (parseMethodDescriptor y.desc = some meth.sig)) = true) : (Jvm.Cond.code y bytes mx rt).before a s = true := by
  simp only [Bool.and_eq_true, beq_iff_eq, Bool.not_eq_true', decide_eq_true_eq] at h5
  obtain ⟨⟨⟨⟨⟨g1, g2⟩, g3⟩, g4⟩, g5⟩, g6⟩ := h5
  simp [Cond.before, Cond.holds, Cond.value, h1, h2, h3, h4, g1, g2, g3, g4, g5, g6]
def isCode : Jvm.Cond → Bool
  | .code _ _ _ _ => true
  | _ => false
theorem all_split {L : List Jvm.Cond} {P : Jvm.Cond → Bool} (h1 : L.all (fun c => isCode c || P c) = true) (h2 : ∀ c ∈ L.filter isCode, P c = true) : L.all P = true := by
  refine List.all_eq_true.mpr fun c hc => ?_
  have h := List.all_eq_true.mp h1 c hc
  rcases Bool.eq_false_or_eq_true (isCode c) with hi | hi
  · exact h2 c (List.mem_filter.mpr ⟨hc, hi⟩)
  · simpa [hi] using h
set_option maxRecDepth 65536 in
theorem w_c0 : (Jvm.Cond.code x code maxLocals ret).before args0 about1 = true := code_word (m := ⟨1, 1⟩) (meth := k1m1) (c := k1c1) (by decide +kernel) rfl rfl rfl (by decide +kernel)
set_option maxRecDepth 65536 in
theorem w_c1 : (Jvm.Cond.code ({ cls := "com/example/antecedent/antecedent/EntityTypeForLabelPinLaw", name := "make", desc := "([CI)Ljava/lang/String;" } : Jvm.MethodName) method_3_code (2 : Nat) (Option.some (Jvm.ClassFile.FieldType.object "java/lang/String"))).before args0 about1 = true := code_word (m := ⟨1, 2⟩) (meth := k1m2) (c := k1c2) (by decide +kernel) rfl rfl rfl (by decide +kernel)
set_option maxRecDepth 65536 in
theorem w_c2 : (Jvm.Cond.code ({ cls := "java/lang/String", name := "<init>", desc := "([C)V" } : Jvm.MethodName) jdk_42_method_3_code (2 : Nat) (Option.none : Option Jvm.ClassFile.FieldType)).before args0 about1 = true := code_word (m := ⟨7, 1⟩) (meth := k7m1) (c := k7c1) (by decide +kernel) rfl rfl rfl (by decide +kernel)
set_option maxRecDepth 65536 in
theorem w_c3 : (Jvm.Cond.code ({ cls := "java/lang/String", name := "<init>", desc := "([CIILjava/lang/Void;)V" } : Jvm.MethodName) jdk_42_method_149_code (6 : Nat) (Option.none : Option Jvm.ClassFile.FieldType)).before args0 about1 = true := code_word (m := ⟨7, 3⟩) (meth := k7m3) (c := k7c3) (by decide +kernel) rfl rfl rfl (by decide +kernel)
set_option maxRecDepth 65536 in
theorem w_c4 : (Jvm.Cond.code ({ cls := "java/lang/Object", name := "<init>", desc := "()V" } : Jvm.MethodName) object_method_1_code (1 : Nat) (Option.none : Option Jvm.ClassFile.FieldType)).before args0 about1 = true := code_word (m := ⟨0, 0⟩) (meth := k0m0) (c := k0c0) (by decide +kernel) rfl rfl rfl (by decide +kernel)
set_option maxRecDepth 65536 in
theorem w_c5 : (Jvm.Cond.code ({ cls := "java/lang/StringUTF16", name := "compress", desc := "([CII)[B" } : Jvm.MethodName) jdk_52_method_16_code (6 : Nat) (Option.some (Jvm.ClassFile.FieldType.array Jvm.ClassFile.FieldType.byte))).before args0 about1 = true := code_word (m := ⟨8, 2⟩) (meth := k8m2) (c := k8c2) (by decide +kernel) rfl rfl rfl (by decide +kernel)
set_option maxRecDepth 65536 in
theorem w_c6 : (Jvm.Cond.code ({ cls := "java/lang/StringUTF16", name := "compress", desc := "([CI[BII)I" } : Jvm.MethodName) jdk_52_method_21_code (7 : Nat) (Option.some Jvm.ClassFile.FieldType.int)).before args0 about1 = true := code_word (m := ⟨8, 3⟩) (meth := k8m3) (c := k8c3) (by decide +kernel) rfl rfl rfl (by decide +kernel)
set_option maxRecDepth 65536 in
theorem w_c7 : (Jvm.Cond.code ({ cls := "java/lang/StringUTF16", name := "coderFromArrayLen", desc := "([BI)B" } : Jvm.MethodName) jdk_52_method_15_code (2 : Nat) (Option.some Jvm.ClassFile.FieldType.byte)).before args0 about1 = true := code_word (m := ⟨8, 1⟩) (meth := k8m1) (c := k8c1) (by decide +kernel) rfl rfl rfl (by decide +kernel)
set_option maxRecDepth 65536 in
theorem w_c8 : (Jvm.Cond.code ({ cls := "java/lang/String", name := "equals", desc := "(Ljava/lang/Object;)Z" } : Jvm.MethodName) jdk_42_method_66_code (3 : Nat) (Option.some Jvm.ClassFile.FieldType.boolean)).before args0 about1 = true := code_word (m := ⟨7, 2⟩) (meth := k7m2) (c := k7c2) (by decide +kernel) rfl rfl rfl (by decide +kernel)
set_option maxRecDepth 65536 in
theorem w_c9 : (Jvm.Cond.code ({ cls := "java/lang/StringLatin1", name := "equals", desc := "([B[B)Z" } : Jvm.MethodName) jdk_43_method_13_code (3 : Nat) (Option.some Jvm.ClassFile.FieldType.boolean)).before args0 about1 = true := code_word (m := ⟨9, 1⟩) (meth := k9m1) (c := k9c1) (by decide +kernel) rfl rfl rfl (by decide +kernel)
set_option maxRecDepth 65536 in
theorem w_c10 : (Jvm.Cond.code ({ cls := "com/example/antecedent/antecedent/EntityType", name := "forLabel", desc := "(Ljava/lang/String;)Ljava/util/Optional;" } : Jvm.MethodName) prog_4_method_4_code (6 : Nat) (Option.some (Jvm.ClassFile.FieldType.object "java/util/Optional"))).before args0 about1 = true := code_word (m := ⟨11, 1⟩) (meth := k11m1) (c := k11c1) (by decide +kernel) rfl rfl rfl (by decide +kernel)
set_option maxRecDepth 65536 in
theorem w_c11 : (Jvm.Cond.code ({ cls := "java/util/Optional", name := "empty", desc := "()Ljava/util/Optional;" } : Jvm.MethodName) jdk_32_method_1_code (1 : Nat) (Option.some (Jvm.ClassFile.FieldType.object "java/util/Optional"))).before args0 about1 = true := code_word (m := ⟨12, 0⟩) (meth := k12m0) (c := k12c0) (by decide +kernel) rfl rfl rfl (by decide +kernel)
set_option maxRecDepth 65536 in
theorem w_c12 : (Jvm.Cond.code ({ cls := "com/example/antecedent/antecedent/EntityType", name := "values", desc := "()[Lcom/example/antecedent/antecedent/EntityType;" } : Jvm.MethodName) prog_4_method_1_code (0 : Nat) (Option.some (Jvm.ClassFile.FieldType.array (Jvm.ClassFile.FieldType.object "com/example/antecedent/antecedent/EntityType")))).before args0 about1 = true := code_word (m := ⟨11, 0⟩) (meth := k11m0) (c := k11c0) (by decide +kernel) rfl rfl rfl (by decide +kernel)
set_option maxRecDepth 65536 in
theorem w_c13 : (Jvm.Cond.code ({ cls := "java/util/Optional", name := "isPresent", desc := "()Z" } : Jvm.MethodName) jdk_32_method_6_code (1 : Nat) (Option.some Jvm.ClassFile.FieldType.boolean)).before args0 about1 = true := code_word (m := ⟨12, 4⟩) (meth := k12m4) (c := k12c4) (by decide +kernel) rfl rfl rfl (by decide +kernel)
set_option maxRecDepth 65536 in
theorem w_c14 : (Jvm.Cond.code ({ cls := "java/util/Optional", name := "of", desc := "(Ljava/lang/Object;)Ljava/util/Optional;" } : Jvm.MethodName) jdk_32_method_3_code (1 : Nat) (Option.some (Jvm.ClassFile.FieldType.object "java/util/Optional"))).before args0 about1 = true := code_word (m := ⟨12, 2⟩) (meth := k12m2) (c := k12c2) (by decide +kernel) rfl rfl rfl (by decide +kernel)
set_option maxRecDepth 65536 in
theorem w_c15 : (Jvm.Cond.code ({ cls := "java/util/Objects", name := "requireNonNull", desc := "(Ljava/lang/Object;)Ljava/lang/Object;" } : Jvm.MethodName) jdk_31_method_10_code (1 : Nat) (Option.some (Jvm.ClassFile.FieldType.object "java/lang/Object"))).before args0 about1 = true := code_word (m := ⟨14, 1⟩) (meth := k14m1) (c := k14c1) (by decide +kernel) rfl rfl rfl (by decide +kernel)
set_option maxRecDepth 65536 in
theorem w_c16 : (Jvm.Cond.code ({ cls := "java/util/Optional", name := "<init>", desc := "(Ljava/lang/Object;)V" } : Jvm.MethodName) jdk_32_method_2_code (2 : Nat) (Option.none : Option Jvm.ClassFile.FieldType)).before args0 about1 = true := code_word (m := ⟨12, 1⟩) (meth := k12m1) (c := k12c1) (by decide +kernel) rfl rfl rfl (by decide +kernel)
set_option maxRecDepth 65536 in
theorem w_c17 : (Jvm.Cond.code ({ cls := "java/util/Optional", name := "get", desc := "()Ljava/lang/Object;" } : Jvm.MethodName) jdk_32_method_5_code (1 : Nat) (Option.some (Jvm.ClassFile.FieldType.object "java/lang/Object"))).before args0 about1 = true := code_word (m := ⟨12, 3⟩) (meth := k12m3) (c := k12c3) (by decide +kernel) rfl rfl rfl (by decide +kernel)
def codes1 : List Jvm.Cond := [Jvm.Cond.code x code maxLocals ret, Jvm.Cond.code ({ cls := "com/example/antecedent/antecedent/EntityTypeForLabelPinLaw", name := "make", desc := "([CI)Ljava/lang/String;" } : Jvm.MethodName) method_3_code (2 : Nat) (Option.some (Jvm.ClassFile.FieldType.object "java/lang/String")), Jvm.Cond.code ({ cls := "java/lang/String", name := "<init>", desc := "([C)V" } : Jvm.MethodName) jdk_42_method_3_code (2 : Nat) (Option.none : Option Jvm.ClassFile.FieldType), Jvm.Cond.code ({ cls := "java/lang/String", name := "<init>", desc := "([CIILjava/lang/Void;)V" } : Jvm.MethodName) jdk_42_method_149_code (6 : Nat) (Option.none : Option Jvm.ClassFile.FieldType), Jvm.Cond.code ({ cls := "java/lang/Object", name := "<init>", desc := "()V" } : Jvm.MethodName) object_method_1_code (1 : Nat) (Option.none : Option Jvm.ClassFile.FieldType), Jvm.Cond.code ({ cls := "java/lang/StringUTF16", name := "compress", desc := "([CII)[B" } : Jvm.MethodName) jdk_52_method_16_code (6 : Nat) (Option.some (Jvm.ClassFile.FieldType.array Jvm.ClassFile.FieldType.byte)), Jvm.Cond.code ({ cls := "java/lang/StringUTF16", name := "compress", desc := "([CI[BII)I" } : Jvm.MethodName) jdk_52_method_21_code (7 : Nat) (Option.some Jvm.ClassFile.FieldType.int), Jvm.Cond.code ({ cls := "java/lang/StringUTF16", name := "coderFromArrayLen", desc := "([BI)B" } : Jvm.MethodName) jdk_52_method_15_code (2 : Nat) (Option.some Jvm.ClassFile.FieldType.byte), Jvm.Cond.code ({ cls := "java/lang/String", name := "equals", desc := "(Ljava/lang/Object;)Z" } : Jvm.MethodName) jdk_42_method_66_code (3 : Nat) (Option.some Jvm.ClassFile.FieldType.boolean), Jvm.Cond.code ({ cls := "java/lang/StringLatin1", name := "equals", desc := "([B[B)Z" } : Jvm.MethodName) jdk_43_method_13_code (3 : Nat) (Option.some Jvm.ClassFile.FieldType.boolean), Jvm.Cond.code ({ cls := "com/example/antecedent/antecedent/EntityType", name := "forLabel", desc := "(Ljava/lang/String;)Ljava/util/Optional;" } : Jvm.MethodName) prog_4_method_4_code (6 : Nat) (Option.some (Jvm.ClassFile.FieldType.object "java/util/Optional")), Jvm.Cond.code ({ cls := "java/util/Optional", name := "empty", desc := "()Ljava/util/Optional;" } : Jvm.MethodName) jdk_32_method_1_code (1 : Nat) (Option.some (Jvm.ClassFile.FieldType.object "java/util/Optional")), Jvm.Cond.code ({ cls := "com/example/antecedent/antecedent/EntityType", name := "values", desc := "()[Lcom/example/antecedent/antecedent/EntityType;" } : Jvm.MethodName) prog_4_method_1_code (0 : Nat) (Option.some (Jvm.ClassFile.FieldType.array (Jvm.ClassFile.FieldType.object "com/example/antecedent/antecedent/EntityType"))), Jvm.Cond.code ({ cls := "java/util/Optional", name := "isPresent", desc := "()Z" } : Jvm.MethodName) jdk_32_method_6_code (1 : Nat) (Option.some Jvm.ClassFile.FieldType.boolean), Jvm.Cond.code ({ cls := "java/util/Optional", name := "of", desc := "(Ljava/lang/Object;)Ljava/util/Optional;" } : Jvm.MethodName) jdk_32_method_3_code (1 : Nat) (Option.some (Jvm.ClassFile.FieldType.object "java/util/Optional")), Jvm.Cond.code ({ cls := "java/util/Objects", name := "requireNonNull", desc := "(Ljava/lang/Object;)Ljava/lang/Object;" } : Jvm.MethodName) jdk_31_method_10_code (1 : Nat) (Option.some (Jvm.ClassFile.FieldType.object "java/lang/Object")), Jvm.Cond.code ({ cls := "java/util/Optional", name := "<init>", desc := "(Ljava/lang/Object;)V" } : Jvm.MethodName) jdk_32_method_2_code (2 : Nat) (Option.none : Option Jvm.ClassFile.FieldType), Jvm.Cond.code ({ cls := "java/util/Optional", name := "get", desc := "()Ljava/lang/Object;" } : Jvm.MethodName) jdk_32_method_5_code (1 : Nat) (Option.some (Jvm.ClassFile.FieldType.object "java/lang/Object"))]
set_option maxRecDepth 65536 in
theorem codes_eq : words1.filter isCode = codes1 := rfl
theorem w_codes : ∀ c ∈ words1.filter isCode, c.before args0 about1 = true := by
  rw [codes_eq]
  intro c hc
  simp only [codes1, List.mem_cons, List.not_mem_nil, or_false] at hc
  rcases hc with rfl | rfl | rfl | rfl | rfl | rfl | rfl | rfl | rfl | rfl | rfl | rfl | rfl | rfl | rfl | rfl | rfl | rfl
  · exact w_c0
  · exact w_c1
  · exact w_c2
  · exact w_c3
  · exact w_c4
  · exact w_c5
  · exact w_c6
  · exact w_c7
  · exact w_c8
  · exact w_c9
  · exact w_c10
  · exact w_c11
  · exact w_c12
  · exact w_c13
  · exact w_c14
  · exact w_c15
  · exact w_c16
  · exact w_c17
set_option maxRecDepth 65536 in
theorem w_t1 : (words1.take 24).all (fun c => isCode c || c.before args0 about1) = true := by decide +kernel
set_option maxRecDepth 65536 in
theorem w_t2 : ((words1.drop 24).take 24).all (fun c => isCode c || c.before args0 about1) = true := by decide +kernel
set_option maxRecDepth 65536 in
theorem w_t3 : (((words1.drop 24).drop 24).take 24).all (fun c => isCode c || c.before args0 about1) = true := by decide +kernel
set_option maxRecDepth 65536 in
theorem w_t4 : ((((words1.drop 24).drop 24).drop 24).take 24).all (fun c => isCode c || c.before args0 about1) = true := by decide +kernel
set_option maxRecDepth 65536 in
theorem w_t5 : ((((words1.drop 24).drop 24).drop 24).drop 24).all (fun c => isCode c || c.before args0 about1) = true := by decide +kernel
theorem w_tables : (allAtoms (Jvm.Cond.code x code maxLocals ret :: tables_1)).before args0 about1 = true := by
  rw [allAtoms_all]
  show words1.all (fun c => c.before args0 about1) = true
  refine all_split ?_ w_codes
  rw [← List.take_append_drop 24 words1, List.all_append, w_t1, ← List.take_append_drop 24 (words1.drop 24), List.all_append, w_t2, ← List.take_append_drop 24 ((words1.drop 24).drop 24), List.all_append, w_t3, ← List.take_append_drop 24 (((words1.drop 24).drop 24).drop 24), List.all_append, w_t4, w_t5]
  rfl
set_option maxRecDepth 65536 in
theorem w_rest : rest_1_c.before args0 about1 = true := by decide +kernel
set_option maxRecDepth 65536 in
theorem w_case : (Jvm.Cond.and given_1 narrow_1).before args0 about1 = true := by decide +kernel
set_option maxRecDepth 65536 in
theorem w_consts : constsHeld consts_1 about1 := Jvm.Lit.constsHeldB_iff.mp (by decide +kernel)
theorem w_applies : (headSpec (Jvm.Cond.code x code maxLocals ret :: tables_1) room_1).applies x e0.platform about1 = true :=
  (Spec.applies_iff w_frames).mpr ⟨w_running, w_runnable, w_alone, w_named, w_hears, w_ripe, w_room, w_tables⟩
theorem atStart : AtStart classFile x code maxLocals ret World_1 tables_1 room_1 Calls_1 rest_1 Pre_1 launch0 p0 e0 about1 theMethod args0 below0 :=
  ⟨lists_1, trivial, launch0.admits_env _ _ _, launch0.least_env, fairChoices_fair.cas, fairChoices_fair.clock, w_frames, w_args, w_heap, w_applies, ⟨w_consts, trivial⟩, w_rest, w_case⟩
end start1
theorem witness_1 : WitnessClaimed_1 := ⟨start1.p0, start1.e0, start1.about1, start1.theMethod, start1.args0, start1.below0, start1.atStart⟩
end Jvm.Pilot.@@N@@
