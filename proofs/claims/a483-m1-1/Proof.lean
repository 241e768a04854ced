import JvmDerived
import JvmDerived.Pilot.@@N@@Statement
import JvmDerived.Pilot.@@N@@Code
set_option linter.unusedVariables false
set_option linter.unusedSimpArgs false
namespace Jvm.Pilot.@@N@@
open Jvm Jvm.ClassFile Sem Op Lib Jvm.Free Jvm.Stand Jvm.LawKit Jvm.RoadKit Bundle Jvm.Pilot.@@N@@.Jvm.D
/-- the road from here on ends, and G holds of its end -/
def Go (p : Program) (e : Env) (below : List Frame) (G : Outcome → State → Prop) (T : State) (g : JFrame) : Prop :=
  ∃ U o, Steps p.tables e below (T.setTop g) U ∧ U.status = .running ∧ Ended U below o ∧ G o U
/-- what a body leaves: it returned v, Q holds, the frame is kept -/
def Out (s : State) (Q : Option Value → Heap → List Loc → Prop) (C S : Nat) (o : Outcome) (U : State) : Prop :=
  ∃ v L, o = .returned v ∧ Q v U.heap L ∧ FrameEnd s o U L C S
section GoLaws
variable {p : Program} {l : Launch} {e : Env} {R : Room} {s : State} {m : MethodId} {args : Array Value} {below : List Frame} {meth : Method} {c : Code} {T T' : State} {locs : List Loc} {cells slots : Nat} {g g' : JFrame} {G : Outcome → State → Prop} {Q : Option Value → Heap → List Loc → Prop} {C S : Nat}
theorem Go.by (st : ∀ t, Steps p.tables e below (T'.setTop g') t → Steps p.tables e below (T.setTop g) t) (k : Go p e below G T' g') : Go p e below G T g := by
  obtain ⟨U, o, h, r⟩ := k
  exact ⟨U, o, st _ h, r⟩
theorem Go.tr (st : Steps p.tables e below (T.setTop g) (T'.setTop g')) (k : Go p e below G T' g') : Go p e below G T g := by
  obtain ⟨U, o, h, r⟩ := k
  exact ⟨U, o, st.trans h, r⟩
theorem Go.cast (q : g = g') (k : Go p e below G T g') : Go p e below G T g := by subst q; exact k
theorem Go.ends (X : Stand p l e R s m args below meth c T locs cells slots) {v : Option Value} (hlk : meth.locks = false) (hv : meth.sig.returnType = none → v = none)
    (st : ∀ fs, (∀ (f : JFrame) (acts : List Action), f.method = m → f.locked = none → f.entered = [] → (doReturn e (T.setTop f) acts v).1 = T.setFrames fs) → Steps p.tables e below (T.setTop g) (T.setFrames fs))
    (hQ : Q v T.heap locs) (hc : cells ≤ C) (hs : slots ≤ S) : Go p e below (Out s Q C S) T g := by
  obtain ⟨fs, hr, hrun, hended, hW, hsame⟩ := X.leave (v := v) hv hlk
  exact ⟨_, _, st fs hr, hrun, hended, _, _, rfl, hQ, ⟨_, rfl⟩, hW, hsame.mono hc hs⟩
theorem Go.ret0 (X : Stand p l e R s m args below meth c T locs cells slots) (hx : p.tables.exec = Jvm.exec) (hret : meth.sig.returnType = none) (hlk : meth.locks = false) {pc : Nat} {Ls : Array Slot} (hd : decode c.code pc = .ok (.return_, 1))
    (hQ : Q none T.heap locs) (hc : cells ≤ C) (hs : slots ≤ S) : Go p e below (Out s Q C S) T (mkF m pc Ls []) :=
  Go.ends X hlk (fun _ => rfl) (fun fs hr => X.returnOut hx hret hd hr) hQ hc hs
theorem Go.retN (X : Stand p l e R s m args below meth c T locs cells slots) (hx : p.tables.exec = Jvm.exec) {t : FieldType} (hret : meth.sig.returnType = some t) (ht : t = .boolean ∨ t = .byte ∨ t = .char ∨ t = .short) (hlk : meth.locks = false) {pc : Nat} {Ls : Array Slot} {z : Int32} {rest : List Value} (hd : decode c.code pc = .ok (.ireturn, 1))
    (hQ : Q (some (.int (nar t z))) T.heap locs) (hc : cells ≤ C) (hs : slots ≤ S) : Go p e below (Out s Q C S) T (mkF m pc Ls (.int z :: rest)) :=
  Go.ends X hlk (fun h => by rw [hret] at h; cases h) (fun fs hr => RoadKit.retN X hx hret ht hd hr) hQ hc hs
theorem Go.retI (X : Stand p l e R s m args below meth c T locs cells slots) (hx : p.tables.exec = Jvm.exec) (hret : meth.sig.returnType = some .int) (hlk : meth.locks = false) {pc : Nat} {Ls : Array Slot} {z : Int32} {rest : List Value} (hd : decode c.code pc = .ok (.ireturn, 1))
    (hQ : Q (some (.int z)) T.heap locs) (hc : cells ≤ C) (hs : slots ≤ S) : Go p e below (Out s Q C S) T (mkF m pc Ls (.int z :: rest)) :=
  Go.ends X hlk (fun h => by rw [hret] at h; cases h) (fun fs hr => retOut X hx hret rfl (Or.inl ⟨rfl, Or.inl rfl, z, rfl⟩) hd hr) hQ hc hs
theorem Go.retL (X : Stand p l e R s m args below meth c T locs cells slots) (hx : p.tables.exec = Jvm.exec) (hret : meth.sig.returnType = some .long) (hlk : meth.locks = false) {pc : Nat} {Ls : Array Slot} {z : Int64} {rest : List Value} (hd : decode c.code pc = .ok (.lreturn, 1))
    (hQ : Q (some (.long z)) T.heap locs) (hc : cells ≤ C) (hs : slots ≤ S) : Go p e below (Out s Q C S) T (mkF m pc Ls (.long z :: rest)) :=
  Go.ends X hlk (fun h => by rw [hret] at h; cases h) (fun fs hr => retOut X hx hret rfl (Or.inr (Or.inl ⟨rfl, rfl, z, rfl⟩)) hd hr) hQ hc hs
theorem Go.retD (X : Stand p l e R s m args below meth c T locs cells slots) (hx : p.tables.exec = Jvm.exec) (hret : meth.sig.returnType = some .double) (hlk : meth.locks = false) {pc : Nat} {Ls : Array Slot} {z : UInt64} {rest : List Value} (hd : decode c.code pc = .ok (.dreturn, 1))
    (hQ : Q (some (.double z)) T.heap locs) (hc : cells ≤ C) (hs : slots ≤ S) : Go p e below (Out s Q C S) T (mkF m pc Ls (.double z :: rest)) :=
  Go.ends X hlk (fun h => by rw [hret] at h; cases h) (fun fs hr => retOut X hx hret rfl (Or.inr (Or.inr (Or.inl ⟨rfl, rfl, z, rfl⟩))) hd hr) hQ hc hs
theorem Go.retR (X : Stand p l e R s m args below meth c T locs cells slots) (hx : p.tables.exec = Jvm.exec) {t : FieldType} {w : Value} (hret : meth.sig.returnType = some t) (hn : narrow t w = w) (ht : t.isReference = true) (hw : w.isRef = true) (hlk : meth.locks = false) {pc : Nat} {Ls : Array Slot} {rest : List Value} (hd : decode c.code pc = .ok (.areturn, 1))
    (hQ : Q (some w) T.heap locs) (hc : cells ≤ C) (hs : slots ≤ S) : Go p e below (Out s Q C S) T (mkF m pc Ls (w :: rest)) :=
  Go.ends X hlk (fun h => by rw [hret] at h; cases h) (fun fs hr => retOut X hx hret hn (Or.inr (Or.inr (Or.inr (Or.inr ⟨rfl, ht, hw⟩)))) hd hr) hQ hc hs
theorem Stand_grow {cells' slots' : Nat} (X : Stand p l e R s m args below meth c T locs cells slots) (hc : cells ≤ cells') (hs : slots ≤ slots') : Stand p l e R s m args below meth c T locs cells' slots' :=
  { X with same := X.same.mono hc hs }
end GoLaws
theorem ne_arv {Z : State} {h : Heap} {a b : Addr} {C : String} {a0 : Array Value} {k : Nat} {kc : ClassId} {ty : FieldType} {z : Int32} {vs : List Value} {dv : Value} (F : Exa Z h a C) (wi : (Jvm.Cond.instantiable C k).before a0 Z = true) (G : Arv Z h b kc ty z vs dv) : a ≠ b := by
  obtain ⟨c, A, -⟩ := G
  exact ne_arr F wi A
theorem chars_lo (x : Int32) : ¬ nar .char ((x &&& (255 : Int32)).toUInt32.toUInt16.toUInt32.toInt32) < 0 ∧ ¬ (255 : Int32) < nar .char ((x &&& (255 : Int32)).toUInt32.toUInt16.toUInt32.toInt32) := by
  have t : ∀ k : Fin 256, ¬ nar .char ((Int32.ofNat k.val).toUInt32.toUInt16.toUInt32.toInt32) < 0 ∧ ¬ (255 : Int32) < nar .char ((Int32.ofNat k.val).toUInt32.toUInt16.toUInt32.toInt32) := by decide +kernel
  have h : (x &&& 255).toBitVec.toNat < 256 := by
    simp only [Int32.toBitVec_and, BitVec.toNat_and]
    exact Nat.lt_succ_of_le Nat.and_le_right
  have e : (x &&& 255) = Int32.ofNat (x &&& 255).toBitVec.toNat := by
    apply Int32.toBitVec_inj.mp
    show _ = BitVec.ofNat 32 _
    rw [BitVec.ofNat_toNat]; simp
  rw [e]
  exact t ⟨_, h⟩
section Flt
open Jvm.FP Jvm.Free.Fl Jvm.FP.Core
/-- a finite double whose sign bit is 0 -/
def PF (a : UInt64) : Prop := ∃ c q, val64 a = .fin false c q
theorem PF.of {a : UInt64} (h : DFin a) (hs : sgn (val64 a) = false) : PF a := by
  obtain ⟨s, c, q, e⟩ := h
  rw [e] at hs
  exact ⟨c, q, by rw [e]; have : s = false := hs
                  rw [this]⟩
theorem mfin {K : Nat} {a : UInt64} (h : Mag64 K a) (hK : K ≤ 2047) : DFin a := fin64_core.mp (h.fin hK)
theorem mnn {K : Nat} {a : UInt64} (h : Mag64 K a) (hK : K ≤ 2047) : NoNaN64 a := (h.fin hK).noNaN
theorem PF.l2d {n : Int64} (h : 0 ≤ n.toInt) : PF (FP.l2d n) := by
  refine PF.of (l2d_fin n) ?_
  show sgn (val64 (Core.l2d n)) = false
  rw [val64_l2d]
  show sgn (roundRatio b64 (decide (n.toInt < 0)) _ 1 _) = false
  rw [sgn_roundRatio]
  exact decide_eq_false (by omega)
theorem PF.mul {a b : UInt64} (ha : PF a) (hb : PF b) (hf : DFin (FP.dmul a b)) : PF (FP.dmul a b) := by
  obtain ⟨c, q, e1⟩ := ha
  obtain ⟨d, r, e2⟩ := hb
  refine PF.of hf ?_
  show sgn (val64 (Core.dmul a b)) = false
  rw [val64_dmul, e1, e2]
  show sgn (roundRatio b64 (false != false) _ 1 _) = false
  rw [sgn_roundRatio]; rfl
theorem PF.div {a b : UInt64} (ha : PF a) (hb : PF b) (hf : DFin (FP.ddiv a b)) : PF (FP.ddiv a b) := by
  obtain ⟨c, q, e1⟩ := ha
  obtain ⟨d, r, e2⟩ := hb
  refine PF.of hf ?_
  have hq : val64 (Core.ddiv a b) = quotient b64 (.fin false c q) (.fin false d r) := by rw [val64_ddiv, e1, e2]
  show sgn (val64 (Core.ddiv a b)) = false
  by_cases hd : d = 0
  · obtain ⟨s', c', q', e⟩ := hf
    have e' : val64 (Core.ddiv a b) = .fin s' c' q' := e
    rw [hq] at e'
    exfalso
    simp only [quotient, hd, if_true] at e'
    split at e' <;> cases e'
  · rw [hq]
    show sgn (if d = 0 then _ else roundRatio b64 (false != false) c d (q - r)) = false
    rw [if_neg hd, sgn_roundRatio]; rfl
theorem PF.add {a b : UInt64} (ha : PF a) (hb : PF b) (hf : DFin (FP.dadd a b)) : PF (FP.dadd a b) := by
  obtain ⟨c, q, e1⟩ := ha
  obtain ⟨d, r, e2⟩ := hb
  refine PF.of hf ?_
  show sgn (val64 (Core.dadd a b)) = false
  rw [val64_dadd, e1, e2]
  show sgn (roundRatio b64 (sumSign false false _) _ 1 _) = false
  rw [sgn_roundRatio]
  simp only [sumSign, sumUnits, signed, Bool.false_eq_true, if_false]
  split
  · rfl
  · exact decide_eq_false (by omega)
theorem PF.zv {a : UInt64} (h : PF a) : 0 ≤ zval b64 (val64 a) := by
  obtain ⟨c, q, e⟩ := h
  rw [e]
  show 0 ≤ signed false _
  simp only [signed, Bool.false_eq_true, if_false]
  omega
theorem PF.lt {a : UInt64} (h : PF a) : a.toNat < 2 ^ 63 := by
  obtain ⟨c, q, e⟩ := h
  have h1 := sgn_bits (a := a) (by rw [e]; exact Datum.noConfusion)
  rw [e] at h1
  have : decide (2 ^ 63 ≤ a.toNat) = false := h1.symm
  have := of_decide_eq_false this
  omega
/-- the sum of two such isn't less than the second -/
theorem add_ge {a b : UInt64} (ha : PF a) (hb : PF b) (hf : PF (FP.dadd a b)) : b.toNat ≤ (FP.dadd a b).toNat := by
  have za := ha.zv
  have na : val64 a ≠ .nan := by obtain ⟨c, q, e⟩ := ha; rw [e]; exact Datum.noConfusion
  have nb : val64 b ≠ .nan := by obtain ⟨c, q, e⟩ := hb; rw [e]; exact Datum.noConfusion
  have ns : val64 (FP.dadd a b) ≠ .nan := by obtain ⟨c, q, e⟩ := hf; rw [e]; exact Datum.noConfusion
  have h1 : zval b64 (val64 b) ≤ zval b64 (val64 (FP.dadd a b)) := by
    show _ ≤ zval b64 (val64 (Core.dadd a b))
    rw [val64_dadd]
    exact sum_ge good_b64 (by obtain ⟨c, q, e⟩ := ha; exact ⟨_, c, q, e⟩) (by obtain ⟨c, q, e⟩ := hb; exact ⟨_, c, q, e⟩) (val64_fits a) (val64_fits b) (val64_fits b) nb (by omega)
  have h2 := mono_bits ns nb hf.lt hb.lt
  refine Nat.le_of_not_lt fun q => ?_
  have h3 := h2.1.mpr q
  rw [dcmp_zval ns nb] at h3
  have h4 := (compare_lt_iff _ _).mp (Option.some.inj h3)
  omega
end Flt
def nrm (b ln av : UInt64) : UInt64 := FP.dadd (FP.dsub (FP.l2d 1) b) (FP.ddiv (FP.dmul b ln) av)
def den (k1 b tf ln av : UInt64) : UInt64 := FP.dadd (FP.dmul (FP.ddiv k1 (FP.dadd k1 (FP.l2d 1))) (nrm b ln av)) (FP.ddiv tf (FP.dadd k1 (FP.l2d 1)))
def scoreV (k1 b tf ln av idf : UInt64) : UInt64 := FP.ddiv (FP.dmul idf tf) (den k1 b tf ln av)
open Jvm.Free.Fl in
def okV (k1 b tf ln av idf : UInt64) : Prop := NoNaN64 (FP.dsub (FP.l2d 1) b) ∧ NoNaN64 (FP.dmul b ln) ∧ NoNaN64 (FP.ddiv (FP.dmul b ln) av) ∧ NoNaN64 (nrm b ln av) ∧ NoNaN64 (FP.dmul idf tf) ∧ NoNaN64 (FP.dadd k1 (FP.l2d 1)) ∧ NoNaN64 (FP.ddiv k1 (FP.dadd k1 (FP.l2d 1))) ∧
  NoNaN64 (FP.dmul (FP.ddiv k1 (FP.dadd k1 (FP.l2d 1))) (nrm b ln av)) ∧ NoNaN64 (FP.ddiv tf (FP.dadd k1 (FP.l2d 1))) ∧ NoNaN64 (den k1 b tf ln av) ∧ NoNaN64 (scoreV k1 b tf ln av idf)
section Dyad
open Jvm.FP Jvm.Free.Fl Jvm.FP.Core
/-- c * 2^q = N / 2^k -/
def Rel (c : Nat) (q : Int) (N k : Nat) : Prop := c * 2 ^ (q + k).toNat = N * 2 ^ (-(q + k)).toNat
theorem rel_of {c N : Nat} {q : Int} {k x y : Nat} (h : c * 2 ^ x = N * 2 ^ y) (e : (x : Int) - y = q + k) : Rel c q N k := by
  unfold Rel
  rw [← e]
  have hx : x = ((x : Int) - y).toNat + min x y := by omega
  have hy : y = (-((x : Int) - y)).toNat + min x y := by omega
  generalize ((x : Int) - y).toNat = u at hx ⊢
  generalize (-((x : Int) - y)).toNat = v at hy ⊢
  generalize min x y = t at hx hy
  subst hx hy
  rw [Nat.pow_add, Nat.pow_add, ← Nat.mul_assoc, ← Nat.mul_assoc] at h
  exact Nat.eq_of_mul_eq_mul_right (Nat.two_pow_pos t) h
theorem Rel.at {c N : Nat} {q : Int} {k : Nat} (h : Rel c q N k) {x y : Nat} (e : (x : Int) - y = q + k) : c * 2 ^ x = N * 2 ^ y := by
  unfold Rel at h
  rw [← e] at h
  have hx : x = ((x : Int) - y).toNat + min x y := by omega
  have hy : y = (-((x : Int) - y)).toNat + min x y := by omega
  generalize ((x : Int) - y).toNat = u at hx h
  generalize (-((x : Int) - y)).toNat = v at hy h
  generalize min x y = t at hx hy
  subst hx hy
  rw [Nat.pow_add, Nat.pow_add, ← Nat.mul_assoc, ← Nat.mul_assoc, h]
/-- the double is N / 2^k, not negative -/
def Dy (N k : Nat) (a : UInt64) : Prop := ∃ c q, val64 a = .fin false c q ∧ Rel c q N k
theorem dy_round {N k c : Nat} {q : Int} (h : Rel c q N k) (hN : N < 2 ^ 53) (hk : k ≤ 1000) : ∃ c' q', Core.round b64 (.fin false c q) = .fin false c' q' ∧ Rel c' q' N k := by
  have e : Core.round b64 (.fin false c q) = Core.round b64 (.fin false N (-(k : Int))) := by
    refine roundRatio_congr (by decide) (by decide) ?_
    rw [show (q - -(k : Int)) = q + k by omega, show (-(k : Int) - q) = -(q + k) by omega, Nat.mul_one, Nat.mul_one]
    exact h
  obtain ⟨c', q', h1, h2⟩ := round_exact good_b64 false (c := N) (q := -(k : Int)) hN (by show (-1074 : Int) ≤ _; omega) (by show _ ≤ (971 : Int); omega)
  refine ⟨c', q', e.trans h1, ?_⟩
  have hf := round_fits good_b64 (.fin false N (-(k : Int)))
  rw [h1] at hf
  have hq : (-1074 : Int) ≤ q' := hf.2.1
  have h2' : c' * 2 ^ (q' - -1074).toNat = N * 2 ^ (-(k : Int) - -1074).toNat := h2
  exact rel_of h2' (by omega)
theorem Dy.mul {N M k j : Nat} {a b : UInt64} (ha : Dy N k a) (hb : Dy M j b) (hN : N * M < 2 ^ 53) (hk : k + j ≤ 1000) : Dy (N * M) (k + j) (FP.dmul a b) := by
  obtain ⟨c, q, e1, r1⟩ := ha
  obtain ⟨d, r, e2, r2⟩ := hb
  have h1 := r1.at (x := (q + k).toNat) (y := (-(q + k)).toNat) (by omega)
  have h2 := r2.at (x := (r + j).toNat) (y := (-(r + j)).toNat) (by omega)
  have hr : Rel (c * d) (q + r) (N * M) (k + j) := by
    refine rel_of (x := (q + k).toNat + (r + j).toNat) (y := (-(q + k)).toNat + (-(r + j)).toNat) ?_ (by omega)
    rw [Nat.pow_add, Nat.pow_add, Nat.mul_mul_mul_comm, h1, h2, Nat.mul_mul_mul_comm]
  obtain ⟨c', q', h3, h4⟩ := dy_round hr hN hk
  refine ⟨c', q', ?_, h4⟩
  show val64 (Core.dmul a b) = _
  rw [val64_dmul, e1, e2]
  exact h3
theorem Dy.add {N M k : Nat} {a b : UInt64} (ha : Dy N k a) (hb : Dy M k b) (hN : N + M < 2 ^ 53) (hk : k ≤ 1000) : Dy (N + M) k (FP.dadd a b) := by
  obtain ⟨c, q, e1, r1⟩ := ha
  obtain ⟨d, r, e2, r2⟩ := hb
  have hr : Rel (c * 2 ^ (q - min q r).toNat + d * 2 ^ (r - min q r).toNat) (min q r) (N + M) k := by
    have h1 := r1.at (x := (q - min q r).toNat + (min q r + k).toNat) (y := (-(min q r + k)).toNat) (by omega)
    have h2 := r2.at (x := (r - min q r).toNat + (min q r + k).toNat) (y := (-(min q r + k)).toNat) (by omega)
    unfold Rel
    rw [Nat.add_mul, Nat.mul_assoc, Nat.mul_assoc, ← Nat.pow_add, ← Nat.pow_add, h1, h2, Nat.add_mul]
  obtain ⟨c', q', h3, h4⟩ := dy_round hr hN hk
  refine ⟨c', q', ?_, h4⟩
  show val64 (Core.dadd a b) = _
  rw [val64_dadd, e1, e2]
  rw [← h3]
  show Core.round b64 (.fin (sumSign false false (sumUnits false c q false d r (min q r))) (sumUnits false c q false d r (min q r)).natAbs (min q r)) = _
  have hu : sumUnits false c q false d r (min q r) = ((c * 2 ^ (q - min q r).toNat + d * 2 ^ (r - min q r).toNat : Nat) : Int) := by
    simp only [sumUnits, signed, inUnits, Bool.false_eq_true, if_false]
    omega
  rw [hu, Int.natAbs_natCast]
  have hs : sumSign false false ((c * 2 ^ (q - min q r).toNat + d * 2 ^ (r - min q r).toNat : Nat) : Int) = false := by
    unfold sumSign
    split
    · rfl
    · exact decide_eq_false (by omega)
  rw [hs]
theorem Dy.up {N k : Nat} {a : UInt64} (ha : Dy N k a) (j : Nat) : Dy (N * 2 ^ j) (k + j) a := by
  obtain ⟨c, q, e1, r1⟩ := ha
  refine ⟨c, q, e1, ?_⟩
  have h := r1.at (x := (q + k).toNat + j) (y := (-(q + k)).toNat + j) (by omega)
  rw [Nat.pow_add 2 (-(q + k)).toNat j, Nat.mul_comm (2 ^ (-(q + k)).toNat), ← Nat.mul_assoc] at h
  exact rel_of h (by omega)
theorem Dy.div2 {N k j : Nat} {a b : UInt64} (ha : Dy N k a) (hb : Dy (2 ^ j) 0 b) (hN : N < 2 ^ 53) (hk : k + j ≤ 1000) : Dy N (k + j) (FP.ddiv a b) := by
  obtain ⟨c, q, e1, r1⟩ := ha
  obtain ⟨d, r, e2, r2⟩ := hb
  have hd : d ≠ 0 := fun h0 => by
    unfold Rel at r2
    rw [h0, Nat.zero_mul] at r2
    have := Nat.mul_pos (Nat.two_pow_pos j) (Nat.two_pow_pos (-(r + (0 : Nat))).toNat)
    omega
  have hq : val64 (FP.ddiv a b) = roundRatio b64 false c d (q - r) := by
    show val64 (Core.ddiv a b) = _
    rw [val64_ddiv, e1, e2]
    show (if d = 0 then _ else roundRatio b64 (false != false) c d (q - r)) = _
    rw [if_neg hd]; rfl
  have e : roundRatio b64 false c d (q - r) = roundRatio b64 false N 1 (-((k + j : Nat) : Int)) := by
    refine roundRatio_congr (Nat.pos_of_ne_zero hd) (by decide) ?_
    rw [Nat.mul_one]
    have h1 := r1.at (x := (q + k).toNat) (y := (-(q + k)).toNat) (by omega)
    have h2 := r2.at (x := (r + (0 : Nat)).toNat) (y := (-(r + (0 : Nat))).toNat) (by omega)
    have hz : Rel c (q - r) (N * d) (k + j) := by
      refine rel_of (x := (q + k).toNat + j + (-(r + (0 : Nat))).toNat) (y := (-(q + k)).toNat + (r + (0 : Nat)).toNat) ?_ (by omega)
      calc c * 2 ^ ((q + k).toNat + j + (-(r + (0 : Nat))).toNat) = (c * 2 ^ (q + k).toNat) * (2 ^ j * 2 ^ (-(r + (0 : Nat))).toNat) := by rw [Nat.pow_add, Nat.pow_add, Nat.mul_assoc, Nat.mul_assoc]
        _ = (N * 2 ^ (-(q + k)).toNat) * (d * 2 ^ (r + (0 : Nat)).toNat) := by rw [h1, h2]
        _ = N * d * 2 ^ ((-(q + k)).toNat + (r + (0 : Nat)).toNat) := by rw [Nat.pow_add, Nat.mul_mul_mul_comm]
    have hz' := hz.at (x := (q - r - -((k + j : Nat) : Int)).toNat) (y := (-((k + j : Nat) : Int) - (q - r)).toNat) (by omega)
    exact hz'
  obtain ⟨c', q', h3, h4⟩ := dy_round (c := N) (q := -((k + j : Nat) : Int)) (N := N) (k := k + j) (by unfold Rel; rw [show (-((k + j : Nat) : Int) + (k + j : Nat)) = 0 by omega]; rfl) hN hk
  exact ⟨c', q', by rw [hq, e]; exact h3, h4⟩
theorem Dy.l2d {n : Int64} (h : 0 ≤ n.toInt) (hN : n.toInt.toNat < 2 ^ 53) : Dy n.toInt.toNat 0 (FP.l2d n) := by
  obtain ⟨c', q', h3, h4⟩ := dy_round (c := n.toInt.toNat) (q := 0) (N := n.toInt.toNat) (k := 0) (by unfold Rel; rfl) hN (by decide)
  refine ⟨c', q', ?_, h4⟩
  show val64 (Core.l2d n) = _
  rw [val64_l2d, ← h3]
  show Core.round b64 (.fin (decide (n.toInt < 0)) n.toInt.natAbs 0) = _
  rw [decide_eq_false (by omega), show n.toInt.natAbs = n.toInt.toNat by omega]
theorem Dy.fin {N k : Nat} {a : UInt64} (h : Dy N k a) : DFin a := by obtain ⟨c, q, e, -⟩ := h; exact ⟨_, c, q, e⟩
theorem Dy.nn {N k : Nat} {a : UInt64} (h : Dy N k a) : NoNaN64 a := (fin64_core.mpr h.fin).noNaN
/-- one quotient, written in two ways: (v / 1) / (M / 2^k) and (v * 2^k) / M -/
theorem div_same {v w : Int64} {M k : Nat} {den Q : UInt64} (hv : Small53 v) (hw : Small53 w) (e : w.toInt = v.toInt * ((2 ^ k : Nat) : Int)) (hd : Dy M k den) (hQ : Dy M 0 Q) (hM : 0 < M) :
    val64 (FP.ddiv (FP.l2d v) den) = val64 (FP.ddiv (FP.l2d w) Q) ∧ NoNaN64 (FP.ddiv (FP.l2d v) den) := by
  have W1 := l2d_whole hv
  have W2 := l2d_whole hw
  obtain ⟨d1, r1, e1, g1⟩ := hd
  obtain ⟨d2, r2, e2, g2⟩ := hQ
  have p1 : d1 ≠ 0 := fun h0 => by
    unfold Rel at g1
    rw [h0, Nat.zero_mul] at g1
    have := Nat.mul_pos hM (Nat.two_pow_pos (-(r1 + k)).toNat)
    omega
  have p2 : d2 ≠ 0 := fun h0 => by
    unfold Rel at g2
    rw [h0, Nat.zero_mul] at g2
    have := Nat.mul_pos hM (Nat.two_pow_pos (-(r2 + (0 : Nat))).toNat)
    omega
  obtain ⟨s1, c1, q1, f1⟩ := Core.l2d_fin v
  obtain ⟨s2, c2, q2, f2⟩ := Core.l2d_fin w
  have z1 : val64 (FP.ddiv (FP.l2d v) den) = roundRatio b64 (s1 != false) c1 d1 (q1 - r1) := by
    show val64 (Core.ddiv (Core.l2d v) den) = _
    rw [val64_ddiv, f1, e1]
    show (if d1 = 0 then _ else _) = _
    rw [if_neg p1]
  have z2 : val64 (FP.ddiv (FP.l2d w) Q) = roundRatio b64 (s2 != false) c2 d2 (q2 - r2) := by
    show val64 (Core.ddiv (Core.l2d w) Q) = _
    rw [val64_ddiv, f2, e2]
    show (if d2 = 0 then _ else _) = _
    rw [if_neg p2]
  have W1' : Whole v.toInt (.fin s1 c1 q1) := by have h := W1; rw [show val64 (Core.l2d v) = _ from f1] at h; exact h
  have W2' : Whole w.toInt (.fin s2 c2 q2) := by have h := W2; rw [show val64 (Core.l2d w) = _ from f2] at h; exact h
  refine ⟨?_, ?_⟩
  · rw [z1, z2]
    have es : s1 = s2 := by
      have a1 : s1 = decide (v.toInt < 0) := by
        have h := val64_l2d v
        rw [show val64 (Core.l2d v) = _ from f1] at h
        have h' : sgn (Datum.fin s1 c1 q1) = sgn (roundRatio b64 (decide (v.toInt < 0)) v.toInt.natAbs 1 0) := by rw [h]; rfl
        rw [sgn_roundRatio] at h'; exact h'
      have a2 : s2 = decide (w.toInt < 0) := by
        have h := val64_l2d w
        rw [show val64 (Core.l2d w) = _ from f2] at h
        have h' : sgn (Datum.fin s2 c2 q2) = sgn (roundRatio b64 (decide (w.toInt < 0)) w.toInt.natAbs 1 0) := by rw [h]; rfl
        rw [sgn_roundRatio] at h'; exact h'
      rw [a1, a2, e]
      have hp : (0 : Int) < ((2 ^ k : Nat) : Int) := by exact_mod_cast Nat.two_pow_pos k
      by_cases hv0 : v.toInt < 0
      · rw [decide_eq_true hv0, decide_eq_true (Int.mul_neg_of_neg_of_pos hv0 hp)]
      · rw [decide_eq_false hv0, decide_eq_false (by have := Int.mul_nonneg (by omega : 0 ≤ v.toInt) (Int.le_of_lt hp); omega)]
    rw [es]
    refine roundRatio_congr (Nat.pos_of_ne_zero p1) (Nat.pos_of_ne_zero p2) ?_
    have n1 : Rel c1 q1 v.toInt.natAbs 0 := by have h := whole_natAbs W1'; exact rel_of (x := q1.toNat) (y := (-q1).toNat) h (by omega)
    have n2 : Rel c2 q2 w.toInt.natAbs 0 := by have h := whole_natAbs W2'; exact rel_of (x := q2.toNat) (y := (-q2).toNat) h (by omega)
    have ew : w.toInt.natAbs = v.toInt.natAbs * 2 ^ k := by rw [e, Int.natAbs_mul]; rfl
    rw [ew] at n2
    have h1 := n1.at (x := (q1 + (0 : Nat)).toNat) (y := (-(q1 + (0 : Nat))).toNat) (by omega)
    have h2 := n2.at (x := (q2 + (0 : Nat)).toNat) (y := (-(q2 + (0 : Nat))).toNat) (by omega)
    have h3 := g1.at (x := (r1 + k).toNat) (y := (-(r1 + k)).toNat) (by omega)
    have h4 := g2.at (x := (r2 + (0 : Nat)).toNat) (y := (-(r2 + (0 : Nat))).toNat) (by omega)
    -- c1 d2 against c2 d1
    have big : c1 * d2 * 2 ^ ((q1 + (0 : Nat)).toNat + (r2 + (0 : Nat)).toNat + (-(q2 + (0 : Nat))).toNat + (-(r1 + k)).toNat + k) = c2 * d1 * 2 ^ ((q2 + (0 : Nat)).toNat + (r1 + k).toNat + (-(q1 + (0 : Nat))).toNat + (-(r2 + (0 : Nat))).toNat) := by
      have l : c1 * d2 * 2 ^ ((q1 + (0 : Nat)).toNat + (r2 + (0 : Nat)).toNat + (-(q2 + (0 : Nat))).toNat + (-(r1 + k)).toNat + k) = (c1 * 2 ^ (q1 + (0 : Nat)).toNat) * (d2 * 2 ^ (r2 + (0 : Nat)).toNat) * (2 ^ (-(q2 + (0 : Nat))).toNat * 2 ^ (-(r1 + k)).toNat * 2 ^ k) := by
        simp only [Nat.pow_add]; ac_rfl
      have r : c2 * d1 * 2 ^ ((q2 + (0 : Nat)).toNat + (r1 + k).toNat + (-(q1 + (0 : Nat))).toNat + (-(r2 + (0 : Nat))).toNat) = (c2 * 2 ^ (q2 + (0 : Nat)).toNat) * (d1 * 2 ^ (r1 + k).toNat) * (2 ^ (-(q1 + (0 : Nat))).toNat * 2 ^ (-(r2 + (0 : Nat))).toNat) := by
        simp only [Nat.pow_add]; ac_rfl
      rw [l, r, h1, h2, h3, h4]
      ac_rfl
    generalize hX : (q1 + (0 : Nat)).toNat + (r2 + (0 : Nat)).toNat + (-(q2 + (0 : Nat))).toNat + (-(r1 + k)).toNat + k = X at big
    generalize hY : (q2 + (0 : Nat)).toNat + (r1 + k).toNat + (-(q1 + (0 : Nat))).toNat + (-(r2 + (0 : Nat))).toNat = Y at big
    have hXY : (X : Int) - Y = (q1 - r1) - (q2 - r2) := by omega
    have rr : Rel (c1 * d2) ((q1 - r1) - (q2 - r2)) (c2 * d1) 0 := rel_of big (by omega)
    exact rr.at (by omega)
  · rw [noNaN64_no]
    show Core.dIsNaN (Core.ddiv _ _) = false
    unfold Core.dIsNaN isNaN
    refine decide_eq_false ?_
    show val64 (Core.ddiv (Core.l2d v) den) ≠ .nan
    rw [show val64 (Core.ddiv (Core.l2d v) den) = _ from z1]
    exact roundRatio_ne_nan _ _ _ _ _
end Dyad
section Law483
open Jvm.FP Jvm.Free.Fl Jvm.FP.Core
def Bd (A : Nat) (a : Int64) : Prop := a.toInt.natAbs ≤ A
theorem Bd.mul {A B : Nat} {a b : Int64} (ha : Bd A a) (hb : Bd B b) (h : A * B < 9223372036854775808) : (a * b).toInt = a.toInt * b.toInt ∧ Bd (A * B) (a * b) := by
  have h1 := c_lmul a b
  have r := rng64 (a * b)
  have h2 : (a.toInt * b.toInt).natAbs ≤ A * B := by rw [Int.natAbs_mul]; exact Nat.mul_le_mul ha hb
  have e : (a * b).toInt = a.toInt * b.toInt := by omega
  exact ⟨e, by unfold Bd; rw [e]; exact h2⟩
theorem Bd.add {A B : Nat} {a b : Int64} (ha : Bd A a) (hb : Bd B b) (h : A + B < 9223372036854775808) : (a + b).toInt = a.toInt + b.toInt ∧ Bd (A + B) (a + b) := by
  have h1 := c_ladd a b
  have r := rng64 (a + b)
  unfold Bd at ha hb
  have e : (a + b).toInt = a.toInt + b.toInt := by omega
  exact ⟨e, by unfold Bd; rw [e]; omega⟩
theorem bdI {A : Nat} {x : Int32} (h : x.toInt.natAbs ≤ A) : Bd A x.toInt64 := by unfold Bd; rw [c_i2l]; exact h
theorem small_of {A : Nat} {a : Int64} (h : Bd A a) (hA : A < 9007199254740992) : Small53 a := by unfold Bd at h; unfold Small53; omega
def bV (bn : Int32) : UInt64 := FP.ddiv (FP.l2d bn.toInt64) 4616189618054758400
theorem bn_cases {bn : Int32} (h : 0 ≤ bn.toInt ∧ bn.toInt ≤ 4) : bn = 0 ∨ bn = 1 ∨ bn = 2 ∨ bn = 3 ∨ bn = 4 := by
  have : bn.toInt = 0 ∨ bn.toInt = 1 ∨ bn.toInt = 2 ∨ bn.toInt = 3 ∨ bn.toInt = 4 := by omega
  rcases this with q | q | q | q | q
  · exact Or.inl (Int32.toInt_inj.mp (by rw [q]; decide))
  · exact Or.inr (Or.inl (Int32.toInt_inj.mp (by rw [q]; decide)))
  · exact Or.inr (Or.inr (Or.inl (Int32.toInt_inj.mp (by rw [q]; decide))))
  · exact Or.inr (Or.inr (Or.inr (Or.inl (Int32.toInt_inj.mp (by rw [q]; decide)))))
  · exact Or.inr (Or.inr (Or.inr (Or.inr (Int32.toInt_inj.mp (by rw [q]; decide)))))
theorem dy4 : Dy (2 ^ 2) 0 (4616189618054758400 : UInt64) := ⟨4503599627370496, -50, by decide +kernel, by unfold Rel; decide +kernel⟩
theorem dy1 : Dy 1 0 (FP.l2d 1) := Dy.l2d (n := 1) (by decide) (by decide)
theorem b_dy {bn : Int32} (h : 0 ≤ bn.toInt ∧ bn.toInt ≤ 4) : Dy bn.toInt.toNat 2 (bV bn) := by
  have e : bn.toInt64.toInt = bn.toInt := c_i2l bn
  have d := Dy.l2d (n := bn.toInt64) (by rw [e]; exact h.1) (by rw [e]; omega)
  rw [e] at d
  exact d.div2 dy4 (by omega) (by decide)
theorem onemb {bn : Int32} (h : 0 ≤ bn.toInt ∧ bn.toInt ≤ 4) : Dy (4 - bn.toInt.toNat) 2 (FP.dsub (FP.l2d 1) (bV bn)) := by
  rcases bn_cases h with rfl | rfl | rfl | rfl | rfl
  · exact ⟨4503599627370496, -52, by decide +kernel, by unfold Rel; decide +kernel⟩
  · exact ⟨6755399441055744, -53, by decide +kernel, by unfold Rel; decide +kernel⟩
  · exact ⟨4503599627370496, -53, by decide +kernel, by unfold Rel; decide +kernel⟩
  · exact ⟨4503599627370496, -54, by decide +kernel, by unfold Rel; decide +kernel⟩
  · exact ⟨0, -1074, by decide +kernel, by unfold Rel; decide +kernel⟩
theorem hb3 {bn : Int32} (h : 0 ≤ bn.toInt ∧ bn.toInt ≤ 4) : ¬ cmpValue (FP.dcmp (bV bn) (FP.l2d 0)) .l < 0 ∧ ¬ 0 < cmpValue (FP.dcmp (bV bn) (FP.l2d 1)) .g := by
  rcases bn_cases h with rfl | rfl | rfl | rfl | rfl <;> decide +kernel
theorem pow7 {r : Nat} (h : r ≤ 7) : 1 ≤ 2 ^ r ∧ 2 ^ r ≤ 128 := ⟨Nat.two_pow_pos r, Nat.pow_le_pow_right (by decide) h⟩
def pV (tf av idf k1 : Int32) : Int64 := (((idf.toInt64 * tf.toInt64) * (k1 + 1).toInt64) * 4) * av.toInt64
def qV (tf ln av k1 bn : Int32) : Int64 := (k1.toInt64 * (((4 - bn).toInt64 * av.toInt64) + (bn.toInt64 * ln.toInt64))) + ((4 * tf.toInt64) * av.toInt64)
theorem law483 {tf ln av idf k1 bn : Int32} {r m : Nat} (ht : 1 ≤ tf.toInt ∧ tf.toInt ≤ 65536) (hl : 0 ≤ ln.toInt ∧ ln.toInt ≤ 65535) (hr : r ≤ 7) (ha : av.toInt = ((2 ^ r : Nat) : Int)) (hi : -16384 ≤ idf.toInt ∧ idf.toInt ≤ 16383)
    (hm : m ≤ 7) (hk : k1.toInt + 1 = ((2 ^ m : Nat) : Int)) (hb : 0 ≤ bn.toInt ∧ bn.toInt ≤ 4) :
    okV (FP.l2d k1.toInt64) (bV bn) (FP.l2d tf.toInt64) (FP.l2d ln.toInt64) (FP.l2d av.toInt64) (FP.l2d idf.toInt64) ∧ NoNaN64 (FP.ddiv (FP.l2d (pV tf av idf k1)) (FP.l2d (qV tf ln av k1 bn))) ∧
      cmpValue (FP.dcmp (scoreV (FP.l2d k1.toInt64) (bV bn) (FP.l2d tf.toInt64) (FP.l2d ln.toInt64) (FP.l2d av.toInt64) (FP.l2d idf.toInt64)) (FP.ddiv (FP.l2d (pV tf av idf k1)) (FP.l2d (qV tf ln av k1 bn)))) .l = 0 := by
  have pr := pow7 hr
  have pm := pow7 hm
  -- the naturals
  obtain ⟨A, hA⟩ : ∃ A, A = 2 ^ r := ⟨_, rfl⟩
  obtain ⟨B, hB⟩ : ∃ B, B = 2 ^ m := ⟨_, rfl⟩
  rw [← hA] at pr ha
  rw [← hB] at pm hk
  obtain ⟨t, et⟩ : ∃ t : Nat, tf.toInt = (t : Int) := ⟨tf.toInt.toNat, by omega⟩
  obtain ⟨n, en⟩ : ∃ n : Nat, ln.toInt = (n : Int) := ⟨ln.toInt.toNat, by omega⟩
  obtain ⟨K, eK⟩ : ∃ K : Nat, k1.toInt = (K : Int) := ⟨k1.toInt.toNat, by omega⟩
  obtain ⟨b, eb⟩ : ∃ b : Nat, bn.toInt = (b : Int) := ⟨bn.toInt.toNat, by omega⟩
  have hKB : K + 1 = B := by omega
  have hb4 : b ≤ 4 := by omega
  -- the doubles, exactly
  have dln : Dy n 0 (FP.l2d ln.toInt64) := by have d := Dy.l2d (n := ln.toInt64) (by rw [c_i2l]; omega) (by rw [c_i2l]; omega); rw [c_i2l, en, Int.toNat_natCast] at d; exact d
  have dav : Dy (2 ^ r) 0 (FP.l2d av.toInt64) := by have d := Dy.l2d (n := av.toInt64) (by rw [c_i2l]; omega) (by rw [c_i2l]; omega); rw [c_i2l, ha, Int.toNat_natCast, hA] at d; exact d
  have dtf : Dy t 0 (FP.l2d tf.toInt64) := by have d := Dy.l2d (n := tf.toInt64) (by rw [c_i2l]; omega) (by rw [c_i2l]; omega); rw [c_i2l, et, Int.toNat_natCast] at d; exact d
  have dk : Dy K 0 (FP.l2d k1.toInt64) := by have d := Dy.l2d (n := k1.toInt64) (by rw [c_i2l]; omega) (by rw [c_i2l]; omega); rw [c_i2l, eK, Int.toNat_natCast] at d; exact d
  have db : Dy b 2 (bV bn) := by have d := b_dy hb; rw [eb, Int.toNat_natCast] at d; exact d
  have d1b : Dy (4 - b) 2 (FP.dsub (FP.l2d 1) (bV bn)) := by have d := onemb hb; rw [eb, Int.toNat_natCast] at d; exact d
  have b1 : b * n ≤ 4 * 65535 := Nat.mul_le_mul hb4 (by omega)
  have x1 := db.mul dln (by omega) (by decide)
  have x2 := x1.div2 dav (by omega) (by omega)
  have x3 := d1b.up r
  have b3 : (4 - b) * 2 ^ r ≤ 4 * 128 := Nat.mul_le_mul (by omega) (by omega)
  have x4 : Dy ((4 - b) * 2 ^ r + b * n) (2 + r) (nrm (bV bn) (FP.l2d ln.toInt64) (FP.l2d av.toInt64)) := x3.add x2 (by omega) (by omega)
  have x5 : Dy (2 ^ m) 0 (FP.dadd (FP.l2d k1.toInt64) (FP.l2d 1)) := by have d := dk.add dy1 (by omega) (by decide); rw [hKB, hB] at d; exact d
  have x6 := dk.div2 x5 (by omega) (by omega)
  obtain ⟨M, hM⟩ : ∃ M, M = (4 - b) * 2 ^ r + b * n := ⟨_, rfl⟩
  rw [← hM] at x4
  have bM : M ≤ 262652 := by omega
  have bKM : K * M ≤ 127 * 262652 := Nat.mul_le_mul (by omega) bM
  have x7 := x6.mul x4 (by omega) (by omega)
  have x8 := dtf.div2 x5 (by omega) (by omega)
  have x9 := x8.up (2 + r)
  have p2 : 2 ^ (2 + r) = 4 * A := by rw [Nat.pow_add, hA]
  have bt : t * 2 ^ (2 + r) ≤ 65536 * 512 := Nat.mul_le_mul (by omega) (by omega)
  have kk : 0 + m + (2 + r) = m + (2 + r) := by omega
  have x10 : Dy (K * M + t * 2 ^ (2 + r)) (0 + m + (2 + r)) (den (FP.l2d k1.toInt64) (bV bn) (FP.l2d tf.toInt64) (FP.l2d ln.toInt64) (FP.l2d av.toInt64)) := x7.add x9 (by omega) (by omega)
  -- the numerator
  have Bi : Bd 16384 idf.toInt64 := bdI (by omega)
  have Bt : Bd 65536 tf.toInt64 := bdI (by omega)
  obtain ⟨v1, B1⟩ := Bi.mul Bt (by decide)
  have en1 : FP.dmul (FP.l2d idf.toInt64) (FP.l2d tf.toInt64) = FP.l2d (idf.toInt64 * tf.toInt64) :=
    dmul_k (A := 16384) (B := 65536) (by rw [c_i2l]; omega) (by rw [c_i2l]; omega) (by rw [c_i2l]; omega) (by rw [c_i2l]; omega) (by decide) (by decide) (by decide)
      (fun q => by have h1 := q.2; rw [Int64.lt_iff_toInt_lt, c_i2l] at h1; have e0 : (0 : Int64).toInt = 0 := by decide
                   omega) (fun q => by have h1 := c_i2l tf; rw [q.1] at h1; have e0 : (0 : Int64).toInt = 0 := by decide
                                       omega)
  -- the longs
  have Bk1 : Bd 128 (k1 + 1).toInt64 := bdI (by have h := c_iadd k1 1; have rr := rng32 (k1 + 1); have e1 : (1 : Int32).toInt = 1 := by decide
                                                omega)
  have ek1 : (k1 + 1).toInt64.toInt = (B : Int) := by
    rw [c_i2l]; have h := c_iadd k1 1; have rr := rng32 (k1 + 1); have e1 : (1 : Int32).toInt = 1 := by decide
    omega
  obtain ⟨v2, B2⟩ := B1.mul Bk1 (by decide)
  have B4 : Bd 4 (4 : Int64) := by unfold Bd; decide
  have e4 : (4 : Int64).toInt = 4 := by decide
  obtain ⟨v3, B3⟩ := B2.mul B4 (by decide)
  have Ba : Bd 128 av.toInt64 := bdI (by omega)
  obtain ⟨v4, B5⟩ := B3.mul Ba (by decide)
  have ep : (pV tf av idf k1).toInt = (idf.toInt64 * tf.toInt64).toInt * ((2 ^ (0 + m + (2 + r)) : Nat) : Int) := by
    show ((((idf.toInt64 * tf.toInt64) * (k1 + 1).toInt64) * 4) * av.toInt64).toInt = _
    rw [v4, v3, v2, ek1, e4, c_i2l, ha, kk, Nat.pow_add, ← hB, p2]
    push_cast
    rw [Int.mul_assoc, Int.mul_assoc]
  -- q
  have B4b : Bd 4 (4 - bn).toInt64 := bdI (by have h := c_isub 4 bn; have rr := rng32 (4 - bn); have e1 : (4 : Int32).toInt = 4 := by decide
                                              omega)
  have e4b : (4 - bn).toInt64.toInt = ((4 - b : Nat) : Int) := by
    rw [c_i2l]; have h := c_isub 4 bn; have rr := rng32 (4 - bn); have e1 : (4 : Int32).toInt = 4 := by decide
    omega
  have Bb : Bd 4 bn.toInt64 := bdI (by omega)
  have Bl : Bd 65535 ln.toInt64 := bdI (by omega)
  have Bk : Bd 127 k1.toInt64 := bdI (by omega)
  obtain ⟨u1, C1⟩ := B4b.mul Ba (by decide)
  obtain ⟨u2, C2⟩ := Bb.mul Bl (by decide)
  obtain ⟨u3, C3⟩ := C1.add C2 (by decide)
  obtain ⟨u4, C4⟩ := Bk.mul C3 (by decide)
  obtain ⟨u5, C5⟩ := B4.mul Bt (by decide)
  obtain ⟨u6, C6⟩ := C5.mul Ba (by decide)
  obtain ⟨u7, C7⟩ := C4.add C6 (by decide)
  have eq : (qV tf ln av k1 bn).toInt = ((K * M + t * 2 ^ (2 + r) : Nat) : Int) := by
    show ((k1.toInt64 * (((4 - bn).toInt64 * av.toInt64) + (bn.toInt64 * ln.toInt64))) + ((4 * tf.toInt64) * av.toInt64)).toInt = _
    rw [u7, u4, u3, u2, u1, u6, u5, e4, e4b, c_i2l, c_i2l, c_i2l, c_i2l, c_i2l, ha, eb, en, eK, et, hM, p2, ← hA]
    push_cast
    have : (4 : Int) * (t : Int) * (A : Int) = (t : Int) * (4 * (A : Int)) := by ac_rfl
    rw [this]
  have hMpos : 0 < K * M + t * 2 ^ (2 + r) := by
    have : 1 * 1 ≤ t * 2 ^ (2 + r) := Nat.mul_le_mul (by omega) (Nat.two_pow_pos _)
    omega
  have dq : Dy (K * M + t * 2 ^ (2 + r)) 0 (FP.l2d (qV tf ln av k1 bn)) := by
    have d := Dy.l2d (n := qV tf ln av k1 bn) (by rw [eq]; exact Int.natCast_nonneg _) (by rw [eq, Int.toNat_natCast]; omega)
    rw [eq, Int.toNat_natCast] at d
    exact d
  have sv : Small53 (idf.toInt64 * tf.toInt64) := small_of B1 (by decide)
  have sw : Small53 (pV tf av idf k1) := small_of (a := pV tf av idf k1) B5 (by decide)
  obtain ⟨same, nn⟩ := div_same sv sw ep x10 dq hMpos
  have sc : scoreV (FP.l2d k1.toInt64) (bV bn) (FP.l2d tf.toInt64) (FP.l2d ln.toInt64) (FP.l2d av.toInt64) (FP.l2d idf.toInt64) = FP.ddiv (FP.l2d (idf.toInt64 * tf.toInt64)) (den (FP.l2d k1.toInt64) (bV bn) (FP.l2d tf.toInt64) (FP.l2d ln.toInt64) (FP.l2d av.toInt64)) := by
    unfold scoreV; rw [en1]
  have n1 : val64 (FP.ddiv (FP.l2d (idf.toInt64 * tf.toInt64)) (den (FP.l2d k1.toInt64) (bV bn) (FP.l2d tf.toInt64) (FP.l2d ln.toInt64) (FP.l2d av.toInt64))) ≠ .nan := by
    have h := noNaN64_no.mp nn
    intro q
    have h' : Core.dIsNaN _ = false := h
    unfold Core.dIsNaN isNaN at h'
    exact of_decide_eq_false h' q
  refine ⟨⟨d1b.nn, x1.nn, x2.nn, x4.nn, nn_w en1, x5.nn, x6.nn, x7.nn, x8.nn, x10.nn, by rw [sc]; exact nn⟩, ?_, ?_⟩
  · rw [noNaN64_no]
    show Core.dIsNaN _ = false
    unfold Core.dIsNaN isNaN
    refine decide_eq_false ?_
    show val64 _ ≠ .nan
    rw [← same]; exact n1
  · rw [sc]
    have n2 : val64 (FP.ddiv (FP.l2d (pV tf av idf k1)) (FP.l2d (qV tf ln av k1 bn))) ≠ .nan := by rw [← same]; exact n1
    have h : FP.dcmp (FP.ddiv (FP.l2d (idf.toInt64 * tf.toInt64)) (den (FP.l2d k1.toInt64) (bV bn) (FP.l2d tf.toInt64) (FP.l2d ln.toInt64) (FP.l2d av.toInt64))) (FP.ddiv (FP.l2d (pV tf av idf k1)) (FP.l2d (qV tf ln av k1 bn))) = some .eq := by
      show Core.dcmp _ _ = _
      rw [dcmp_zval n1 n2, same]
      exact congrArg some ((compare_eq_iff _ _).mpr rfl)
    rw [h]; rfl
end Law483

theorem m65535 (x : Int32) : 1 ≤ ((1 : Int32) + (x &&& (65535 : Int32))).toInt ∧ ((1 : Int32) + (x &&& (65535 : Int32))).toInt ≤ 65536 := by
  have h := c_and x (65535 : Int32) (by decide); have e : (65535 : Int32).toInt = 65535 := by decide
  have e1 : (1 : Int32).toInt = 1 := by decide
  have q := c_iadd (1 : Int32) (x &&& (65535 : Int32)); have r := rng32 ((1 : Int32) + (x &&& (65535 : Int32))); rw [e] at h; rw [e1] at q; omega
theorem n65535 (x : Int32) : 0 ≤ (x &&& (65535 : Int32)).toInt ∧ (x &&& (65535 : Int32)).toInt ≤ 65535 := c_and x (65535 : Int32) (by decide)
theorem mask7 (x : Int32) : ∃ k : Fin 8, (x &&& (7 : Int32)) = Int32.ofNat k.val := by
  have h := c_and x (7 : Int32) (by decide); have e : (7 : Int32).toInt = 7 := by decide
  rw [e] at h
  refine ⟨⟨(x &&& (7 : Int32)).toInt.toNat, by omega⟩, ?_⟩
  apply Int32.toInt_inj.mp
  show _ = (Int32.ofNat (x &&& (7 : Int32)).toInt.toNat).toInt
  rw [Int32.toInt_ofNat_of_lt (by omega)]
  omega
theorem pow_mask (x : Int32) : ∃ r, r ≤ 7 ∧ ((1 : Int32) <<< ((x &&& (7 : Int32)) &&& 31)).toInt = ((2 ^ r : Nat) : Int) := by
  obtain ⟨k, e⟩ := mask7 x
  rw [e]
  exact ⟨k.val, by omega, (by decide +kernel : ∀ k : Fin 8, ((1 : Int32) <<< ((Int32.ofNat k.val) &&& 31)).toInt = ((2 ^ k.val : Nat) : Int)) k⟩
theorem pow_mask1 (x : Int32) : ∃ r, r ≤ 7 ∧ (((1 : Int32) <<< ((x &&& (7 : Int32)) &&& 31)) - (1 : Int32)).toInt + 1 = ((2 ^ r : Nat) : Int) := by
  obtain ⟨k, e⟩ := mask7 x
  rw [e]
  exact ⟨k.val, by omega, (by decide +kernel : ∀ k : Fin 8, (((1 : Int32) <<< ((Int32.ofNat k.val) &&& 31)) - (1 : Int32)).toInt + 1 = ((2 ^ k.val : Nat) : Int)) k⟩
theorem bn_mask (x : Int32) : 0 ≤ ((x &&& (7 : Int32)) % (5 : Int32)).toInt ∧ ((x &&& (7 : Int32)) % (5 : Int32)).toInt ≤ 4 := by
  obtain ⟨k, e⟩ := mask7 x
  rw [e]
  exact (by decide +kernel : ∀ k : Fin 8, 0 ≤ ((Int32.ofNat k.val) % (5 : Int32)).toInt ∧ ((Int32.ofNat k.val) % (5 : Int32)).toInt ≤ 4) k
theorem idf_rng (x : Int32) : -16384 ≤ ((x <<< ((17 : Int32) &&& 31)) >>> ((17 : Int32) &&& 31)).toInt ∧ ((x <<< ((17 : Int32) &&& 31)) >>> ((17 : Int32) &&& 31)).toInt ≤ 16383 := by
  rw [c_ishr _ (17 : Int32) 17 (by decide)]
  have r := rng32 (x <<< ((17 : Int32) &&& 31))
  omega
open Jvm.Free.Fl in
theorem hk12 {k1 : Int32} (h0 : 0 ≤ k1.toInt) : ¬ cmpValue (FP.dcmp (FP.l2d k1.toInt64) (FP.l2d 0)) .l < 0 ∧ cmpValue (FP.dcmp (FP.l2d k1.toInt64) (9218868437227405312 : UInt64)) .g < 0 := by
  have r := rng32 k1
  have b : B53 k1.toInt64 := ⟨by rw [c_i2l]; omega, by rw [c_i2l]; omega⟩
  have b0 : B53 (0 : Int64) := ⟨by decide, by decide⟩
  refine ⟨?_, ?_⟩
  · rw [dcmpV_w b b0, lw_lt, Int64.lt_iff_toInt_lt, c_i2l]
    have e0 : (0 : Int64).toInt = 0 := by decide
    omega
  · rw [dcmp_pinf (Free.Fl.l2d_fin _)]; decide
abbrev HW (a0 : Array Value) (Z : State) : Prop := ∀ d ∈ tables_1, d.before a0 Z = true
theorem ow0 {a0 : Array Value} {Z : State} (hw : HW a0 Z) : (Jvm.Cond.constant "com/example/antecedent/antecedent/Bm25ScorePinLaw" (7 : Nat) (65535 : Int32)).before a0 Z = true := hw _ (List.mem_of_getElem? (i := 0) rfl)
theorem ow1 {a0 : Array Value} {Z : State} (hw : HW a0 Z) : (Jvm.Cond.classLink "com/example/antecedent/antecedent/Bm25ScorePinLaw" (8 : Nat) "com/example/antecedent/antecedent/Bm25").before a0 Z = true := hw _ (List.mem_of_getElem? (i := 1) rfl)
theorem ow2 {a0 : Array Value} {Z : State} (hw : HW a0 Z) : (Jvm.Cond.instantiable "com/example/antecedent/antecedent/Bm25" (2 : Nat)).before a0 Z = true := hw _ (List.mem_of_getElem? (i := 2) rfl)
theorem ow3 {a0 : Array Value} {Z : State} (hw : HW a0 Z) : (Jvm.Cond.initialized "com/example/antecedent/antecedent/Bm25").before a0 Z = true := hw _ (List.mem_of_getElem? (i := 3) rfl)
theorem ow4 {a0 : Array Value} {Z : State} (hw : HW a0 Z) : (Jvm.Cond.constantDouble "com/example/antecedent/antecedent/Bm25ScorePinLaw" (10 : Nat) (4616189618054758400 : UInt64)).before a0 Z = true := hw _ (List.mem_of_getElem? (i := 4) rfl)
theorem ow5 {a0 : Array Value} {Z : State} (hw : HW a0 Z) : (Jvm.Cond.methodLink "com/example/antecedent/antecedent/Bm25ScorePinLaw" (12 : Nat) ({ cls := "com/example/antecedent/antecedent/Bm25", name := "<init>", desc := "(DD)V" } : Jvm.MethodName)).before a0 Z = true := hw _ (List.mem_of_getElem? (i := 5) rfl)
theorem ow6 {a0 : Array Value} {Z : State} (hw : HW a0 Z) : (Jvm.Cond.instanceMethod ({ cls := "com/example/antecedent/antecedent/Bm25", name := "<init>", desc := "(DD)V" } : Jvm.MethodName)).before a0 Z = true := hw _ (List.mem_of_getElem? (i := 6) rfl)
theorem ow7 {a0 : Array Value} {Z : State} (hw : HW a0 Z) : (Jvm.Cond.code ({ cls := "com/example/antecedent/antecedent/Bm25", name := "<init>", desc := "(DD)V" } : Jvm.MethodName) prog_2_method_1_code (5 : Nat) (Option.none : Option Jvm.ClassFile.FieldType)).before a0 Z = true := hw _ (List.mem_of_getElem? (i := 7) rfl)
theorem ow8 {a0 : Array Value} {Z : State} (hw : HW a0 Z) : (Jvm.Cond.methodLink "com/example/antecedent/antecedent/Bm25" (1 : Nat) ({ cls := "java/lang/Object", name := "<init>", desc := "()V" } : Jvm.MethodName)).before a0 Z = true := hw _ (List.mem_of_getElem? (i := 8) rfl)
theorem ow9 {a0 : Array Value} {Z : State} (hw : HW a0 Z) : (Jvm.Cond.instanceMethod ({ cls := "java/lang/Object", name := "<init>", desc := "()V" } : Jvm.MethodName)).before a0 Z = true := hw _ (List.mem_of_getElem? (i := 9) rfl)
theorem ow10 {a0 : Array Value} {Z : State} (hw : HW a0 Z) : (Jvm.Cond.code ({ cls := "java/lang/Object", name := "<init>", desc := "()V" } : Jvm.MethodName) object_method_1_code (1 : Nat) (Option.none : Option Jvm.ClassFile.FieldType)).before a0 Z = true := hw _ (List.mem_of_getElem? (i := 10) rfl)
theorem ow11 {a0 : Array Value} {Z : State} (hw : HW a0 Z) : (Jvm.Cond.constantDouble "com/example/antecedent/antecedent/Bm25" (9 : Nat) (9218868437227405312 : UInt64)).before a0 Z = true := hw _ (List.mem_of_getElem? (i := 11) rfl)
theorem ow12 {a0 : Array Value} {Z : State} (hw : HW a0 Z) : (Jvm.Cond.fieldLink "com/example/antecedent/antecedent/Bm25" (21 : Nat) "com/example/antecedent/antecedent/Bm25" "k1" "D").before a0 Z = true := hw _ (List.mem_of_getElem? (i := 12) rfl)
theorem ow13 {a0 : Array Value} {Z : State} (hw : HW a0 Z) : (Jvm.Cond.laysFinal "com/example/antecedent/antecedent/Bm25" "com/example/antecedent/antecedent/Bm25" "k1" "D").before a0 Z = true := hw _ (List.mem_of_getElem? (i := 13) rfl)
theorem ow14 {a0 : Array Value} {Z : State} (hw : HW a0 Z) : (Jvm.Cond.fieldLink "com/example/antecedent/antecedent/Bm25" (27 : Nat) "com/example/antecedent/antecedent/Bm25" "b" "D").before a0 Z = true := hw _ (List.mem_of_getElem? (i := 14) rfl)
theorem ow15 {a0 : Array Value} {Z : State} (hw : HW a0 Z) : (Jvm.Cond.laysFinal "com/example/antecedent/antecedent/Bm25" "com/example/antecedent/antecedent/Bm25" "b" "D").before a0 Z = true := hw _ (List.mem_of_getElem? (i := 15) rfl)
theorem ow16 {a0 : Array Value} {Z : State} (hw : HW a0 Z) : (Jvm.Cond.methodLink "com/example/antecedent/antecedent/Bm25ScorePinLaw" (15 : Nat) ({ cls := "com/example/antecedent/antecedent/Bm25", name := "score", desc := "(DDDD)D" } : Jvm.MethodName)).before a0 Z = true := hw _ (List.mem_of_getElem? (i := 16) rfl)
theorem ow17 {a0 : Array Value} {Z : State} (hw : HW a0 Z) : (Jvm.Cond.declares ({ cls := "com/example/antecedent/antecedent/Bm25", name := "score", desc := "(DDDD)D" } : Jvm.MethodName)).before a0 Z = true := hw _ (List.mem_of_getElem? (i := 17) rfl)
theorem ow18 {a0 : Array Value} {Z : State} (hw : HW a0 Z) : (Jvm.Cond.instanceMethod ({ cls := "com/example/antecedent/antecedent/Bm25", name := "score", desc := "(DDDD)D" } : Jvm.MethodName)).before a0 Z = true := hw _ (List.mem_of_getElem? (i := 18) rfl)
theorem ow19 {a0 : Array Value} {Z : State} (hw : HW a0 Z) : (Jvm.Cond.selects "com/example/antecedent/antecedent/Bm25" ({ cls := "com/example/antecedent/antecedent/Bm25", name := "score", desc := "(DDDD)D" } : Jvm.MethodName) ({ cls := "com/example/antecedent/antecedent/Bm25", name := "score", desc := "(DDDD)D" } : Jvm.MethodName)).before a0 Z = true := hw _ (List.mem_of_getElem? (i := 19) rfl)
theorem ow20 {a0 : Array Value} {Z : State} (hw : HW a0 Z) : (Jvm.Cond.code ({ cls := "com/example/antecedent/antecedent/Bm25", name := "score", desc := "(DDDD)D" } : Jvm.MethodName) prog_2_method_4_code (11 : Nat) (Option.some Jvm.ClassFile.FieldType.double)).before a0 Z = true := hw _ (List.mem_of_getElem? (i := 20) rfl)
theorem ow21 {a0 : Array Value} {Z : State} (hw : HW a0 Z) : (Jvm.Cond.constantLong "com/example/antecedent/antecedent/Bm25ScorePinLaw" (19 : Nat) (4 : Int64)).before a0 Z = true := hw _ (List.mem_of_getElem? (i := 21) rfl)
theorem od_prog_2_m_1_0 : decode prog_2_method_1_code 0 = .ok (.aload_n 0, 1) := by decide +kernel
theorem od_prog_2_m_1_1 : decode prog_2_method_1_code 1 = .ok (.invokespecial 1, 3) := by decide +kernel
theorem od_prog_2_m_1_4 : decode prog_2_method_1_code 4 = .ok (.dload_n 1, 1) := by decide +kernel
theorem od_prog_2_m_1_5 : decode prog_2_method_1_code 5 = .ok (.dconst 0, 1) := by decide +kernel
theorem od_prog_2_m_1_6 : decode prog_2_method_1_code 6 = .ok (.dcmp .l, 1) := by decide +kernel
theorem od_prog_2_m_1_7 : decode prog_2_method_1_code 7 = .ok (.ifCond .lt 11, 3) := by decide +kernel
theorem od_prog_2_m_1_10 : decode prog_2_method_1_code 10 = .ok (.dload_n 1, 1) := by decide +kernel
theorem od_prog_2_m_1_11 : decode prog_2_method_1_code 11 = .ok (.ldc2_w 9, 3) := by decide +kernel
theorem od_prog_2_m_1_14 : decode prog_2_method_1_code 14 = .ok (.dcmp .g, 1) := by decide +kernel
theorem od_prog_2_m_1_15 : decode prog_2_method_1_code 15 = .ok (.ifCond .lt 17, 3) := by decide +kernel
theorem od_prog_2_m_1_32 : decode prog_2_method_1_code 32 = .ok (.dload_n 3, 1) := by decide +kernel
theorem od_prog_2_m_1_33 : decode prog_2_method_1_code 33 = .ok (.dconst 0, 1) := by decide +kernel
theorem od_prog_2_m_1_34 : decode prog_2_method_1_code 34 = .ok (.dcmp .l, 1) := by decide +kernel
theorem od_prog_2_m_1_35 : decode prog_2_method_1_code 35 = .ok (.ifCond .lt 9, 3) := by decide +kernel
theorem od_prog_2_m_1_38 : decode prog_2_method_1_code 38 = .ok (.dload_n 3, 1) := by decide +kernel
theorem od_prog_2_m_1_39 : decode prog_2_method_1_code 39 = .ok (.dconst 1, 1) := by decide +kernel
theorem od_prog_2_m_1_40 : decode prog_2_method_1_code 40 = .ok (.dcmp .g, 1) := by decide +kernel
theorem od_prog_2_m_1_41 : decode prog_2_method_1_code 41 = .ok (.ifCond .le 17, 3) := by decide +kernel
theorem od_prog_2_m_1_58 : decode prog_2_method_1_code 58 = .ok (.aload_n 0, 1) := by decide +kernel
theorem od_prog_2_m_1_59 : decode prog_2_method_1_code 59 = .ok (.dload_n 1, 1) := by decide +kernel
theorem od_prog_2_m_1_60 : decode prog_2_method_1_code 60 = .ok (.putfield 21, 3) := by decide +kernel
theorem od_prog_2_m_1_63 : decode prog_2_method_1_code 63 = .ok (.aload_n 0, 1) := by decide +kernel
theorem od_prog_2_m_1_64 : decode prog_2_method_1_code 64 = .ok (.dload_n 3, 1) := by decide +kernel
theorem od_prog_2_m_1_65 : decode prog_2_method_1_code 65 = .ok (.putfield 27, 3) := by decide +kernel
theorem od_prog_2_m_1_68 : decode prog_2_method_1_code 68 = .ok (.return_, 1) := by decide +kernel
theorem od_prog_2_m_4_0 : decode prog_2_method_4_code 0 = .ok (.dconst 1, 1) := by decide +kernel
theorem od_prog_2_m_4_1 : decode prog_2_method_4_code 1 = .ok (.aload_n 0, 1) := by decide +kernel
theorem od_prog_2_m_4_2 : decode prog_2_method_4_code 2 = .ok (.getfield 27, 3) := by decide +kernel
theorem od_prog_2_m_4_5 : decode prog_2_method_4_code 5 = .ok (.dsub, 1) := by decide +kernel
theorem od_prog_2_m_4_6 : decode prog_2_method_4_code 6 = .ok (.aload_n 0, 1) := by decide +kernel
theorem od_prog_2_m_4_7 : decode prog_2_method_4_code 7 = .ok (.getfield 27, 3) := by decide +kernel
theorem od_prog_2_m_4_10 : decode prog_2_method_4_code 10 = .ok (.dload_n 3, 1) := by decide +kernel
theorem od_prog_2_m_4_11 : decode prog_2_method_4_code 11 = .ok (.dmul, 1) := by decide +kernel
theorem od_prog_2_m_4_12 : decode prog_2_method_4_code 12 = .ok (.dload 5, 2) := by decide +kernel
theorem od_prog_2_m_4_14 : decode prog_2_method_4_code 14 = .ok (.ddiv, 1) := by decide +kernel
theorem od_prog_2_m_4_15 : decode prog_2_method_4_code 15 = .ok (.dadd, 1) := by decide +kernel
theorem od_prog_2_m_4_16 : decode prog_2_method_4_code 16 = .ok (.dstore 9, 2) := by decide +kernel
theorem od_prog_2_m_4_18 : decode prog_2_method_4_code 18 = .ok (.dload 7, 2) := by decide +kernel
theorem od_prog_2_m_4_20 : decode prog_2_method_4_code 20 = .ok (.dload_n 1, 1) := by decide +kernel
theorem od_prog_2_m_4_21 : decode prog_2_method_4_code 21 = .ok (.dmul, 1) := by decide +kernel
theorem od_prog_2_m_4_22 : decode prog_2_method_4_code 22 = .ok (.aload_n 0, 1) := by decide +kernel
theorem od_prog_2_m_4_23 : decode prog_2_method_4_code 23 = .ok (.getfield 21, 3) := by decide +kernel
theorem od_prog_2_m_4_26 : decode prog_2_method_4_code 26 = .ok (.aload_n 0, 1) := by decide +kernel
theorem od_prog_2_m_4_27 : decode prog_2_method_4_code 27 = .ok (.getfield 21, 3) := by decide +kernel
theorem od_prog_2_m_4_30 : decode prog_2_method_4_code 30 = .ok (.dconst 1, 1) := by decide +kernel
theorem od_prog_2_m_4_31 : decode prog_2_method_4_code 31 = .ok (.dadd, 1) := by decide +kernel
theorem od_prog_2_m_4_32 : decode prog_2_method_4_code 32 = .ok (.ddiv, 1) := by decide +kernel
theorem od_prog_2_m_4_33 : decode prog_2_method_4_code 33 = .ok (.dload 9, 2) := by decide +kernel
theorem od_prog_2_m_4_35 : decode prog_2_method_4_code 35 = .ok (.dmul, 1) := by decide +kernel
theorem od_prog_2_m_4_36 : decode prog_2_method_4_code 36 = .ok (.dload_n 1, 1) := by decide +kernel
theorem od_prog_2_m_4_37 : decode prog_2_method_4_code 37 = .ok (.aload_n 0, 1) := by decide +kernel
theorem od_prog_2_m_4_38 : decode prog_2_method_4_code 38 = .ok (.getfield 21, 3) := by decide +kernel
theorem od_prog_2_m_4_41 : decode prog_2_method_4_code 41 = .ok (.dconst 1, 1) := by decide +kernel
theorem od_prog_2_m_4_42 : decode prog_2_method_4_code 42 = .ok (.dadd, 1) := by decide +kernel
theorem od_prog_2_m_4_43 : decode prog_2_method_4_code 43 = .ok (.ddiv, 1) := by decide +kernel
theorem od_prog_2_m_4_44 : decode prog_2_method_4_code 44 = .ok (.dadd, 1) := by decide +kernel
theorem od_prog_2_m_4_45 : decode prog_2_method_4_code 45 = .ok (.ddiv, 1) := by decide +kernel
theorem od_prog_2_m_4_46 : decode prog_2_method_4_code 46 = .ok (.dreturn, 1) := by decide +kernel
theorem opd_0 : parseMethodDescriptor "(DD)V" = some ⟨[.double, .double], none⟩ := by decide +kernel
theorem opd_1 : parseMethodDescriptor "(DDDD)D" = some ⟨[.double, .double, .double, .double], some .double⟩ := by decide +kernel
theorem opn_0 : plainName "com/example/antecedent/antecedent/Bm25" = true := by first | (simp [plainName, overriddenIn]; done) | decide +kernel
theorem opn_1 : plainName "com/example/antecedent/antecedent/Bm25ScorePinLaw" = true := by first | (simp [plainName, overriddenIn]; done) | decide +kernel
theorem oef_bmi (m : MethodId) (x0 : Addr) (x1 : UInt64) (x2 : UInt64) : entryFrame m #[(.ref x0), (.double x1), (.double x2)] 5 = mkF m 0 #[.val (.ref x0), .val (.double x1), .second, .val (.double x2), .second] [] := by first | (simp [entryFrame, mkF, argsToLocals, Value.category, maxLocals]; done) | rfl
theorem oef_score (m : MethodId) (x0 : Addr) (x1 : UInt64) (x2 : UInt64) (x3 : UInt64) (x4 : UInt64) : entryFrame m #[(.ref x0), (.double x1), (.double x2), (.double x3), (.double x4)] 11 = mkF m 0 #[.val (.ref x0), .val (.double x1), .second, .val (.double x2), .second, .val (.double x3), .second, .val (.double x4), .second, .unset, .unset] [] := by first | (simp [entryFrame, mkF, argsToLocals, Value.category, maxLocals]; done) | rfl
theorem oef_law (m : MethodId) (x0 : Int32) (x1 : Int32) (x2 : Int32) (x3 : Int32) (x4 : Int32) (x5 : Int32) : entryFrame m #[(.int x0), (.int x1), (.int x2), (.int x3), (.int x4), (.int x5)] maxLocals = mkF m 0 #[.val (.int x0), .val (.int x1), .val (.int x2), .val (.int x3), .val (.int x4), .val (.int x5), .unset, .unset, .unset, .unset, .unset, .unset, .unset, .unset, .unset, .unset, .unset, .unset, .unset, .unset, .unset] [] := by first | (simp [entryFrame, mkF, argsToLocals, Value.category, maxLocals]; done) | rfl
def Q_bmi (Z : State) (a1 : Addr) (k1 : UInt64) (bb : UInt64) (h0 : Heap) (n0 : Nat) (v : Option Value) (h : Heap) (L : List Loc) : Prop := v = none ∧ Fr n0 L ∧ Keep h0 h [a1] ∧ (Exa Z h a1 "com/example/antecedent/antecedent/Bm25") ∧ (Fld Z h a1 "com/example/antecedent/antecedent/Bm25" "k1" "D" (.double k1)) ∧ (Fld Z h a1 "com/example/antecedent/antecedent/Bm25" "b" "D" (.double bb))
set_option maxRecDepth 65536 in
set_option maxHeartbeats 40000000 in
theorem rm_bmi (l : Launch) (Z : State) (a0 : Array Value) (hw : HW a0 Z) (ws : List Jvm.Cond) (a1 : Addr) (k1 : UInt64) (bb : UInt64) (h0 : Heap) (n0 : Nat) (Z0 : n0 ≤ h0.size) (E1 : Exa Z h0 a1 "com/example/antecedent/antecedent/Bm25") (g_a1 : n0 ≤ a1) (F1 : Fld Z h0 a1 "com/example/antecedent/antecedent/Bm25" "k1" "D" (.double 0)) (F2 : Fld Z h0 a1 "com/example/antecedent/antecedent/Bm25" "b" "D" (.double 0)) (H1 : ¬ cmpValue (FP.dcmp k1 (FP.l2d 0)) .l < 0) (H2 : cmpValue (FP.dcmp k1 (9218868437227405312 : UInt64)) .g < 0) (H3 : ¬ cmpValue (FP.dcmp bb (FP.l2d 0)) .l < 0) (H4 : ¬ 0 < cmpValue (FP.dcmp bb (FP.l2d 1)) .g) :
    MetFree l (⟨"com/example/antecedent/antecedent/Bm25", "<init>", "(DD)V"⟩ : MethodName) (head1 (Jvm.Cond.code (⟨"com/example/antecedent/antecedent/Bm25", "<init>", "(DD)V"⟩ : MethodName) prog_2_method_1_code 5 (Option.none : Option Jvm.ClassFile.FieldType) :: ws) ({ frames := 1, cells := 0, slots := 0, locals := 12 } : Room)) (fun a U => a = #[(.ref a1), (.double k1), (.double bb)] ∧ Z.Warmed39 U.vm ∧ U.heap = h0) (fun _ _ _ _ _ => True) (fun _ U o U' => Out U (Q_bmi Z a1 k1 bb h0 n0) ({ frames := 1, cells := 0, slots := 0, locals := 12 } : Room).cells ({ frames := 1, cells := 0, slots := 0, locals := 12 } : Room).slots o U') := by
  refine MetFree.of_bodySF (plainFor_of_name opn_0) hisR ?_
  intro p e s m args below meth c s₁ Bd hml0 hP hK
  obtain ⟨rfl, hZ, hh⟩ := hP
  have hx := Bd.exec
  have hby := Bd.bytes
  have hml : c.maxLocals = 5 := hml0
  have hret := Bd.returns
  have hlk : meth.locks = false := BodyLoose.notSynchronized Bd
  have hown : s.vm.findClass "com/example/antecedent/antecedent/Bm25" = some m.cls := findClass_of_methodNamed Bd.named
  have hnm := (name_of_methodNamed Bd.named Bd.method).1
  have X0 : Stand p l e ({ frames := 1, cells := 0, slots := 0, locals := 12 } : Room) s m #[(.ref a1), (.double k1), (.double bb)] below meth c s₁ [] 0 0 := Stand.of_body Bd
  have e0 : s₁.heap = h0 := by rw [← hh, Bd.state]; rfl
  have N0 := Fr.nil n0
  have K0 : Keep h0 h0 [a1] := Keep.refl h0 _
  show Go p e below (Out s (Q_bmi Z a1 k1 bb h0 n0) ({ frames := 1, cells := 0, slots := 0, locals := 12 } : Room).cells ({ frames := 1, cells := 0, slots := 0, locals := 12 } : Room).slots) s₁ (entryFrame m #[(.ref a1), (.double k1), (.double bb)] 5)
  refine Go.cast (oef_bmi m a1 k1 bb) ?_
  show Go p e below _ s₁ (mkF m 0 #[.val (.ref a1), .val (.double k1), .second, .val (.double bb), .second] [])
  refine Go.by (fun t k => XS.aloadN X0.here hx rfl (hb hby od_prog_2_m_1_0) rfl rfl k) ?_
  show Go p e below _ s₁ (mkF m 1 #[.val (.ref a1), .val (.double k1), .second, .val (.double bb), .second] [(.ref a1)])
  obtain ⟨T101, X101, e101, st101⟩ := initO X0 hx hZ hown (ow8 hw) (ow9 hw) (ow10 hw) e0 (g := (mkF m 1 #[.val (.ref a1), .val (.double k1), .second, .val (.double bb), .second] [(.ref a1)])) rfl (by rw [hml]; rfl) rfl (hb hby od_prog_2_m_1_1) (by decide) (W := 0) (by show 2 * 0 + _ ≤ _; exact Nat.le_of_eq rfl) (by decide)
  refine Go.by st101 ?_
  show Go p e below _ T101 (mkF m 4 #[.val (.ref a1), .val (.double k1), .second, .val (.double bb), .second] [])
  refine Go.by (fun t k => XS.dloadN X101.here hx rfl (hb hby od_prog_2_m_1_4) rfl (XS.dconst0 X101.here hx rfl (hb hby od_prog_2_m_1_5) (v := (FP.l2d 0)) (by decide +kernel) k)) ?_
  show Go p e below _ T101 (mkF m 6 #[.val (.ref a1), .val (.double k1), .second, .val (.double bb), .second] [(.double (FP.l2d 0)), (.double k1)])
  have q102 : cmpValue (FP.dcmp k1 (FP.l2d 0)) .l = (cmpValue (FP.dcmp k1 (FP.l2d 0)) .l) := rfl
  refine Go.by (fun t k => XS.dcmpS X101.here hx rfl (hb hby od_prog_2_m_1_6) rfl q102 k) ?_
  show Go p e below _ T101 (mkF m 7 #[.val (.ref a1), .val (.double k1), .second, .val (.double bb), .second] [(.int (cmpValue (FP.dcmp k1 (FP.l2d 0)) .l))])
  refine Go.by (fun t k => XS.ifNo X101.here hx rfl (hb hby od_prog_2_m_1_7) rfl ((if0 _ _).trans (flt (show ¬ ((cmpValue (FP.dcmp k1 (FP.l2d 0)) .l) < (0 : Int32)) from H1)).1) k) ?_
  show Go p e below _ T101 (mkF m 10 #[.val (.ref a1), .val (.double k1), .second, .val (.double bb), .second] [])
  refine Go.by (fun t k => XS.dloadN X101.here hx rfl (hb hby od_prog_2_m_1_10) rfl k) ?_
  show Go p e below _ T101 (mkF m 11 #[.val (.ref a1), .val (.double k1), .second, .val (.double bb), .second] [(.double k1)])
  refine Go.by (X101.ldc2DoubleC hx hown (mvT hZ (ow11 hw)) (g := (mkF m 11 #[.val (.ref a1), .val (.double k1), .second, .val (.double bb), .second] [(.double k1)])) rfl (hb hby od_prog_2_m_1_11)) ?_
  show Go p e below _ T101 (mkF m 14 #[.val (.ref a1), .val (.double k1), .second, .val (.double bb), .second] [(.double (9218868437227405312 : UInt64)), (.double k1)])
  have q103 : cmpValue (FP.dcmp k1 (9218868437227405312 : UInt64)) .g = (cmpValue (FP.dcmp k1 (9218868437227405312 : UInt64)) .g) := rfl
  refine Go.by (fun t k => XS.dcmpS X101.here hx rfl (hb hby od_prog_2_m_1_14) rfl q103 k) ?_
  show Go p e below _ T101 (mkF m 15 #[.val (.ref a1), .val (.double k1), .second, .val (.double bb), .second] [(.int (cmpValue (FP.dcmp k1 (9218868437227405312 : UInt64)) .g))])
  refine Go.by (fun t k => XS.ifYes X101.here hx rfl (pc0 := 15) (pc' := 32) rfl (hb hby od_prog_2_m_1_15) rfl ((if0 _ _).trans (tlt (show (cmpValue (FP.dcmp k1 (9218868437227405312 : UInt64)) .g) < (0 : Int32) from H2)).1) (by decide) (by decide) k) ?_
  show Go p e below _ T101 (mkF m 32 #[.val (.ref a1), .val (.double k1), .second, .val (.double bb), .second] [])
  refine Go.by (fun t k => XS.dloadN X101.here hx rfl (hb hby od_prog_2_m_1_32) rfl (XS.dconst0 X101.here hx rfl (hb hby od_prog_2_m_1_33) (v := (FP.l2d 0)) (by decide +kernel) k)) ?_
  show Go p e below _ T101 (mkF m 34 #[.val (.ref a1), .val (.double k1), .second, .val (.double bb), .second] [(.double (FP.l2d 0)), (.double bb)])
  have q104 : cmpValue (FP.dcmp bb (FP.l2d 0)) .l = (cmpValue (FP.dcmp bb (FP.l2d 0)) .l) := rfl
  refine Go.by (fun t k => XS.dcmpS X101.here hx rfl (hb hby od_prog_2_m_1_34) rfl q104 k) ?_
  show Go p e below _ T101 (mkF m 35 #[.val (.ref a1), .val (.double k1), .second, .val (.double bb), .second] [(.int (cmpValue (FP.dcmp bb (FP.l2d 0)) .l))])
  refine Go.by (fun t k => XS.ifNo X101.here hx rfl (hb hby od_prog_2_m_1_35) rfl ((if0 _ _).trans (flt (show ¬ ((cmpValue (FP.dcmp bb (FP.l2d 0)) .l) < (0 : Int32)) from H3)).1) k) ?_
  show Go p e below _ T101 (mkF m 38 #[.val (.ref a1), .val (.double k1), .second, .val (.double bb), .second] [])
  refine Go.by (fun t k => XS.dloadN X101.here hx rfl (hb hby od_prog_2_m_1_38) rfl (XS.dconst1 X101.here hx rfl (hb hby od_prog_2_m_1_39) (v := (FP.l2d 1)) (by decide +kernel) k)) ?_
  show Go p e below _ T101 (mkF m 40 #[.val (.ref a1), .val (.double k1), .second, .val (.double bb), .second] [(.double (FP.l2d 1)), (.double bb)])
  have q105 : cmpValue (FP.dcmp bb (FP.l2d 1)) .g = (cmpValue (FP.dcmp bb (FP.l2d 1)) .g) := rfl
  refine Go.by (fun t k => XS.dcmpS X101.here hx rfl (hb hby od_prog_2_m_1_40) rfl q105 k) ?_
  show Go p e below _ T101 (mkF m 41 #[.val (.ref a1), .val (.double k1), .second, .val (.double bb), .second] [(.int (cmpValue (FP.dcmp bb (FP.l2d 1)) .g))])
  refine Go.by (fun t k => XS.ifYes X101.here hx rfl (pc0 := 41) (pc' := 58) rfl (hb hby od_prog_2_m_1_41) rfl ((if0 _ _).trans (flt (show ¬ ((0 : Int32) < (cmpValue (FP.dcmp bb (FP.l2d 1)) .g)) from H4)).2.2.2) (by decide) (by decide) k) ?_
  show Go p e below _ T101 (mkF m 58 #[.val (.ref a1), .val (.double k1), .second, .val (.double bb), .second] [])
  refine Go.by (fun t k => XS.aloadN X101.here hx rfl (hb hby od_prog_2_m_1_58) rfl rfl (XS.dloadN X101.here hx rfl (hb hby od_prog_2_m_1_59) rfl k)) ?_
  show Go p e below _ T101 (mkF m 60 #[.val (.ref a1), .val (.double k1), .second, .val (.double bb), .second] [(.double k1), (.ref a1)])
  obtain ⟨T106, h106, X106, e106, W106, st106⟩ := putF X101 hx hZ hown (host := "") (Or.inl (ow12 hw)) Via.refl e101 F1 E1 (Or.inr ⟨(ow13 hw), rfl, hnm⟩) (ow2 hw) (ty := .double) (by decide) rfl rfl (g := (mkF m 60 #[.val (.ref a1), .val (.double k1), .second, .val (.double bb), .second] [(.double k1), (.ref a1)])) rfl rfl (hb hby od_prog_2_m_1_60)
  refine Go.by st106 ?_
  have N106 := Fr.snoc X106 N0 g_a1
  have K107 : Keep h0 h106 [a1] := K0.wr W106 (Or.inl (List.mem_of_getElem? (i := 0) rfl))
  show Go p e below _ T106 (mkF m 63 #[.val (.ref a1), .val (.double k1), .second, .val (.double bb), .second] [])
  refine Go.by (fun t k => XS.aloadN X106.here hx rfl (hb hby od_prog_2_m_1_63) rfl rfl (XS.dloadN X106.here hx rfl (hb hby od_prog_2_m_1_64) rfl k)) ?_
  show Go p e below _ T106 (mkF m 65 #[.val (.ref a1), .val (.double k1), .second, .val (.double bb), .second] [(.double bb), (.ref a1)])
  have F109 : Fld Z h106 a1 "com/example/antecedent/antecedent/Bm25" "b" "D" (.double 0) := (F2.other W106 (Or.inr (slot_ne (Or.inr (ow15 hw)) (Or.inr (ow13 hw)) (by decide) (t := .double) (t' := .double) (by decide) (by decide))))
  have F110 : Exa Z h106 a1 "com/example/antecedent/antecedent/Bm25" := (E1.wr W106)
  obtain ⟨T108, h108, X108, e108, W108, st108⟩ := putF X106 hx hZ hown (host := "") (Or.inl (ow14 hw)) Via.refl e106 F109 F110 (Or.inr ⟨(ow15 hw), rfl, hnm⟩) (ow2 hw) (ty := .double) (by decide) rfl rfl (g := (mkF m 65 #[.val (.ref a1), .val (.double k1), .second, .val (.double bb), .second] [(.double bb), (.ref a1)])) rfl rfl (hb hby od_prog_2_m_1_65)
  refine Go.by st108 ?_
  have N108 := Fr.snoc X108 N106 g_a1
  have K111 : Keep h0 h108 [a1] := K107.wr W108 (Or.inl (List.mem_of_getElem? (i := 0) rfl))
  show Go p e below _ T108 (mkF m 68 #[.val (.ref a1), .val (.double k1), .second, .val (.double bb), .second] [])
  have F112 : Exa Z h108 a1 "com/example/antecedent/antecedent/Bm25" := (F110.wr W108)
  have F113 : Fld Z h108 a1 "com/example/antecedent/antecedent/Bm25" "k1" "D" (.double k1) := ((F1.same W106).other W108 (Or.inr (slot_ne (Or.inr (ow13 hw)) (Or.inr (ow15 hw)) (by decide) (t := .double) (t' := .double) (by decide) (by decide))))
  exact Go.ret0 X108 hx hret hlk (hb hby od_prog_2_m_1_68) (by first | (rw [e108]; exact ⟨rfl, N108, K111, F112, F113, (F109.same W108)⟩) | exact ⟨rfl, N108, K111, F112, F113, (F109.same W108)⟩) (by decide) (by decide)
def Q_score (Z : State) (a1 : Addr) (k1 : UInt64) (bb : UInt64) (tf : UInt64) (ln : UInt64) (av : UInt64) (idf : UInt64) (h0 : Heap) (n0 : Nat) (v : Option Value) (h : Heap) (L : List Loc) : Prop := v = some (.double (scoreV k1 bb tf ln av idf)) ∧ Fr n0 L ∧ h = h0
set_option maxRecDepth 65536 in
set_option maxHeartbeats 40000000 in
theorem rm_score (l : Launch) (Z : State) (a0 : Array Value) (hw : HW a0 Z) (ws : List Jvm.Cond) (a1 : Addr) (k1 : UInt64) (bb : UInt64) (tf : UInt64) (ln : UInt64) (av : UInt64) (idf : UInt64) (h0 : Heap) (n0 : Nat) (Z0 : n0 ≤ h0.size) (F1 : Fld Z h0 a1 "com/example/antecedent/antecedent/Bm25" "k1" "D" (.double k1)) (F2 : Fld Z h0 a1 "com/example/antecedent/antecedent/Bm25" "b" "D" (.double bb)) (NN : okV k1 bb tf ln av idf) :
    MetFree l (⟨"com/example/antecedent/antecedent/Bm25", "score", "(DDDD)D"⟩ : MethodName) (head1 (Jvm.Cond.code (⟨"com/example/antecedent/antecedent/Bm25", "score", "(DDDD)D"⟩ : MethodName) prog_2_method_4_code 11 (Option.some Jvm.ClassFile.FieldType.double) :: ws) ({ frames := 0, cells := 0, slots := 0, locals := 0 } : Room)) (fun a U => a = #[(.ref a1), (.double tf), (.double ln), (.double av), (.double idf)] ∧ Z.Warmed39 U.vm ∧ U.heap = h0) (fun _ _ _ _ _ => True) (fun _ U o U' => Out U (Q_score Z a1 k1 bb tf ln av idf h0 n0) ({ frames := 0, cells := 0, slots := 0, locals := 0 } : Room).cells ({ frames := 0, cells := 0, slots := 0, locals := 0 } : Room).slots o U') := by
  refine MetFree.of_bodySF (plainFor_of_name opn_0) hisR ?_
  intro p e s m args below meth c s₁ Bd hml0 hP hK
  obtain ⟨rfl, hZ, hh⟩ := hP
  have hx := Bd.exec
  have hby := Bd.bytes
  have hml : c.maxLocals = 11 := hml0
  have hret := Bd.returns
  have hlk : meth.locks = false := BodyLoose.notSynchronized Bd
  have hown : s.vm.findClass "com/example/antecedent/antecedent/Bm25" = some m.cls := findClass_of_methodNamed Bd.named
  have hnm := (name_of_methodNamed Bd.named Bd.method).1
  have X0 : Stand p l e ({ frames := 0, cells := 0, slots := 0, locals := 0 } : Room) s m #[(.ref a1), (.double tf), (.double ln), (.double av), (.double idf)] below meth c s₁ [] 0 0 := Stand.of_body Bd
  have e0 : s₁.heap = h0 := by rw [← hh, Bd.state]; rfl
  have N0 := Fr.nil n0
  show Go p e below (Out s (Q_score Z a1 k1 bb tf ln av idf h0 n0) ({ frames := 0, cells := 0, slots := 0, locals := 0 } : Room).cells ({ frames := 0, cells := 0, slots := 0, locals := 0 } : Room).slots) s₁ (entryFrame m #[(.ref a1), (.double tf), (.double ln), (.double av), (.double idf)] 11)
  refine Go.cast (oef_score m a1 tf ln av idf) ?_
  show Go p e below _ s₁ (mkF m 0 #[.val (.ref a1), .val (.double tf), .second, .val (.double ln), .second, .val (.double av), .second, .val (.double idf), .second, .unset, .unset] [])
  obtain ⟨n1, n2, n3, n4, n5, n6, n7, n8, n9, n10, n11⟩ := NN
  refine Go.by (fun t k => XS.dconst1 X0.here hx rfl (hb hby od_prog_2_m_4_0) (v := (FP.l2d 1)) (by decide +kernel) (XS.aloadN X0.here hx rfl (hb hby od_prog_2_m_4_1) rfl rfl k)) ?_
  show Go p e below _ s₁ (mkF m 2 #[.val (.ref a1), .val (.double tf), .second, .val (.double ln), .second, .val (.double av), .second, .val (.double idf), .second, .unset, .unset] [(.ref a1), (.double (FP.l2d 1))])
  obtain ⟨T114, X114, e114, st114⟩ := getF X0 hx hZ hown (host := "") (Or.inl (ow14 hw)) Via.refl e0 F2 (g := (mkF m 2 #[.val (.ref a1), .val (.double tf), .second, .val (.double ln), .second, .val (.double av), .second, .val (.double idf), .second, .unset, .unset] [(.ref a1), (.double (FP.l2d 1))])) rfl rfl (hb hby od_prog_2_m_4_2)
  refine Go.by st114 ?_
  show Go p e below _ T114 (mkF m 5 #[.val (.ref a1), .val (.double tf), .second, .val (.double ln), .second, .val (.double av), .second, .val (.double idf), .second, .unset, .unset] [(.double bb), (.double (FP.l2d 1))])
  have q115 : FP.dsub (FP.l2d 1) bb = (FP.dsub (FP.l2d 1) bb) := rfl
  refine Go.by (fun t k => XS.dsubS X114.here hx rfl (hb hby od_prog_2_m_4_5) rfl n1 q115 k) ?_
  show Go p e below _ T114 (mkF m 6 #[.val (.ref a1), .val (.double tf), .second, .val (.double ln), .second, .val (.double av), .second, .val (.double idf), .second, .unset, .unset] [(.double (FP.dsub (FP.l2d 1) bb))])
  refine Go.by (fun t k => XS.aloadN X114.here hx rfl (hb hby od_prog_2_m_4_6) rfl rfl k) ?_
  show Go p e below _ T114 (mkF m 7 #[.val (.ref a1), .val (.double tf), .second, .val (.double ln), .second, .val (.double av), .second, .val (.double idf), .second, .unset, .unset] [(.ref a1), (.double (FP.dsub (FP.l2d 1) bb))])
  obtain ⟨T116, X116, e116, st116⟩ := getF X114 hx hZ hown (host := "") (Or.inl (ow14 hw)) Via.refl e114 F2 (g := (mkF m 7 #[.val (.ref a1), .val (.double tf), .second, .val (.double ln), .second, .val (.double av), .second, .val (.double idf), .second, .unset, .unset] [(.ref a1), (.double (FP.dsub (FP.l2d 1) bb))])) rfl rfl (hb hby od_prog_2_m_4_7)
  refine Go.by st116 ?_
  show Go p e below _ T116 (mkF m 10 #[.val (.ref a1), .val (.double tf), .second, .val (.double ln), .second, .val (.double av), .second, .val (.double idf), .second, .unset, .unset] [(.double bb), (.double (FP.dsub (FP.l2d 1) bb))])
  refine Go.by (fun t k => XS.dloadN X116.here hx rfl (hb hby od_prog_2_m_4_10) rfl k) ?_
  show Go p e below _ T116 (mkF m 11 #[.val (.ref a1), .val (.double tf), .second, .val (.double ln), .second, .val (.double av), .second, .val (.double idf), .second, .unset, .unset] [(.double ln), (.double bb), (.double (FP.dsub (FP.l2d 1) bb))])
  have q117 : FP.dmul bb ln = (FP.dmul bb ln) := rfl
  refine Go.by (fun t k => XS.dmulS X116.here hx rfl (hb hby od_prog_2_m_4_11) rfl n2 q117 k) ?_
  show Go p e below _ T116 (mkF m 12 #[.val (.ref a1), .val (.double tf), .second, .val (.double ln), .second, .val (.double av), .second, .val (.double idf), .second, .unset, .unset] [(.double (FP.dmul bb ln)), (.double (FP.dsub (FP.l2d 1) bb))])
  refine Go.by (fun t k => XS.dload X116.here hx rfl (hb hby od_prog_2_m_4_12) rfl k) ?_
  show Go p e below _ T116 (mkF m 14 #[.val (.ref a1), .val (.double tf), .second, .val (.double ln), .second, .val (.double av), .second, .val (.double idf), .second, .unset, .unset] [(.double av), (.double (FP.dmul bb ln)), (.double (FP.dsub (FP.l2d 1) bb))])
  have q118 : FP.ddiv (FP.dmul bb ln) av = (FP.ddiv (FP.dmul bb ln) av) := rfl
  refine Go.by (fun t k => XS.ddivS X116.here hx rfl (hb hby od_prog_2_m_4_14) rfl n3 q118 k) ?_
  show Go p e below _ T116 (mkF m 15 #[.val (.ref a1), .val (.double tf), .second, .val (.double ln), .second, .val (.double av), .second, .val (.double idf), .second, .unset, .unset] [(.double (FP.ddiv (FP.dmul bb ln) av)), (.double (FP.dsub (FP.l2d 1) bb))])
  have q119 : FP.dadd (FP.dsub (FP.l2d 1) bb) (FP.ddiv (FP.dmul bb ln) av) = (nrm bb ln av) := rfl
  refine Go.by (fun t k => XS.daddS X116.here hx rfl (hb hby od_prog_2_m_4_15) rfl n4 q119 k) ?_
  show Go p e below _ T116 (mkF m 16 #[.val (.ref a1), .val (.double tf), .second, .val (.double ln), .second, .val (.double av), .second, .val (.double idf), .second, .unset, .unset] [(.double (nrm bb ln av))])
  refine Go.by (fun t k => XS.dstore X116.here hx rfl (hb hby od_prog_2_m_4_16) rfl (l' := #[.val (.ref a1), .val (.double tf), .second, .val (.double ln), .second, .val (.double av), .second, .val (.double idf), .second, .val (.double (nrm bb ln av)), .second]) rfl (XS.dload X116.here hx rfl (hb hby od_prog_2_m_4_18) rfl (XS.dloadN X116.here hx rfl (hb hby od_prog_2_m_4_20) rfl k))) ?_
  show Go p e below _ T116 (mkF m 21 #[.val (.ref a1), .val (.double tf), .second, .val (.double ln), .second, .val (.double av), .second, .val (.double idf), .second, .val (.double (nrm bb ln av)), .second] [(.double tf), (.double idf)])
  have q120 : FP.dmul idf tf = (FP.dmul idf tf) := rfl
  refine Go.by (fun t k => XS.dmulS X116.here hx rfl (hb hby od_prog_2_m_4_21) rfl n5 q120 k) ?_
  show Go p e below _ T116 (mkF m 22 #[.val (.ref a1), .val (.double tf), .second, .val (.double ln), .second, .val (.double av), .second, .val (.double idf), .second, .val (.double (nrm bb ln av)), .second] [(.double (FP.dmul idf tf))])
  refine Go.by (fun t k => XS.aloadN X116.here hx rfl (hb hby od_prog_2_m_4_22) rfl rfl k) ?_
  show Go p e below _ T116 (mkF m 23 #[.val (.ref a1), .val (.double tf), .second, .val (.double ln), .second, .val (.double av), .second, .val (.double idf), .second, .val (.double (nrm bb ln av)), .second] [(.ref a1), (.double (FP.dmul idf tf))])
  obtain ⟨T121, X121, e121, st121⟩ := getF X116 hx hZ hown (host := "") (Or.inl (ow12 hw)) Via.refl e116 F1 (g := (mkF m 23 #[.val (.ref a1), .val (.double tf), .second, .val (.double ln), .second, .val (.double av), .second, .val (.double idf), .second, .val (.double (nrm bb ln av)), .second] [(.ref a1), (.double (FP.dmul idf tf))])) rfl rfl (hb hby od_prog_2_m_4_23)
  refine Go.by st121 ?_
  show Go p e below _ T121 (mkF m 26 #[.val (.ref a1), .val (.double tf), .second, .val (.double ln), .second, .val (.double av), .second, .val (.double idf), .second, .val (.double (nrm bb ln av)), .second] [(.double k1), (.double (FP.dmul idf tf))])
  refine Go.by (fun t k => XS.aloadN X121.here hx rfl (hb hby od_prog_2_m_4_26) rfl rfl k) ?_
  show Go p e below _ T121 (mkF m 27 #[.val (.ref a1), .val (.double tf), .second, .val (.double ln), .second, .val (.double av), .second, .val (.double idf), .second, .val (.double (nrm bb ln av)), .second] [(.ref a1), (.double k1), (.double (FP.dmul idf tf))])
  obtain ⟨T122, X122, e122, st122⟩ := getF X121 hx hZ hown (host := "") (Or.inl (ow12 hw)) Via.refl e121 F1 (g := (mkF m 27 #[.val (.ref a1), .val (.double tf), .second, .val (.double ln), .second, .val (.double av), .second, .val (.double idf), .second, .val (.double (nrm bb ln av)), .second] [(.ref a1), (.double k1), (.double (FP.dmul idf tf))])) rfl rfl (hb hby od_prog_2_m_4_27)
  refine Go.by st122 ?_
  show Go p e below _ T122 (mkF m 30 #[.val (.ref a1), .val (.double tf), .second, .val (.double ln), .second, .val (.double av), .second, .val (.double idf), .second, .val (.double (nrm bb ln av)), .second] [(.double k1), (.double k1), (.double (FP.dmul idf tf))])
  refine Go.by (fun t k => XS.dconst1 X122.here hx rfl (hb hby od_prog_2_m_4_30) (v := (FP.l2d 1)) (by decide +kernel) k) ?_
  show Go p e below _ T122 (mkF m 31 #[.val (.ref a1), .val (.double tf), .second, .val (.double ln), .second, .val (.double av), .second, .val (.double idf), .second, .val (.double (nrm bb ln av)), .second] [(.double (FP.l2d 1)), (.double k1), (.double k1), (.double (FP.dmul idf tf))])
  have q123 : FP.dadd k1 (FP.l2d 1) = (FP.dadd k1 (FP.l2d 1)) := rfl
  refine Go.by (fun t k => XS.daddS X122.here hx rfl (hb hby od_prog_2_m_4_31) rfl n6 q123 k) ?_
  show Go p e below _ T122 (mkF m 32 #[.val (.ref a1), .val (.double tf), .second, .val (.double ln), .second, .val (.double av), .second, .val (.double idf), .second, .val (.double (nrm bb ln av)), .second] [(.double (FP.dadd k1 (FP.l2d 1))), (.double k1), (.double (FP.dmul idf tf))])
  have q124 : FP.ddiv k1 (FP.dadd k1 (FP.l2d 1)) = (FP.ddiv k1 (FP.dadd k1 (FP.l2d 1))) := rfl
  refine Go.by (fun t k => XS.ddivS X122.here hx rfl (hb hby od_prog_2_m_4_32) rfl n7 q124 k) ?_
  show Go p e below _ T122 (mkF m 33 #[.val (.ref a1), .val (.double tf), .second, .val (.double ln), .second, .val (.double av), .second, .val (.double idf), .second, .val (.double (nrm bb ln av)), .second] [(.double (FP.ddiv k1 (FP.dadd k1 (FP.l2d 1)))), (.double (FP.dmul idf tf))])
  refine Go.by (fun t k => XS.dload X122.here hx rfl (hb hby od_prog_2_m_4_33) rfl k) ?_
  show Go p e below _ T122 (mkF m 35 #[.val (.ref a1), .val (.double tf), .second, .val (.double ln), .second, .val (.double av), .second, .val (.double idf), .second, .val (.double (nrm bb ln av)), .second] [(.double (nrm bb ln av)), (.double (FP.ddiv k1 (FP.dadd k1 (FP.l2d 1)))), (.double (FP.dmul idf tf))])
  have q125 : FP.dmul (FP.ddiv k1 (FP.dadd k1 (FP.l2d 1))) (nrm bb ln av) = (FP.dmul (FP.ddiv k1 (FP.dadd k1 (FP.l2d 1))) (nrm bb ln av)) := rfl
  refine Go.by (fun t k => XS.dmulS X122.here hx rfl (hb hby od_prog_2_m_4_35) rfl n8 q125 k) ?_
  show Go p e below _ T122 (mkF m 36 #[.val (.ref a1), .val (.double tf), .second, .val (.double ln), .second, .val (.double av), .second, .val (.double idf), .second, .val (.double (nrm bb ln av)), .second] [(.double (FP.dmul (FP.ddiv k1 (FP.dadd k1 (FP.l2d 1))) (nrm bb ln av))), (.double (FP.dmul idf tf))])
  refine Go.by (fun t k => XS.dloadN X122.here hx rfl (hb hby od_prog_2_m_4_36) rfl (XS.aloadN X122.here hx rfl (hb hby od_prog_2_m_4_37) rfl rfl k)) ?_
  show Go p e below _ T122 (mkF m 38 #[.val (.ref a1), .val (.double tf), .second, .val (.double ln), .second, .val (.double av), .second, .val (.double idf), .second, .val (.double (nrm bb ln av)), .second] [(.ref a1), (.double tf), (.double (FP.dmul (FP.ddiv k1 (FP.dadd k1 (FP.l2d 1))) (nrm bb ln av))), (.double (FP.dmul idf tf))])
  obtain ⟨T126, X126, e126, st126⟩ := getF X122 hx hZ hown (host := "") (Or.inl (ow12 hw)) Via.refl e122 F1 (g := (mkF m 38 #[.val (.ref a1), .val (.double tf), .second, .val (.double ln), .second, .val (.double av), .second, .val (.double idf), .second, .val (.double (nrm bb ln av)), .second] [(.ref a1), (.double tf), (.double (FP.dmul (FP.ddiv k1 (FP.dadd k1 (FP.l2d 1))) (nrm bb ln av))), (.double (FP.dmul idf tf))])) rfl rfl (hb hby od_prog_2_m_4_38)
  refine Go.by st126 ?_
  show Go p e below _ T126 (mkF m 41 #[.val (.ref a1), .val (.double tf), .second, .val (.double ln), .second, .val (.double av), .second, .val (.double idf), .second, .val (.double (nrm bb ln av)), .second] [(.double k1), (.double tf), (.double (FP.dmul (FP.ddiv k1 (FP.dadd k1 (FP.l2d 1))) (nrm bb ln av))), (.double (FP.dmul idf tf))])
  refine Go.by (fun t k => XS.dconst1 X126.here hx rfl (hb hby od_prog_2_m_4_41) (v := (FP.l2d 1)) (by decide +kernel) k) ?_
  show Go p e below _ T126 (mkF m 42 #[.val (.ref a1), .val (.double tf), .second, .val (.double ln), .second, .val (.double av), .second, .val (.double idf), .second, .val (.double (nrm bb ln av)), .second] [(.double (FP.l2d 1)), (.double k1), (.double tf), (.double (FP.dmul (FP.ddiv k1 (FP.dadd k1 (FP.l2d 1))) (nrm bb ln av))), (.double (FP.dmul idf tf))])
  have q127 : FP.dadd k1 (FP.l2d 1) = (FP.dadd k1 (FP.l2d 1)) := rfl
  refine Go.by (fun t k => XS.daddS X126.here hx rfl (hb hby od_prog_2_m_4_42) rfl n6 q127 k) ?_
  show Go p e below _ T126 (mkF m 43 #[.val (.ref a1), .val (.double tf), .second, .val (.double ln), .second, .val (.double av), .second, .val (.double idf), .second, .val (.double (nrm bb ln av)), .second] [(.double (FP.dadd k1 (FP.l2d 1))), (.double tf), (.double (FP.dmul (FP.ddiv k1 (FP.dadd k1 (FP.l2d 1))) (nrm bb ln av))), (.double (FP.dmul idf tf))])
  have q128 : FP.ddiv tf (FP.dadd k1 (FP.l2d 1)) = (FP.ddiv tf (FP.dadd k1 (FP.l2d 1))) := rfl
  refine Go.by (fun t k => XS.ddivS X126.here hx rfl (hb hby od_prog_2_m_4_43) rfl n9 q128 k) ?_
  show Go p e below _ T126 (mkF m 44 #[.val (.ref a1), .val (.double tf), .second, .val (.double ln), .second, .val (.double av), .second, .val (.double idf), .second, .val (.double (nrm bb ln av)), .second] [(.double (FP.ddiv tf (FP.dadd k1 (FP.l2d 1)))), (.double (FP.dmul (FP.ddiv k1 (FP.dadd k1 (FP.l2d 1))) (nrm bb ln av))), (.double (FP.dmul idf tf))])
  have q129 : FP.dadd (FP.dmul (FP.ddiv k1 (FP.dadd k1 (FP.l2d 1))) (nrm bb ln av)) (FP.ddiv tf (FP.dadd k1 (FP.l2d 1))) = (den k1 bb tf ln av) := rfl
  refine Go.by (fun t k => XS.daddS X126.here hx rfl (hb hby od_prog_2_m_4_44) rfl n10 q129 k) ?_
  show Go p e below _ T126 (mkF m 45 #[.val (.ref a1), .val (.double tf), .second, .val (.double ln), .second, .val (.double av), .second, .val (.double idf), .second, .val (.double (nrm bb ln av)), .second] [(.double (den k1 bb tf ln av)), (.double (FP.dmul idf tf))])
  have q130 : FP.ddiv (FP.dmul idf tf) (den k1 bb tf ln av) = (scoreV k1 bb tf ln av idf) := rfl
  refine Go.by (fun t k => XS.ddivS X126.here hx rfl (hb hby od_prog_2_m_4_45) rfl n11 q130 k) ?_
  show Go p e below _ T126 (mkF m 46 #[.val (.ref a1), .val (.double tf), .second, .val (.double ln), .second, .val (.double av), .second, .val (.double idf), .second, .val (.double (nrm bb ln av)), .second] [(.double (scoreV k1 bb tf ln av idf))])
  exact Go.retD X126 hx hret hlk (hb hby od_prog_2_m_4_46) (by first | (rw [e126]; exact ⟨rfl, N0, rfl⟩) | exact ⟨rfl, N0, rfl⟩) (by decide) (by decide)
def Q_law (Z : State) (i0 : Int32) (i1 : Int32) (i2 : Int32) (i3 : Int32) (i4 : Int32) (i5 : Int32) (h0 : Heap) (n0 : Nat) (v : Option Value) (h : Heap) (L : List Loc) : Prop := v = some (.int (1 : Int32)) ∧ Fr n0 L ∧ Keep h0 h []
set_option maxRecDepth 65536 in
set_option maxHeartbeats 40000000 in
theorem rm_law (l : Launch) (Z : State) (a0 : Array Value) (hw : HW a0 Z) (ws : List Jvm.Cond) (i0 : Int32) (i1 : Int32) (i2 : Int32) (i3 : Int32) (i4 : Int32) (i5 : Int32) (h0 : Heap) (n0 : Nat) (Z0 : n0 ≤ h0.size)  :
    MetFree l x (head1 (Jvm.Cond.code x code maxLocals ret :: ws) room_1) (fun a U => a = #[(.int i0), (.int i1), (.int i2), (.int i3), (.int i4), (.int i5)] ∧ Z.Warmed39 U.vm ∧ U.heap = h0) (fun _ _ _ _ _ => True) (fun _ U o U' => Out U (Q_law Z i0 i1 i2 i3 i4 i5 h0 n0) room_1.cells room_1.slots o U') := by
  refine MetFree.of_bodySF (plainFor_of_name opn_1) hisR ?_
  intro p e s m args below meth c s₁ Bd hml0 hP hK
  obtain ⟨rfl, hZ, hh⟩ := hP
  have hx := Bd.exec
  have hby := Bd.bytes
  have hml : c.maxLocals = 21 := hml0
  have hret := Bd.returns
  have hlk : meth.locks = false := BodyLoose.notSynchronized Bd
  have hown : s.vm.findClass "com/example/antecedent/antecedent/Bm25ScorePinLaw" = some m.cls := findClass_of_methodNamed Bd.named
  have hnm := (name_of_methodNamed Bd.named Bd.method).1
  have X0 : Stand p l e room_1 s m #[(.int i0), (.int i1), (.int i2), (.int i3), (.int i4), (.int i5)] below meth c s₁ [] 0 0 := Stand.of_body Bd
  have e0 : s₁.heap = h0 := by rw [← hh, Bd.state]; rfl
  have N0 := Fr.nil n0
  have K0 : Keep h0 h0 [] := Keep.refl h0 _
  show Go p e below (Out s (Q_law Z i0 i1 i2 i3 i4 i5 h0 n0) room_1.cells room_1.slots) s₁ (entryFrame m #[(.int i0), (.int i1), (.int i2), (.int i3), (.int i4), (.int i5)] maxLocals)
  refine Go.cast (oef_law m i0 i1 i2 i3 i4 i5) ?_
  show Go p e below _ s₁ (mkF m 0 #[.val (.int i0), .val (.int i1), .val (.int i2), .val (.int i3), .val (.int i4), .val (.int i5), .unset, .unset, .unset, .unset, .unset, .unset, .unset, .unset, .unset, .unset, .unset, .unset, .unset, .unset, .unset] [])
  refine Go.by (fun t k => XS.iconst X0.here hx rfl (hb hby at_0) (XS.iloadN X0.here hx rfl (hb hby at_1) rfl k)) ?_
  show Go p e below _ s₁ (mkF m 2 #[.val (.int i0), .val (.int i1), .val (.int i2), .val (.int i3), .val (.int i4), .val (.int i5), .unset, .unset, .unset, .unset, .unset, .unset, .unset, .unset, .unset, .unset, .unset, .unset, .unset, .unset, .unset] [(.int i0), (.int (1 : Int32))])
  refine Go.by (X0.ldcInt hx hown (mvT hZ (ow0 hw)) (g := (mkF m 2 #[.val (.int i0), .val (.int i1), .val (.int i2), .val (.int i3), .val (.int i4), .val (.int i5), .unset, .unset, .unset, .unset, .unset, .unset, .unset, .unset, .unset, .unset, .unset, .unset, .unset, .unset, .unset] [(.int i0), (.int (1 : Int32))])) rfl (hb hby at_2)) ?_
  show Go p e below _ s₁ (mkF m 4 #[.val (.int i0), .val (.int i1), .val (.int i2), .val (.int i3), .val (.int i4), .val (.int i5), .unset, .unset, .unset, .unset, .unset, .unset, .unset, .unset, .unset, .unset, .unset, .unset, .unset, .unset, .unset] [(.int (65535 : Int32)), (.int i0), (.int (1 : Int32))])
  refine Go.by (fun t k => XS.iand X0.here hx rfl (hb hby at_4) rfl (XS.iadd X0.here hx rfl (hb hby at_5) rfl (XS.istore X0.here hx rfl (hb hby at_6) rfl (l' := #[.val (.int i0), .val (.int i1), .val (.int i2), .val (.int i3), .val (.int i4), .val (.int i5), .val (.int ((1 : Int32) + (i0 &&& (65535 : Int32)))), .unset, .unset, .unset, .unset, .unset, .unset, .unset, .unset, .unset, .unset, .unset, .unset, .unset, .unset]) rfl (XS.iloadN X0.here hx rfl (hb hby at_8) rfl k)))) ?_
  show Go p e below _ s₁ (mkF m 9 #[.val (.int i0), .val (.int i1), .val (.int i2), .val (.int i3), .val (.int i4), .val (.int i5), .val (.int ((1 : Int32) + (i0 &&& (65535 : Int32)))), .unset, .unset, .unset, .unset, .unset, .unset, .unset, .unset, .unset, .unset, .unset, .unset, .unset, .unset] [(.int i1)])
  refine Go.by (X0.ldcInt hx hown (mvT hZ (ow0 hw)) (g := (mkF m 9 #[.val (.int i0), .val (.int i1), .val (.int i2), .val (.int i3), .val (.int i4), .val (.int i5), .val (.int ((1 : Int32) + (i0 &&& (65535 : Int32)))), .unset, .unset, .unset, .unset, .unset, .unset, .unset, .unset, .unset, .unset, .unset, .unset, .unset, .unset] [(.int i1)])) rfl (hb hby at_9)) ?_
  show Go p e below _ s₁ (mkF m 11 #[.val (.int i0), .val (.int i1), .val (.int i2), .val (.int i3), .val (.int i4), .val (.int i5), .val (.int ((1 : Int32) + (i0 &&& (65535 : Int32)))), .unset, .unset, .unset, .unset, .unset, .unset, .unset, .unset, .unset, .unset, .unset, .unset, .unset, .unset] [(.int (65535 : Int32)), (.int i1)])
  refine Go.by (fun t k => XS.iand X0.here hx rfl (hb hby at_11) rfl (XS.istore X0.here hx rfl (hb hby at_12) rfl (l' := #[.val (.int i0), .val (.int i1), .val (.int i2), .val (.int i3), .val (.int i4), .val (.int i5), .val (.int ((1 : Int32) + (i0 &&& (65535 : Int32)))), .val (.int (i1 &&& (65535 : Int32))), .unset, .unset, .unset, .unset, .unset, .unset, .unset, .unset, .unset, .unset, .unset, .unset, .unset]) rfl (XS.iconst X0.here hx rfl (hb hby at_14) (XS.iloadN X0.here hx rfl (hb hby at_15) rfl k)))) ?_
  show Go p e below _ s₁ (mkF m 16 #[.val (.int i0), .val (.int i1), .val (.int i2), .val (.int i3), .val (.int i4), .val (.int i5), .val (.int ((1 : Int32) + (i0 &&& (65535 : Int32)))), .val (.int (i1 &&& (65535 : Int32))), .unset, .unset, .unset, .unset, .unset, .unset, .unset, .unset, .unset, .unset, .unset, .unset, .unset] [(.int i2), (.int (1 : Int32))])
  refine Go.by (fun t k => XS.bipush X0.here hx rfl (hb hby at_16) (XS.iand X0.here hx rfl (hb hby at_18) rfl (XS.ishl X0.here hx rfl (hb hby at_19) rfl (XS.istore X0.here hx rfl (hb hby at_20) rfl (l' := #[.val (.int i0), .val (.int i1), .val (.int i2), .val (.int i3), .val (.int i4), .val (.int i5), .val (.int ((1 : Int32) + (i0 &&& (65535 : Int32)))), .val (.int (i1 &&& (65535 : Int32))), .val (.int ((1 : Int32) <<< ((i2 &&& (7 : Int32)) &&& 31))), .unset, .unset, .unset, .unset, .unset, .unset, .unset, .unset, .unset, .unset, .unset, .unset]) rfl k)))) ?_
  show Go p e below _ s₁ (mkF m 22 #[.val (.int i0), .val (.int i1), .val (.int i2), .val (.int i3), .val (.int i4), .val (.int i5), .val (.int ((1 : Int32) + (i0 &&& (65535 : Int32)))), .val (.int (i1 &&& (65535 : Int32))), .val (.int ((1 : Int32) <<< ((i2 &&& (7 : Int32)) &&& 31))), .unset, .unset, .unset, .unset, .unset, .unset, .unset, .unset, .unset, .unset, .unset, .unset] [])
  refine Go.by (fun t k => XS.iloadN X0.here hx rfl (hb hby at_22) rfl (XS.bipush X0.here hx rfl (hb hby at_23) (XS.ishl X0.here hx rfl (hb hby at_25) rfl (XS.bipush X0.here hx rfl (hb hby at_26) k)))) ?_
  show Go p e below _ s₁ (mkF m 28 #[.val (.int i0), .val (.int i1), .val (.int i2), .val (.int i3), .val (.int i4), .val (.int i5), .val (.int ((1 : Int32) + (i0 &&& (65535 : Int32)))), .val (.int (i1 &&& (65535 : Int32))), .val (.int ((1 : Int32) <<< ((i2 &&& (7 : Int32)) &&& 31))), .unset, .unset, .unset, .unset, .unset, .unset, .unset, .unset, .unset, .unset, .unset, .unset] [(.int (17 : Int32)), (.int (i3 <<< ((17 : Int32) &&& 31)))])
  refine Go.by (fun t k => XS.ishr X0.here hx rfl (hb hby at_28) rfl (XS.istore X0.here hx rfl (hb hby at_29) rfl (l' := #[.val (.int i0), .val (.int i1), .val (.int i2), .val (.int i3), .val (.int i4), .val (.int i5), .val (.int ((1 : Int32) + (i0 &&& (65535 : Int32)))), .val (.int (i1 &&& (65535 : Int32))), .val (.int ((1 : Int32) <<< ((i2 &&& (7 : Int32)) &&& 31))), .val (.int ((i3 <<< ((17 : Int32) &&& 31)) >>> ((17 : Int32) &&& 31))), .unset, .unset, .unset, .unset, .unset, .unset, .unset, .unset, .unset, .unset, .unset]) rfl (XS.iconst X0.here hx rfl (hb hby at_31) (XS.iload X0.here hx rfl (hb hby at_32) rfl k)))) ?_
  show Go p e below _ s₁ (mkF m 34 #[.val (.int i0), .val (.int i1), .val (.int i2), .val (.int i3), .val (.int i4), .val (.int i5), .val (.int ((1 : Int32) + (i0 &&& (65535 : Int32)))), .val (.int (i1 &&& (65535 : Int32))), .val (.int ((1 : Int32) <<< ((i2 &&& (7 : Int32)) &&& 31))), .val (.int ((i3 <<< ((17 : Int32) &&& 31)) >>> ((17 : Int32) &&& 31))), .unset, .unset, .unset, .unset, .unset, .unset, .unset, .unset, .unset, .unset, .unset] [(.int i4), (.int (1 : Int32))])
  refine Go.by (fun t k => XS.bipush X0.here hx rfl (hb hby at_34) (XS.iand X0.here hx rfl (hb hby at_36) rfl (XS.ishl X0.here hx rfl (hb hby at_37) rfl (XS.iconst X0.here hx rfl (hb hby at_38) k)))) ?_
  show Go p e below _ s₁ (mkF m 39 #[.val (.int i0), .val (.int i1), .val (.int i2), .val (.int i3), .val (.int i4), .val (.int i5), .val (.int ((1 : Int32) + (i0 &&& (65535 : Int32)))), .val (.int (i1 &&& (65535 : Int32))), .val (.int ((1 : Int32) <<< ((i2 &&& (7 : Int32)) &&& 31))), .val (.int ((i3 <<< ((17 : Int32) &&& 31)) >>> ((17 : Int32) &&& 31))), .unset, .unset, .unset, .unset, .unset, .unset, .unset, .unset, .unset, .unset, .unset] [(.int (1 : Int32)), (.int ((1 : Int32) <<< ((i4 &&& (7 : Int32)) &&& 31)))])
  refine Go.by (fun t k => XS.isub X0.here hx rfl (hb hby at_39) rfl (XS.istore X0.here hx rfl (hb hby at_40) rfl (l' := #[.val (.int i0), .val (.int i1), .val (.int i2), .val (.int i3), .val (.int i4), .val (.int i5), .val (.int ((1 : Int32) + (i0 &&& (65535 : Int32)))), .val (.int (i1 &&& (65535 : Int32))), .val (.int ((1 : Int32) <<< ((i2 &&& (7 : Int32)) &&& 31))), .val (.int ((i3 <<< ((17 : Int32) &&& 31)) >>> ((17 : Int32) &&& 31))), .val (.int (((1 : Int32) <<< ((i4 &&& (7 : Int32)) &&& 31)) - (1 : Int32))), .unset, .unset, .unset, .unset, .unset, .unset, .unset, .unset, .unset, .unset]) rfl (XS.iload X0.here hx rfl (hb hby at_42) rfl (XS.bipush X0.here hx rfl (hb hby at_44) k)))) ?_
  show Go p e below _ s₁ (mkF m 46 #[.val (.int i0), .val (.int i1), .val (.int i2), .val (.int i3), .val (.int i4), .val (.int i5), .val (.int ((1 : Int32) + (i0 &&& (65535 : Int32)))), .val (.int (i1 &&& (65535 : Int32))), .val (.int ((1 : Int32) <<< ((i2 &&& (7 : Int32)) &&& 31))), .val (.int ((i3 <<< ((17 : Int32) &&& 31)) >>> ((17 : Int32) &&& 31))), .val (.int (((1 : Int32) <<< ((i4 &&& (7 : Int32)) &&& 31)) - (1 : Int32))), .unset, .unset, .unset, .unset, .unset, .unset, .unset, .unset, .unset, .unset] [(.int (7 : Int32)), (.int i5)])
  refine Go.by (fun t k => XS.iand X0.here hx rfl (hb hby at_46) rfl (XS.iconst X0.here hx rfl (hb hby at_47) (iremM X0 hx rfl (hb hby at_48) rfl (by decide) (XS.istore X0.here hx rfl (hb hby at_49) rfl (l' := #[.val (.int i0), .val (.int i1), .val (.int i2), .val (.int i3), .val (.int i4), .val (.int i5), .val (.int ((1 : Int32) + (i0 &&& (65535 : Int32)))), .val (.int (i1 &&& (65535 : Int32))), .val (.int ((1 : Int32) <<< ((i2 &&& (7 : Int32)) &&& 31))), .val (.int ((i3 <<< ((17 : Int32) &&& 31)) >>> ((17 : Int32) &&& 31))), .val (.int (((1 : Int32) <<< ((i4 &&& (7 : Int32)) &&& 31)) - (1 : Int32))), .val (.int ((i5 &&& (7 : Int32)) % (5 : Int32))), .unset, .unset, .unset, .unset, .unset, .unset, .unset, .unset, .unset]) rfl k)))) ?_
  show Go p e below _ s₁ (mkF m 51 #[.val (.int i0), .val (.int i1), .val (.int i2), .val (.int i3), .val (.int i4), .val (.int i5), .val (.int ((1 : Int32) + (i0 &&& (65535 : Int32)))), .val (.int (i1 &&& (65535 : Int32))), .val (.int ((1 : Int32) <<< ((i2 &&& (7 : Int32)) &&& 31))), .val (.int ((i3 <<< ((17 : Int32) &&& 31)) >>> ((17 : Int32) &&& 31))), .val (.int (((1 : Int32) <<< ((i4 &&& (7 : Int32)) &&& 31)) - (1 : Int32))), .val (.int ((i5 &&& (7 : Int32)) % (5 : Int32))), .unset, .unset, .unset, .unset, .unset, .unset, .unset, .unset, .unset] [])
  obtain ⟨rr, hr, ha⟩ := pow_mask i2
  obtain ⟨mm, hm, hk⟩ := pow_mask1 i4
  have hall := law483 (m65535 i0) (n65535 i1) hr ha (idf_rng i3) hm hk (bn_mask i5)
  have hk0 : 0 ≤ (((1 : Int32) <<< ((i4 &&& (7 : Int32)) &&& 31)) - (1 : Int32)).toInt := by have := Nat.two_pow_pos mm; omega
  obtain ⟨T131, h131, X131, e131, E131, A131, D131, U131, st131⟩ := newO X0 hx hZ hown (ow1 hw) (ow2 hw) (ow3 hw) e0 (g := (mkF m 51 #[.val (.int i0), .val (.int i1), .val (.int i2), .val (.int i3), .val (.int i4), .val (.int i5), .val (.int ((1 : Int32) + (i0 &&& (65535 : Int32)))), .val (.int (i1 &&& (65535 : Int32))), .val (.int ((1 : Int32) <<< ((i2 &&& (7 : Int32)) &&& 31))), .val (.int ((i3 <<< ((17 : Int32) &&& 31)) >>> ((17 : Int32) &&& 31))), .val (.int (((1 : Int32) <<< ((i4 &&& (7 : Int32)) &&& 31)) - (1 : Int32))), .val (.int ((i5 &&& (7 : Int32)) % (5 : Int32))), .unset, .unset, .unset, .unset, .unset, .unset, .unset, .unset, .unset] [])) rfl (hb hby at_51) (by decide) (by decide)
  obtain ⟨b131, g131⟩ : ∃ z, z = h0.size := ⟨_, rfl⟩
  rw [← g131] at A131 D131 U131 st131
  refine Go.by st131 ?_
  have K132 : Keep h0 h131 [] := K0.ext E131
  show Go p e below _ T131 (mkF m 54 #[.val (.int i0), .val (.int i1), .val (.int i2), .val (.int i3), .val (.int i4), .val (.int i5), .val (.int ((1 : Int32) + (i0 &&& (65535 : Int32)))), .val (.int (i1 &&& (65535 : Int32))), .val (.int ((1 : Int32) <<< ((i2 &&& (7 : Int32)) &&& 31))), .val (.int ((i3 <<< ((17 : Int32) &&& 31)) >>> ((17 : Int32) &&& 31))), .val (.int (((1 : Int32) <<< ((i4 &&& (7 : Int32)) &&& 31)) - (1 : Int32))), .val (.int ((i5 &&& (7 : Int32)) % (5 : Int32))), .unset, .unset, .unset, .unset, .unset, .unset, .unset, .unset, .unset] [(.ref b131)])
  refine Go.by (fun t k => XS.dup X131.here hx rfl (hb hby at_54) rfl rfl (XS.iload X131.here hx rfl (hb hby at_55) rfl (XS.i2dS X131.here hx rfl (hb hby at_57) rfl (i2d_w _) (XS.iload X131.here hx rfl (hb hby at_58) rfl k)))) ?_
  show Go p e below _ T131 (mkF m 60 #[.val (.int i0), .val (.int i1), .val (.int i2), .val (.int i3), .val (.int i4), .val (.int i5), .val (.int ((1 : Int32) + (i0 &&& (65535 : Int32)))), .val (.int (i1 &&& (65535 : Int32))), .val (.int ((1 : Int32) <<< ((i2 &&& (7 : Int32)) &&& 31))), .val (.int ((i3 <<< ((17 : Int32) &&& 31)) >>> ((17 : Int32) &&& 31))), .val (.int (((1 : Int32) <<< ((i4 &&& (7 : Int32)) &&& 31)) - (1 : Int32))), .val (.int ((i5 &&& (7 : Int32)) % (5 : Int32))), .unset, .unset, .unset, .unset, .unset, .unset, .unset, .unset, .unset] [(.int ((i5 &&& (7 : Int32)) % (5 : Int32))), (.double (FP.l2d (((1 : Int32) <<< ((i4 &&& (7 : Int32)) &&& 31)) - (1 : Int32)).toInt64)), (.ref b131), (.ref b131)])
  refine Go.by (fun t k => XS.i2dS X131.here hx rfl (hb hby at_60) rfl (i2d_w _) k) ?_
  show Go p e below _ T131 (mkF m 61 #[.val (.int i0), .val (.int i1), .val (.int i2), .val (.int i3), .val (.int i4), .val (.int i5), .val (.int ((1 : Int32) + (i0 &&& (65535 : Int32)))), .val (.int (i1 &&& (65535 : Int32))), .val (.int ((1 : Int32) <<< ((i2 &&& (7 : Int32)) &&& 31))), .val (.int ((i3 <<< ((17 : Int32) &&& 31)) >>> ((17 : Int32) &&& 31))), .val (.int (((1 : Int32) <<< ((i4 &&& (7 : Int32)) &&& 31)) - (1 : Int32))), .val (.int ((i5 &&& (7 : Int32)) % (5 : Int32))), .unset, .unset, .unset, .unset, .unset, .unset, .unset, .unset, .unset] [(.double (FP.l2d ((i5 &&& (7 : Int32)) % (5 : Int32)).toInt64)), (.double (FP.l2d (((1 : Int32) <<< ((i4 &&& (7 : Int32)) &&& 31)) - (1 : Int32)).toInt64)), (.ref b131), (.ref b131)])
  refine Go.by (X131.ldc2DoubleC hx hown (mvT hZ (ow4 hw)) (g := (mkF m 61 #[.val (.int i0), .val (.int i1), .val (.int i2), .val (.int i3), .val (.int i4), .val (.int i5), .val (.int ((1 : Int32) + (i0 &&& (65535 : Int32)))), .val (.int (i1 &&& (65535 : Int32))), .val (.int ((1 : Int32) <<< ((i2 &&& (7 : Int32)) &&& 31))), .val (.int ((i3 <<< ((17 : Int32) &&& 31)) >>> ((17 : Int32) &&& 31))), .val (.int (((1 : Int32) <<< ((i4 &&& (7 : Int32)) &&& 31)) - (1 : Int32))), .val (.int ((i5 &&& (7 : Int32)) % (5 : Int32))), .unset, .unset, .unset, .unset, .unset, .unset, .unset, .unset, .unset] [(.double (FP.l2d ((i5 &&& (7 : Int32)) % (5 : Int32)).toInt64)), (.double (FP.l2d (((1 : Int32) <<< ((i4 &&& (7 : Int32)) &&& 31)) - (1 : Int32)).toInt64)), (.ref b131), (.ref b131)])) rfl (hb hby at_61)) ?_
  show Go p e below _ T131 (mkF m 64 #[.val (.int i0), .val (.int i1), .val (.int i2), .val (.int i3), .val (.int i4), .val (.int i5), .val (.int ((1 : Int32) + (i0 &&& (65535 : Int32)))), .val (.int (i1 &&& (65535 : Int32))), .val (.int ((1 : Int32) <<< ((i2 &&& (7 : Int32)) &&& 31))), .val (.int ((i3 <<< ((17 : Int32) &&& 31)) >>> ((17 : Int32) &&& 31))), .val (.int (((1 : Int32) <<< ((i4 &&& (7 : Int32)) &&& 31)) - (1 : Int32))), .val (.int ((i5 &&& (7 : Int32)) % (5 : Int32))), .unset, .unset, .unset, .unset, .unset, .unset, .unset, .unset, .unset] [(.double (4616189618054758400 : UInt64)), (.double (FP.l2d ((i5 &&& (7 : Int32)) % (5 : Int32)).toInt64)), (.double (FP.l2d (((1 : Int32) <<< ((i4 &&& (7 : Int32)) &&& 31)) - (1 : Int32)).toInt64)), (.ref b131), (.ref b131)])
  have q133 : FP.ddiv (FP.l2d ((i5 &&& (7 : Int32)) % (5 : Int32)).toInt64) (4616189618054758400 : UInt64) = (bV ((i5 &&& (7 : Int32)) % (5 : Int32))) := rfl
  refine Go.by (fun t k => XS.ddivS X131.here hx rfl (hb hby at_64) rfl (b_dy (bn_mask i5)).nn q133 k) ?_
  show Go p e below _ T131 (mkF m 65 #[.val (.int i0), .val (.int i1), .val (.int i2), .val (.int i3), .val (.int i4), .val (.int i5), .val (.int ((1 : Int32) + (i0 &&& (65535 : Int32)))), .val (.int (i1 &&& (65535 : Int32))), .val (.int ((1 : Int32) <<< ((i2 &&& (7 : Int32)) &&& 31))), .val (.int ((i3 <<< ((17 : Int32) &&& 31)) >>> ((17 : Int32) &&& 31))), .val (.int (((1 : Int32) <<< ((i4 &&& (7 : Int32)) &&& 31)) - (1 : Int32))), .val (.int ((i5 &&& (7 : Int32)) % (5 : Int32))), .unset, .unset, .unset, .unset, .unset, .unset, .unset, .unset, .unset] [(.double (bV ((i5 &&& (7 : Int32)) % (5 : Int32)))), (.double (FP.l2d (((1 : Int32) <<< ((i4 &&& (7 : Int32)) &&& 31)) - (1 : Int32)).toInt64)), (.ref b131), (.ref b131)])
  obtain ⟨_, _, ⟨T134, L134, k134, n134⟩, -, X134, ⟨Lc134, hQ134, l134, y134, z134⟩, st134⟩ := X131.specialBack hx (y := (⟨"com/example/antecedent/antecedent/Bm25", "<init>", "(DD)V"⟩ : MethodName)) rfl hown (mvT hZ (ow5 hw)) (mvT hZ (ow6 hw)) (mvT hZ (ow7 hw)) (by decide) (backOf (W := 1) (rm_bmi l Z a0 hw [] b131 (FP.l2d (((1 : Int32) <<< ((i4 &&& (7 : Int32)) &&& 31)) - (1 : Int32)).toInt64) (bV ((i5 &&& (7 : Int32)) % (5 : Int32))) h131 n0 (Nat.le_trans Z0 E131.1) A131 ((Nat.le_trans (Nat.le_trans Z0 (Nat.le_refl _)) (Nat.le_of_eq g131.symm))) (D131 (Or.inr (ow13 hw)) (ty := .double) (by decide)) (D131 (Or.inr (ow15 hw)) (ty := .double) (by decide)) ((hk12 hk0).1) ((hk12 hk0).2) ((hb3 (bn_mask i5)).1) ((hb3 (bn_mask i5)).2)) hZ (ow7 hw) (ow3 hw) (by decide) (by decide)) (g := (mkF m 65 #[.val (.int i0), .val (.int i1), .val (.int i2), .val (.int i3), .val (.int i4), .val (.int i5), .val (.int ((1 : Int32) + (i0 &&& (65535 : Int32)))), .val (.int (i1 &&& (65535 : Int32))), .val (.int ((1 : Int32) <<< ((i2 &&& (7 : Int32)) &&& 31))), .val (.int ((i3 <<< ((17 : Int32) &&& 31)) >>> ((17 : Int32) &&& 31))), .val (.int (((1 : Int32) <<< ((i4 &&& (7 : Int32)) &&& 31)) - (1 : Int32))), .val (.int ((i5 &&& (7 : Int32)) % (5 : Int32))), .unset, .unset, .unset, .unset, .unset, .unset, .unset, .unset, .unset] [(.double (bV ((i5 &&& (7 : Int32)) % (5 : Int32)))), (.double (FP.l2d (((1 : Int32) <<< ((i4 &&& (7 : Int32)) &&& 31)) - (1 : Int32)).toInt64)), (.ref b131), (.ref b131)])) rfl (by rw [hml]; rfl) (Steps.refl _) (a := b131) (argsL := [(.double (FP.l2d (((1 : Int32) <<< ((i4 &&& (7 : Int32)) &&& 31)) - (1 : Int32)).toInt64)), (.double (bV ((i5 &&& (7 : Int32)) % (5 : Int32))))]) (rest := [(.ref b131)]) (lenOf opd_0 rfl) rfl (by show 2 * 0 + _ ≤ _; exact Nat.le_of_eq rfl) (hb hby at_65) (fun _ _ => ⟨rfl, e131, (by decide : 1 + 0 ≤ _), (by decide : 2 + 0 ≤ _)⟩)
  dsimp only [Pt.U, Pt.locs, Pt.cells, Pt.slots] at X134 l134 y134 z134 st134 hQ134
  subst l134 y134 z134
  obtain ⟨rfl, N134q, K134q, P134_0, P134_1, P134_2⟩ := hQ134
  have N134 := Fr.app N0 N134q
  refine Go.tr st134 ?_
  have K135 : Keep h0 T134.heap [] := K132.trans K134q (allS (Or.inr (Nat.le_trans (Nat.le_refl _) (Nat.le_of_eq g131.symm))) all0)
  show Go p e below _ T134 (mkF m 68 #[.val (.int i0), .val (.int i1), .val (.int i2), .val (.int i3), .val (.int i4), .val (.int i5), .val (.int ((1 : Int32) + (i0 &&& (65535 : Int32)))), .val (.int (i1 &&& (65535 : Int32))), .val (.int ((1 : Int32) <<< ((i2 &&& (7 : Int32)) &&& 31))), .val (.int ((i3 <<< ((17 : Int32) &&& 31)) >>> ((17 : Int32) &&& 31))), .val (.int (((1 : Int32) <<< ((i4 &&& (7 : Int32)) &&& 31)) - (1 : Int32))), .val (.int ((i5 &&& (7 : Int32)) % (5 : Int32))), .unset, .unset, .unset, .unset, .unset, .unset, .unset, .unset, .unset] [(.ref b131)])
  refine Go.by (fun t k => XS.astore X134.here hx rfl (hb hby at_68) rfl rfl (l' := #[.val (.int i0), .val (.int i1), .val (.int i2), .val (.int i3), .val (.int i4), .val (.int i5), .val (.int ((1 : Int32) + (i0 &&& (65535 : Int32)))), .val (.int (i1 &&& (65535 : Int32))), .val (.int ((1 : Int32) <<< ((i2 &&& (7 : Int32)) &&& 31))), .val (.int ((i3 <<< ((17 : Int32) &&& 31)) >>> ((17 : Int32) &&& 31))), .val (.int (((1 : Int32) <<< ((i4 &&& (7 : Int32)) &&& 31)) - (1 : Int32))), .val (.int ((i5 &&& (7 : Int32)) % (5 : Int32))), .val (.ref b131), .unset, .unset, .unset, .unset, .unset, .unset, .unset, .unset]) rfl (XS.aload X134.here hx rfl (hb hby at_70) rfl rfl (XS.iload X134.here hx rfl (hb hby at_72) rfl (XS.i2dS X134.here hx rfl (hb hby at_74) rfl (i2d_w _) k)))) ?_
  show Go p e below _ T134 (mkF m 75 #[.val (.int i0), .val (.int i1), .val (.int i2), .val (.int i3), .val (.int i4), .val (.int i5), .val (.int ((1 : Int32) + (i0 &&& (65535 : Int32)))), .val (.int (i1 &&& (65535 : Int32))), .val (.int ((1 : Int32) <<< ((i2 &&& (7 : Int32)) &&& 31))), .val (.int ((i3 <<< ((17 : Int32) &&& 31)) >>> ((17 : Int32) &&& 31))), .val (.int (((1 : Int32) <<< ((i4 &&& (7 : Int32)) &&& 31)) - (1 : Int32))), .val (.int ((i5 &&& (7 : Int32)) % (5 : Int32))), .val (.ref b131), .unset, .unset, .unset, .unset, .unset, .unset, .unset, .unset] [(.double (FP.l2d ((1 : Int32) + (i0 &&& (65535 : Int32))).toInt64)), (.ref b131)])
  refine Go.by (fun t k => XS.iload X134.here hx rfl (hb hby at_75) rfl (XS.i2dS X134.here hx rfl (hb hby at_77) rfl (i2d_w _) (XS.iload X134.here hx rfl (hb hby at_78) rfl (XS.i2dS X134.here hx rfl (hb hby at_80) rfl (i2d_w _) k)))) ?_
  show Go p e below _ T134 (mkF m 81 #[.val (.int i0), .val (.int i1), .val (.int i2), .val (.int i3), .val (.int i4), .val (.int i5), .val (.int ((1 : Int32) + (i0 &&& (65535 : Int32)))), .val (.int (i1 &&& (65535 : Int32))), .val (.int ((1 : Int32) <<< ((i2 &&& (7 : Int32)) &&& 31))), .val (.int ((i3 <<< ((17 : Int32) &&& 31)) >>> ((17 : Int32) &&& 31))), .val (.int (((1 : Int32) <<< ((i4 &&& (7 : Int32)) &&& 31)) - (1 : Int32))), .val (.int ((i5 &&& (7 : Int32)) % (5 : Int32))), .val (.ref b131), .unset, .unset, .unset, .unset, .unset, .unset, .unset, .unset] [(.double (FP.l2d ((1 : Int32) <<< ((i2 &&& (7 : Int32)) &&& 31)).toInt64)), (.double (FP.l2d (i1 &&& (65535 : Int32)).toInt64)), (.double (FP.l2d ((1 : Int32) + (i0 &&& (65535 : Int32))).toInt64)), (.ref b131)])
  refine Go.by (fun t k => XS.iload X134.here hx rfl (hb hby at_81) rfl (XS.i2dS X134.here hx rfl (hb hby at_83) rfl (i2d_w _) k)) ?_
  show Go p e below _ T134 (mkF m 84 #[.val (.int i0), .val (.int i1), .val (.int i2), .val (.int i3), .val (.int i4), .val (.int i5), .val (.int ((1 : Int32) + (i0 &&& (65535 : Int32)))), .val (.int (i1 &&& (65535 : Int32))), .val (.int ((1 : Int32) <<< ((i2 &&& (7 : Int32)) &&& 31))), .val (.int ((i3 <<< ((17 : Int32) &&& 31)) >>> ((17 : Int32) &&& 31))), .val (.int (((1 : Int32) <<< ((i4 &&& (7 : Int32)) &&& 31)) - (1 : Int32))), .val (.int ((i5 &&& (7 : Int32)) % (5 : Int32))), .val (.ref b131), .unset, .unset, .unset, .unset, .unset, .unset, .unset, .unset] [(.double (FP.l2d ((i3 <<< ((17 : Int32) &&& 31)) >>> ((17 : Int32) &&& 31)).toInt64)), (.double (FP.l2d ((1 : Int32) <<< ((i2 &&& (7 : Int32)) &&& 31)).toInt64)), (.double (FP.l2d (i1 &&& (65535 : Int32)).toInt64)), (.double (FP.l2d ((1 : Int32) + (i0 &&& (65535 : Int32))).toInt64)), (.ref b131)])
  obtain ⟨cq136, kq136, q136a, q136b, q136c⟩ := isOf hZ rfl P134_0
  obtain ⟨_, _, ⟨T136, L136, k136, n136⟩, -, X136, ⟨Lc136, hQ136, l136, y136, z136⟩, st136⟩ := X134.virtualBack hx (y := (⟨"com/example/antecedent/antecedent/Bm25", "score", "(DDDD)D"⟩ : MethodName)) (z := (⟨"com/example/antecedent/antecedent/Bm25", "score", "(DDDD)D"⟩ : MethodName)) hown (mvT hZ (ow16 hw)) (mvT hZ (ow17 hw)) (notFace_of_selects (args := #[]) (mvT hZ (ow19 hw))) (mvT hZ (ow19 hw)) (mvT hZ (ow18 hw)) (by decide) (backOf (W := 0) (rm_score l Z a0 hw [] b131 (FP.l2d (((1 : Int32) <<< ((i4 &&& (7 : Int32)) &&& 31)) - (1 : Int32)).toInt64) (bV ((i5 &&& (7 : Int32)) % (5 : Int32))) (FP.l2d ((1 : Int32) + (i0 &&& (65535 : Int32))).toInt64) (FP.l2d (i1 &&& (65535 : Int32)).toInt64) (FP.l2d ((1 : Int32) <<< ((i2 &&& (7 : Int32)) &&& 31)).toInt64) (FP.l2d ((i3 <<< ((17 : Int32) &&& 31)) >>> ((17 : Int32) &&& 31)).toInt64) T134.heap n0 (Nat.le_trans Z0 (Nat.le_trans E131.1 K134q.1)) P134_1 P134_2 (hall.1)) hZ (ow20 hw) (ow3 hw) (by decide) (by decide)) q136a q136c (g := (mkF m 84 #[.val (.int i0), .val (.int i1), .val (.int i2), .val (.int i3), .val (.int i4), .val (.int i5), .val (.int ((1 : Int32) + (i0 &&& (65535 : Int32)))), .val (.int (i1 &&& (65535 : Int32))), .val (.int ((1 : Int32) <<< ((i2 &&& (7 : Int32)) &&& 31))), .val (.int ((i3 <<< ((17 : Int32) &&& 31)) >>> ((17 : Int32) &&& 31))), .val (.int (((1 : Int32) <<< ((i4 &&& (7 : Int32)) &&& 31)) - (1 : Int32))), .val (.int ((i5 &&& (7 : Int32)) % (5 : Int32))), .val (.ref b131), .unset, .unset, .unset, .unset, .unset, .unset, .unset, .unset] [(.double (FP.l2d ((i3 <<< ((17 : Int32) &&& 31)) >>> ((17 : Int32) &&& 31)).toInt64)), (.double (FP.l2d ((1 : Int32) <<< ((i2 &&& (7 : Int32)) &&& 31)).toInt64)), (.double (FP.l2d (i1 &&& (65535 : Int32)).toInt64)), (.double (FP.l2d ((1 : Int32) + (i0 &&& (65535 : Int32))).toInt64)), (.ref b131)])) rfl (by rw [hml]; rfl) (Steps.refl _) (argsL := [(.double (FP.l2d ((1 : Int32) + (i0 &&& (65535 : Int32))).toInt64)), (.double (FP.l2d (i1 &&& (65535 : Int32)).toInt64)), (.double (FP.l2d ((1 : Int32) <<< ((i2 &&& (7 : Int32)) &&& 31)).toInt64)), (.double (FP.l2d ((i3 <<< ((17 : Int32) &&& 31)) >>> ((17 : Int32) &&& 31)).toInt64))]) (rest := []) (lenOf opd_1 rfl) rfl (by show 2 * 0 + _ ≤ _; exact Nat.le_of_eq rfl) (hb hby at_84) (fun _ _ => ⟨rfl, rfl, (by decide : 1 + 0 ≤ _), (by decide : 2 + 0 ≤ _)⟩)
  dsimp only [Pt.U, Pt.locs, Pt.cells, Pt.slots] at X136 l136 y136 z136 st136 hQ136
  subst l136 y136 z136
  obtain ⟨rfl, N136q, e136⟩ := hQ136
  have N136 := Fr.app N134 N136q
  refine Go.tr st136 ?_
  show Go p e below _ T136 (mkF m 87 #[.val (.int i0), .val (.int i1), .val (.int i2), .val (.int i3), .val (.int i4), .val (.int i5), .val (.int ((1 : Int32) + (i0 &&& (65535 : Int32)))), .val (.int (i1 &&& (65535 : Int32))), .val (.int ((1 : Int32) <<< ((i2 &&& (7 : Int32)) &&& 31))), .val (.int ((i3 <<< ((17 : Int32) &&& 31)) >>> ((17 : Int32) &&& 31))), .val (.int (((1 : Int32) <<< ((i4 &&& (7 : Int32)) &&& 31)) - (1 : Int32))), .val (.int ((i5 &&& (7 : Int32)) % (5 : Int32))), .val (.ref b131), .unset, .unset, .unset, .unset, .unset, .unset, .unset, .unset] [(.double (scoreV (FP.l2d (((1 : Int32) <<< ((i4 &&& (7 : Int32)) &&& 31)) - (1 : Int32)).toInt64) (bV ((i5 &&& (7 : Int32)) % (5 : Int32))) (FP.l2d ((1 : Int32) + (i0 &&& (65535 : Int32))).toInt64) (FP.l2d (i1 &&& (65535 : Int32)).toInt64) (FP.l2d ((1 : Int32) <<< ((i2 &&& (7 : Int32)) &&& 31)).toInt64) (FP.l2d ((i3 <<< ((17 : Int32) &&& 31)) >>> ((17 : Int32) &&& 31)).toInt64)))])
  refine Go.by (fun t k => XS.dstore X136.here hx rfl (hb hby at_87) rfl (l' := #[.val (.int i0), .val (.int i1), .val (.int i2), .val (.int i3), .val (.int i4), .val (.int i5), .val (.int ((1 : Int32) + (i0 &&& (65535 : Int32)))), .val (.int (i1 &&& (65535 : Int32))), .val (.int ((1 : Int32) <<< ((i2 &&& (7 : Int32)) &&& 31))), .val (.int ((i3 <<< ((17 : Int32) &&& 31)) >>> ((17 : Int32) &&& 31))), .val (.int (((1 : Int32) <<< ((i4 &&& (7 : Int32)) &&& 31)) - (1 : Int32))), .val (.int ((i5 &&& (7 : Int32)) % (5 : Int32))), .val (.ref b131), .val (.double (scoreV (FP.l2d (((1 : Int32) <<< ((i4 &&& (7 : Int32)) &&& 31)) - (1 : Int32)).toInt64) (bV ((i5 &&& (7 : Int32)) % (5 : Int32))) (FP.l2d ((1 : Int32) + (i0 &&& (65535 : Int32))).toInt64) (FP.l2d (i1 &&& (65535 : Int32)).toInt64) (FP.l2d ((1 : Int32) <<< ((i2 &&& (7 : Int32)) &&& 31)).toInt64) (FP.l2d ((i3 <<< ((17 : Int32) &&& 31)) >>> ((17 : Int32) &&& 31)).toInt64))), .second, .unset, .unset, .unset, .unset, .unset, .unset]) rfl (XS.iload X136.here hx rfl (hb hby at_89) rfl (XS.i2l X136.here hx rfl (hb hby at_91) rfl (XS.iload X136.here hx rfl (hb hby at_92) rfl k)))) ?_
  show Go p e below _ T136 (mkF m 94 #[.val (.int i0), .val (.int i1), .val (.int i2), .val (.int i3), .val (.int i4), .val (.int i5), .val (.int ((1 : Int32) + (i0 &&& (65535 : Int32)))), .val (.int (i1 &&& (65535 : Int32))), .val (.int ((1 : Int32) <<< ((i2 &&& (7 : Int32)) &&& 31))), .val (.int ((i3 <<< ((17 : Int32) &&& 31)) >>> ((17 : Int32) &&& 31))), .val (.int (((1 : Int32) <<< ((i4 &&& (7 : Int32)) &&& 31)) - (1 : Int32))), .val (.int ((i5 &&& (7 : Int32)) % (5 : Int32))), .val (.ref b131), .val (.double (scoreV (FP.l2d (((1 : Int32) <<< ((i4 &&& (7 : Int32)) &&& 31)) - (1 : Int32)).toInt64) (bV ((i5 &&& (7 : Int32)) % (5 : Int32))) (FP.l2d ((1 : Int32) + (i0 &&& (65535 : Int32))).toInt64) (FP.l2d (i1 &&& (65535 : Int32)).toInt64) (FP.l2d ((1 : Int32) <<< ((i2 &&& (7 : Int32)) &&& 31)).toInt64) (FP.l2d ((i3 <<< ((17 : Int32) &&& 31)) >>> ((17 : Int32) &&& 31)).toInt64))), .second, .unset, .unset, .unset, .unset, .unset, .unset] [(.int ((1 : Int32) + (i0 &&& (65535 : Int32)))), (.long (((i3 <<< ((17 : Int32) &&& 31)) >>> ((17 : Int32) &&& 31)).toInt64))])
  refine Go.by (fun t k => XS.i2l X136.here hx rfl (hb hby at_94) rfl (XS.lmul X136.here hx rfl (hb hby at_95) rfl (XS.iload X136.here hx rfl (hb hby at_96) rfl (XS.iconst X136.here hx rfl (hb hby at_98) k)))) ?_
  show Go p e below _ T136 (mkF m 99 #[.val (.int i0), .val (.int i1), .val (.int i2), .val (.int i3), .val (.int i4), .val (.int i5), .val (.int ((1 : Int32) + (i0 &&& (65535 : Int32)))), .val (.int (i1 &&& (65535 : Int32))), .val (.int ((1 : Int32) <<< ((i2 &&& (7 : Int32)) &&& 31))), .val (.int ((i3 <<< ((17 : Int32) &&& 31)) >>> ((17 : Int32) &&& 31))), .val (.int (((1 : Int32) <<< ((i4 &&& (7 : Int32)) &&& 31)) - (1 : Int32))), .val (.int ((i5 &&& (7 : Int32)) % (5 : Int32))), .val (.ref b131), .val (.double (scoreV (FP.l2d (((1 : Int32) <<< ((i4 &&& (7 : Int32)) &&& 31)) - (1 : Int32)).toInt64) (bV ((i5 &&& (7 : Int32)) % (5 : Int32))) (FP.l2d ((1 : Int32) + (i0 &&& (65535 : Int32))).toInt64) (FP.l2d (i1 &&& (65535 : Int32)).toInt64) (FP.l2d ((1 : Int32) <<< ((i2 &&& (7 : Int32)) &&& 31)).toInt64) (FP.l2d ((i3 <<< ((17 : Int32) &&& 31)) >>> ((17 : Int32) &&& 31)).toInt64))), .second, .unset, .unset, .unset, .unset, .unset, .unset] [(.int (1 : Int32)), (.int (((1 : Int32) <<< ((i4 &&& (7 : Int32)) &&& 31)) - (1 : Int32))), (.long ((((i3 <<< ((17 : Int32) &&& 31)) >>> ((17 : Int32) &&& 31)).toInt64) * (((1 : Int32) + (i0 &&& (65535 : Int32))).toInt64)))])
  refine Go.by (fun t k => XS.iadd X136.here hx rfl (hb hby at_99) rfl (XS.i2l X136.here hx rfl (hb hby at_100) rfl (XS.lmul X136.here hx rfl (hb hby at_101) rfl k))) ?_
  show Go p e below _ T136 (mkF m 102 #[.val (.int i0), .val (.int i1), .val (.int i2), .val (.int i3), .val (.int i4), .val (.int i5), .val (.int ((1 : Int32) + (i0 &&& (65535 : Int32)))), .val (.int (i1 &&& (65535 : Int32))), .val (.int ((1 : Int32) <<< ((i2 &&& (7 : Int32)) &&& 31))), .val (.int ((i3 <<< ((17 : Int32) &&& 31)) >>> ((17 : Int32) &&& 31))), .val (.int (((1 : Int32) <<< ((i4 &&& (7 : Int32)) &&& 31)) - (1 : Int32))), .val (.int ((i5 &&& (7 : Int32)) % (5 : Int32))), .val (.ref b131), .val (.double (scoreV (FP.l2d (((1 : Int32) <<< ((i4 &&& (7 : Int32)) &&& 31)) - (1 : Int32)).toInt64) (bV ((i5 &&& (7 : Int32)) % (5 : Int32))) (FP.l2d ((1 : Int32) + (i0 &&& (65535 : Int32))).toInt64) (FP.l2d (i1 &&& (65535 : Int32)).toInt64) (FP.l2d ((1 : Int32) <<< ((i2 &&& (7 : Int32)) &&& 31)).toInt64) (FP.l2d ((i3 <<< ((17 : Int32) &&& 31)) >>> ((17 : Int32) &&& 31)).toInt64))), .second, .unset, .unset, .unset, .unset, .unset, .unset] [(.long (((((i3 <<< ((17 : Int32) &&& 31)) >>> ((17 : Int32) &&& 31)).toInt64) * (((1 : Int32) + (i0 &&& (65535 : Int32))).toInt64)) * (((((1 : Int32) <<< ((i4 &&& (7 : Int32)) &&& 31)) - (1 : Int32)) + (1 : Int32)).toInt64)))])
  refine Go.by (X136.ldc2Long hx hown (mvT hZ (ow21 hw)) (g := (mkF m 102 #[.val (.int i0), .val (.int i1), .val (.int i2), .val (.int i3), .val (.int i4), .val (.int i5), .val (.int ((1 : Int32) + (i0 &&& (65535 : Int32)))), .val (.int (i1 &&& (65535 : Int32))), .val (.int ((1 : Int32) <<< ((i2 &&& (7 : Int32)) &&& 31))), .val (.int ((i3 <<< ((17 : Int32) &&& 31)) >>> ((17 : Int32) &&& 31))), .val (.int (((1 : Int32) <<< ((i4 &&& (7 : Int32)) &&& 31)) - (1 : Int32))), .val (.int ((i5 &&& (7 : Int32)) % (5 : Int32))), .val (.ref b131), .val (.double (scoreV (FP.l2d (((1 : Int32) <<< ((i4 &&& (7 : Int32)) &&& 31)) - (1 : Int32)).toInt64) (bV ((i5 &&& (7 : Int32)) % (5 : Int32))) (FP.l2d ((1 : Int32) + (i0 &&& (65535 : Int32))).toInt64) (FP.l2d (i1 &&& (65535 : Int32)).toInt64) (FP.l2d ((1 : Int32) <<< ((i2 &&& (7 : Int32)) &&& 31)).toInt64) (FP.l2d ((i3 <<< ((17 : Int32) &&& 31)) >>> ((17 : Int32) &&& 31)).toInt64))), .second, .unset, .unset, .unset, .unset, .unset, .unset] [(.long (((((i3 <<< ((17 : Int32) &&& 31)) >>> ((17 : Int32) &&& 31)).toInt64) * (((1 : Int32) + (i0 &&& (65535 : Int32))).toInt64)) * (((((1 : Int32) <<< ((i4 &&& (7 : Int32)) &&& 31)) - (1 : Int32)) + (1 : Int32)).toInt64)))])) rfl (hb hby at_102)) ?_
  show Go p e below _ T136 (mkF m 105 #[.val (.int i0), .val (.int i1), .val (.int i2), .val (.int i3), .val (.int i4), .val (.int i5), .val (.int ((1 : Int32) + (i0 &&& (65535 : Int32)))), .val (.int (i1 &&& (65535 : Int32))), .val (.int ((1 : Int32) <<< ((i2 &&& (7 : Int32)) &&& 31))), .val (.int ((i3 <<< ((17 : Int32) &&& 31)) >>> ((17 : Int32) &&& 31))), .val (.int (((1 : Int32) <<< ((i4 &&& (7 : Int32)) &&& 31)) - (1 : Int32))), .val (.int ((i5 &&& (7 : Int32)) % (5 : Int32))), .val (.ref b131), .val (.double (scoreV (FP.l2d (((1 : Int32) <<< ((i4 &&& (7 : Int32)) &&& 31)) - (1 : Int32)).toInt64) (bV ((i5 &&& (7 : Int32)) % (5 : Int32))) (FP.l2d ((1 : Int32) + (i0 &&& (65535 : Int32))).toInt64) (FP.l2d (i1 &&& (65535 : Int32)).toInt64) (FP.l2d ((1 : Int32) <<< ((i2 &&& (7 : Int32)) &&& 31)).toInt64) (FP.l2d ((i3 <<< ((17 : Int32) &&& 31)) >>> ((17 : Int32) &&& 31)).toInt64))), .second, .unset, .unset, .unset, .unset, .unset, .unset] [(.long (4 : Int64)), (.long (((((i3 <<< ((17 : Int32) &&& 31)) >>> ((17 : Int32) &&& 31)).toInt64) * (((1 : Int32) + (i0 &&& (65535 : Int32))).toInt64)) * (((((1 : Int32) <<< ((i4 &&& (7 : Int32)) &&& 31)) - (1 : Int32)) + (1 : Int32)).toInt64)))])
  refine Go.by (fun t k => XS.lmul X136.here hx rfl (hb hby at_105) rfl (XS.iload X136.here hx rfl (hb hby at_106) rfl (XS.i2l X136.here hx rfl (hb hby at_108) rfl (XS.lmul X136.here hx rfl (hb hby at_109) rfl k)))) ?_
  show Go p e below _ T136 (mkF m 110 #[.val (.int i0), .val (.int i1), .val (.int i2), .val (.int i3), .val (.int i4), .val (.int i5), .val (.int ((1 : Int32) + (i0 &&& (65535 : Int32)))), .val (.int (i1 &&& (65535 : Int32))), .val (.int ((1 : Int32) <<< ((i2 &&& (7 : Int32)) &&& 31))), .val (.int ((i3 <<< ((17 : Int32) &&& 31)) >>> ((17 : Int32) &&& 31))), .val (.int (((1 : Int32) <<< ((i4 &&& (7 : Int32)) &&& 31)) - (1 : Int32))), .val (.int ((i5 &&& (7 : Int32)) % (5 : Int32))), .val (.ref b131), .val (.double (scoreV (FP.l2d (((1 : Int32) <<< ((i4 &&& (7 : Int32)) &&& 31)) - (1 : Int32)).toInt64) (bV ((i5 &&& (7 : Int32)) % (5 : Int32))) (FP.l2d ((1 : Int32) + (i0 &&& (65535 : Int32))).toInt64) (FP.l2d (i1 &&& (65535 : Int32)).toInt64) (FP.l2d ((1 : Int32) <<< ((i2 &&& (7 : Int32)) &&& 31)).toInt64) (FP.l2d ((i3 <<< ((17 : Int32) &&& 31)) >>> ((17 : Int32) &&& 31)).toInt64))), .second, .unset, .unset, .unset, .unset, .unset, .unset] [(.long (((((((i3 <<< ((17 : Int32) &&& 31)) >>> ((17 : Int32) &&& 31)).toInt64) * (((1 : Int32) + (i0 &&& (65535 : Int32))).toInt64)) * (((((1 : Int32) <<< ((i4 &&& (7 : Int32)) &&& 31)) - (1 : Int32)) + (1 : Int32)).toInt64)) * (4 : Int64)) * (((1 : Int32) <<< ((i2 &&& (7 : Int32)) &&& 31)).toInt64)))])
  refine Go.by (fun t k => XS.lstore X136.here hx rfl (hb hby at_110) rfl (l' := #[.val (.int i0), .val (.int i1), .val (.int i2), .val (.int i3), .val (.int i4), .val (.int i5), .val (.int ((1 : Int32) + (i0 &&& (65535 : Int32)))), .val (.int (i1 &&& (65535 : Int32))), .val (.int ((1 : Int32) <<< ((i2 &&& (7 : Int32)) &&& 31))), .val (.int ((i3 <<< ((17 : Int32) &&& 31)) >>> ((17 : Int32) &&& 31))), .val (.int (((1 : Int32) <<< ((i4 &&& (7 : Int32)) &&& 31)) - (1 : Int32))), .val (.int ((i5 &&& (7 : Int32)) % (5 : Int32))), .val (.ref b131), .val (.double (scoreV (FP.l2d (((1 : Int32) <<< ((i4 &&& (7 : Int32)) &&& 31)) - (1 : Int32)).toInt64) (bV ((i5 &&& (7 : Int32)) % (5 : Int32))) (FP.l2d ((1 : Int32) + (i0 &&& (65535 : Int32))).toInt64) (FP.l2d (i1 &&& (65535 : Int32)).toInt64) (FP.l2d ((1 : Int32) <<< ((i2 &&& (7 : Int32)) &&& 31)).toInt64) (FP.l2d ((i3 <<< ((17 : Int32) &&& 31)) >>> ((17 : Int32) &&& 31)).toInt64))), .second, .val (.long (((((((i3 <<< ((17 : Int32) &&& 31)) >>> ((17 : Int32) &&& 31)).toInt64) * (((1 : Int32) + (i0 &&& (65535 : Int32))).toInt64)) * (((((1 : Int32) <<< ((i4 &&& (7 : Int32)) &&& 31)) - (1 : Int32)) + (1 : Int32)).toInt64)) * (4 : Int64)) * (((1 : Int32) <<< ((i2 &&& (7 : Int32)) &&& 31)).toInt64))), .second, .unset, .unset, .unset, .unset]) rfl (XS.iload X136.here hx rfl (hb hby at_112) rfl (XS.i2l X136.here hx rfl (hb hby at_114) rfl (XS.iconst X136.here hx rfl (hb hby at_115) k)))) ?_
  show Go p e below _ T136 (mkF m 116 #[.val (.int i0), .val (.int i1), .val (.int i2), .val (.int i3), .val (.int i4), .val (.int i5), .val (.int ((1 : Int32) + (i0 &&& (65535 : Int32)))), .val (.int (i1 &&& (65535 : Int32))), .val (.int ((1 : Int32) <<< ((i2 &&& (7 : Int32)) &&& 31))), .val (.int ((i3 <<< ((17 : Int32) &&& 31)) >>> ((17 : Int32) &&& 31))), .val (.int (((1 : Int32) <<< ((i4 &&& (7 : Int32)) &&& 31)) - (1 : Int32))), .val (.int ((i5 &&& (7 : Int32)) % (5 : Int32))), .val (.ref b131), .val (.double (scoreV (FP.l2d (((1 : Int32) <<< ((i4 &&& (7 : Int32)) &&& 31)) - (1 : Int32)).toInt64) (bV ((i5 &&& (7 : Int32)) % (5 : Int32))) (FP.l2d ((1 : Int32) + (i0 &&& (65535 : Int32))).toInt64) (FP.l2d (i1 &&& (65535 : Int32)).toInt64) (FP.l2d ((1 : Int32) <<< ((i2 &&& (7 : Int32)) &&& 31)).toInt64) (FP.l2d ((i3 <<< ((17 : Int32) &&& 31)) >>> ((17 : Int32) &&& 31)).toInt64))), .second, .val (.long (((((((i3 <<< ((17 : Int32) &&& 31)) >>> ((17 : Int32) &&& 31)).toInt64) * (((1 : Int32) + (i0 &&& (65535 : Int32))).toInt64)) * (((((1 : Int32) <<< ((i4 &&& (7 : Int32)) &&& 31)) - (1 : Int32)) + (1 : Int32)).toInt64)) * (4 : Int64)) * (((1 : Int32) <<< ((i2 &&& (7 : Int32)) &&& 31)).toInt64))), .second, .unset, .unset, .unset, .unset] [(.int (4 : Int32)), (.long ((((1 : Int32) <<< ((i4 &&& (7 : Int32)) &&& 31)) - (1 : Int32)).toInt64))])
  refine Go.by (fun t k => XS.iload X136.here hx rfl (hb hby at_116) rfl (XS.isub X136.here hx rfl (hb hby at_118) rfl (XS.i2l X136.here hx rfl (hb hby at_119) rfl (XS.iload X136.here hx rfl (hb hby at_120) rfl k)))) ?_
  show Go p e below _ T136 (mkF m 122 #[.val (.int i0), .val (.int i1), .val (.int i2), .val (.int i3), .val (.int i4), .val (.int i5), .val (.int ((1 : Int32) + (i0 &&& (65535 : Int32)))), .val (.int (i1 &&& (65535 : Int32))), .val (.int ((1 : Int32) <<< ((i2 &&& (7 : Int32)) &&& 31))), .val (.int ((i3 <<< ((17 : Int32) &&& 31)) >>> ((17 : Int32) &&& 31))), .val (.int (((1 : Int32) <<< ((i4 &&& (7 : Int32)) &&& 31)) - (1 : Int32))), .val (.int ((i5 &&& (7 : Int32)) % (5 : Int32))), .val (.ref b131), .val (.double (scoreV (FP.l2d (((1 : Int32) <<< ((i4 &&& (7 : Int32)) &&& 31)) - (1 : Int32)).toInt64) (bV ((i5 &&& (7 : Int32)) % (5 : Int32))) (FP.l2d ((1 : Int32) + (i0 &&& (65535 : Int32))).toInt64) (FP.l2d (i1 &&& (65535 : Int32)).toInt64) (FP.l2d ((1 : Int32) <<< ((i2 &&& (7 : Int32)) &&& 31)).toInt64) (FP.l2d ((i3 <<< ((17 : Int32) &&& 31)) >>> ((17 : Int32) &&& 31)).toInt64))), .second, .val (.long (((((((i3 <<< ((17 : Int32) &&& 31)) >>> ((17 : Int32) &&& 31)).toInt64) * (((1 : Int32) + (i0 &&& (65535 : Int32))).toInt64)) * (((((1 : Int32) <<< ((i4 &&& (7 : Int32)) &&& 31)) - (1 : Int32)) + (1 : Int32)).toInt64)) * (4 : Int64)) * (((1 : Int32) <<< ((i2 &&& (7 : Int32)) &&& 31)).toInt64))), .second, .unset, .unset, .unset, .unset] [(.int ((1 : Int32) <<< ((i2 &&& (7 : Int32)) &&& 31))), (.long (((4 : Int32) - ((i5 &&& (7 : Int32)) % (5 : Int32))).toInt64)), (.long ((((1 : Int32) <<< ((i4 &&& (7 : Int32)) &&& 31)) - (1 : Int32)).toInt64))])
  refine Go.by (fun t k => XS.i2l X136.here hx rfl (hb hby at_122) rfl (XS.lmul X136.here hx rfl (hb hby at_123) rfl (XS.iload X136.here hx rfl (hb hby at_124) rfl (XS.i2l X136.here hx rfl (hb hby at_126) rfl k)))) ?_
  show Go p e below _ T136 (mkF m 127 #[.val (.int i0), .val (.int i1), .val (.int i2), .val (.int i3), .val (.int i4), .val (.int i5), .val (.int ((1 : Int32) + (i0 &&& (65535 : Int32)))), .val (.int (i1 &&& (65535 : Int32))), .val (.int ((1 : Int32) <<< ((i2 &&& (7 : Int32)) &&& 31))), .val (.int ((i3 <<< ((17 : Int32) &&& 31)) >>> ((17 : Int32) &&& 31))), .val (.int (((1 : Int32) <<< ((i4 &&& (7 : Int32)) &&& 31)) - (1 : Int32))), .val (.int ((i5 &&& (7 : Int32)) % (5 : Int32))), .val (.ref b131), .val (.double (scoreV (FP.l2d (((1 : Int32) <<< ((i4 &&& (7 : Int32)) &&& 31)) - (1 : Int32)).toInt64) (bV ((i5 &&& (7 : Int32)) % (5 : Int32))) (FP.l2d ((1 : Int32) + (i0 &&& (65535 : Int32))).toInt64) (FP.l2d (i1 &&& (65535 : Int32)).toInt64) (FP.l2d ((1 : Int32) <<< ((i2 &&& (7 : Int32)) &&& 31)).toInt64) (FP.l2d ((i3 <<< ((17 : Int32) &&& 31)) >>> ((17 : Int32) &&& 31)).toInt64))), .second, .val (.long (((((((i3 <<< ((17 : Int32) &&& 31)) >>> ((17 : Int32) &&& 31)).toInt64) * (((1 : Int32) + (i0 &&& (65535 : Int32))).toInt64)) * (((((1 : Int32) <<< ((i4 &&& (7 : Int32)) &&& 31)) - (1 : Int32)) + (1 : Int32)).toInt64)) * (4 : Int64)) * (((1 : Int32) <<< ((i2 &&& (7 : Int32)) &&& 31)).toInt64))), .second, .unset, .unset, .unset, .unset] [(.long (((i5 &&& (7 : Int32)) % (5 : Int32)).toInt64)), (.long ((((4 : Int32) - ((i5 &&& (7 : Int32)) % (5 : Int32))).toInt64) * (((1 : Int32) <<< ((i2 &&& (7 : Int32)) &&& 31)).toInt64))), (.long ((((1 : Int32) <<< ((i4 &&& (7 : Int32)) &&& 31)) - (1 : Int32)).toInt64))])
  refine Go.by (fun t k => XS.iload X136.here hx rfl (hb hby at_127) rfl (XS.i2l X136.here hx rfl (hb hby at_129) rfl (XS.lmul X136.here hx rfl (hb hby at_130) rfl (XS.ladd X136.here hx rfl (hb hby at_131) rfl k)))) ?_
  show Go p e below _ T136 (mkF m 132 #[.val (.int i0), .val (.int i1), .val (.int i2), .val (.int i3), .val (.int i4), .val (.int i5), .val (.int ((1 : Int32) + (i0 &&& (65535 : Int32)))), .val (.int (i1 &&& (65535 : Int32))), .val (.int ((1 : Int32) <<< ((i2 &&& (7 : Int32)) &&& 31))), .val (.int ((i3 <<< ((17 : Int32) &&& 31)) >>> ((17 : Int32) &&& 31))), .val (.int (((1 : Int32) <<< ((i4 &&& (7 : Int32)) &&& 31)) - (1 : Int32))), .val (.int ((i5 &&& (7 : Int32)) % (5 : Int32))), .val (.ref b131), .val (.double (scoreV (FP.l2d (((1 : Int32) <<< ((i4 &&& (7 : Int32)) &&& 31)) - (1 : Int32)).toInt64) (bV ((i5 &&& (7 : Int32)) % (5 : Int32))) (FP.l2d ((1 : Int32) + (i0 &&& (65535 : Int32))).toInt64) (FP.l2d (i1 &&& (65535 : Int32)).toInt64) (FP.l2d ((1 : Int32) <<< ((i2 &&& (7 : Int32)) &&& 31)).toInt64) (FP.l2d ((i3 <<< ((17 : Int32) &&& 31)) >>> ((17 : Int32) &&& 31)).toInt64))), .second, .val (.long (((((((i3 <<< ((17 : Int32) &&& 31)) >>> ((17 : Int32) &&& 31)).toInt64) * (((1 : Int32) + (i0 &&& (65535 : Int32))).toInt64)) * (((((1 : Int32) <<< ((i4 &&& (7 : Int32)) &&& 31)) - (1 : Int32)) + (1 : Int32)).toInt64)) * (4 : Int64)) * (((1 : Int32) <<< ((i2 &&& (7 : Int32)) &&& 31)).toInt64))), .second, .unset, .unset, .unset, .unset] [(.long (((((4 : Int32) - ((i5 &&& (7 : Int32)) % (5 : Int32))).toInt64) * (((1 : Int32) <<< ((i2 &&& (7 : Int32)) &&& 31)).toInt64)) + ((((i5 &&& (7 : Int32)) % (5 : Int32)).toInt64) * ((i1 &&& (65535 : Int32)).toInt64)))), (.long ((((1 : Int32) <<< ((i4 &&& (7 : Int32)) &&& 31)) - (1 : Int32)).toInt64))])
  refine Go.by (fun t k => XS.lmul X136.here hx rfl (hb hby at_132) rfl k) ?_
  show Go p e below _ T136 (mkF m 133 #[.val (.int i0), .val (.int i1), .val (.int i2), .val (.int i3), .val (.int i4), .val (.int i5), .val (.int ((1 : Int32) + (i0 &&& (65535 : Int32)))), .val (.int (i1 &&& (65535 : Int32))), .val (.int ((1 : Int32) <<< ((i2 &&& (7 : Int32)) &&& 31))), .val (.int ((i3 <<< ((17 : Int32) &&& 31)) >>> ((17 : Int32) &&& 31))), .val (.int (((1 : Int32) <<< ((i4 &&& (7 : Int32)) &&& 31)) - (1 : Int32))), .val (.int ((i5 &&& (7 : Int32)) % (5 : Int32))), .val (.ref b131), .val (.double (scoreV (FP.l2d (((1 : Int32) <<< ((i4 &&& (7 : Int32)) &&& 31)) - (1 : Int32)).toInt64) (bV ((i5 &&& (7 : Int32)) % (5 : Int32))) (FP.l2d ((1 : Int32) + (i0 &&& (65535 : Int32))).toInt64) (FP.l2d (i1 &&& (65535 : Int32)).toInt64) (FP.l2d ((1 : Int32) <<< ((i2 &&& (7 : Int32)) &&& 31)).toInt64) (FP.l2d ((i3 <<< ((17 : Int32) &&& 31)) >>> ((17 : Int32) &&& 31)).toInt64))), .second, .val (.long (((((((i3 <<< ((17 : Int32) &&& 31)) >>> ((17 : Int32) &&& 31)).toInt64) * (((1 : Int32) + (i0 &&& (65535 : Int32))).toInt64)) * (((((1 : Int32) <<< ((i4 &&& (7 : Int32)) &&& 31)) - (1 : Int32)) + (1 : Int32)).toInt64)) * (4 : Int64)) * (((1 : Int32) <<< ((i2 &&& (7 : Int32)) &&& 31)).toInt64))), .second, .unset, .unset, .unset, .unset] [(.long (((((1 : Int32) <<< ((i4 &&& (7 : Int32)) &&& 31)) - (1 : Int32)).toInt64) * (((((4 : Int32) - ((i5 &&& (7 : Int32)) % (5 : Int32))).toInt64) * (((1 : Int32) <<< ((i2 &&& (7 : Int32)) &&& 31)).toInt64)) + ((((i5 &&& (7 : Int32)) % (5 : Int32)).toInt64) * ((i1 &&& (65535 : Int32)).toInt64)))))])
  refine Go.by (X136.ldc2Long hx hown (mvT hZ (ow21 hw)) (g := (mkF m 133 #[.val (.int i0), .val (.int i1), .val (.int i2), .val (.int i3), .val (.int i4), .val (.int i5), .val (.int ((1 : Int32) + (i0 &&& (65535 : Int32)))), .val (.int (i1 &&& (65535 : Int32))), .val (.int ((1 : Int32) <<< ((i2 &&& (7 : Int32)) &&& 31))), .val (.int ((i3 <<< ((17 : Int32) &&& 31)) >>> ((17 : Int32) &&& 31))), .val (.int (((1 : Int32) <<< ((i4 &&& (7 : Int32)) &&& 31)) - (1 : Int32))), .val (.int ((i5 &&& (7 : Int32)) % (5 : Int32))), .val (.ref b131), .val (.double (scoreV (FP.l2d (((1 : Int32) <<< ((i4 &&& (7 : Int32)) &&& 31)) - (1 : Int32)).toInt64) (bV ((i5 &&& (7 : Int32)) % (5 : Int32))) (FP.l2d ((1 : Int32) + (i0 &&& (65535 : Int32))).toInt64) (FP.l2d (i1 &&& (65535 : Int32)).toInt64) (FP.l2d ((1 : Int32) <<< ((i2 &&& (7 : Int32)) &&& 31)).toInt64) (FP.l2d ((i3 <<< ((17 : Int32) &&& 31)) >>> ((17 : Int32) &&& 31)).toInt64))), .second, .val (.long (((((((i3 <<< ((17 : Int32) &&& 31)) >>> ((17 : Int32) &&& 31)).toInt64) * (((1 : Int32) + (i0 &&& (65535 : Int32))).toInt64)) * (((((1 : Int32) <<< ((i4 &&& (7 : Int32)) &&& 31)) - (1 : Int32)) + (1 : Int32)).toInt64)) * (4 : Int64)) * (((1 : Int32) <<< ((i2 &&& (7 : Int32)) &&& 31)).toInt64))), .second, .unset, .unset, .unset, .unset] [(.long (((((1 : Int32) <<< ((i4 &&& (7 : Int32)) &&& 31)) - (1 : Int32)).toInt64) * (((((4 : Int32) - ((i5 &&& (7 : Int32)) % (5 : Int32))).toInt64) * (((1 : Int32) <<< ((i2 &&& (7 : Int32)) &&& 31)).toInt64)) + ((((i5 &&& (7 : Int32)) % (5 : Int32)).toInt64) * ((i1 &&& (65535 : Int32)).toInt64)))))])) rfl (hb hby at_133)) ?_
  show Go p e below _ T136 (mkF m 136 #[.val (.int i0), .val (.int i1), .val (.int i2), .val (.int i3), .val (.int i4), .val (.int i5), .val (.int ((1 : Int32) + (i0 &&& (65535 : Int32)))), .val (.int (i1 &&& (65535 : Int32))), .val (.int ((1 : Int32) <<< ((i2 &&& (7 : Int32)) &&& 31))), .val (.int ((i3 <<< ((17 : Int32) &&& 31)) >>> ((17 : Int32) &&& 31))), .val (.int (((1 : Int32) <<< ((i4 &&& (7 : Int32)) &&& 31)) - (1 : Int32))), .val (.int ((i5 &&& (7 : Int32)) % (5 : Int32))), .val (.ref b131), .val (.double (scoreV (FP.l2d (((1 : Int32) <<< ((i4 &&& (7 : Int32)) &&& 31)) - (1 : Int32)).toInt64) (bV ((i5 &&& (7 : Int32)) % (5 : Int32))) (FP.l2d ((1 : Int32) + (i0 &&& (65535 : Int32))).toInt64) (FP.l2d (i1 &&& (65535 : Int32)).toInt64) (FP.l2d ((1 : Int32) <<< ((i2 &&& (7 : Int32)) &&& 31)).toInt64) (FP.l2d ((i3 <<< ((17 : Int32) &&& 31)) >>> ((17 : Int32) &&& 31)).toInt64))), .second, .val (.long (((((((i3 <<< ((17 : Int32) &&& 31)) >>> ((17 : Int32) &&& 31)).toInt64) * (((1 : Int32) + (i0 &&& (65535 : Int32))).toInt64)) * (((((1 : Int32) <<< ((i4 &&& (7 : Int32)) &&& 31)) - (1 : Int32)) + (1 : Int32)).toInt64)) * (4 : Int64)) * (((1 : Int32) <<< ((i2 &&& (7 : Int32)) &&& 31)).toInt64))), .second, .unset, .unset, .unset, .unset] [(.long (4 : Int64)), (.long (((((1 : Int32) <<< ((i4 &&& (7 : Int32)) &&& 31)) - (1 : Int32)).toInt64) * (((((4 : Int32) - ((i5 &&& (7 : Int32)) % (5 : Int32))).toInt64) * (((1 : Int32) <<< ((i2 &&& (7 : Int32)) &&& 31)).toInt64)) + ((((i5 &&& (7 : Int32)) % (5 : Int32)).toInt64) * ((i1 &&& (65535 : Int32)).toInt64)))))])
  refine Go.by (fun t k => XS.iload X136.here hx rfl (hb hby at_136) rfl (XS.i2l X136.here hx rfl (hb hby at_138) rfl (XS.lmul X136.here hx rfl (hb hby at_139) rfl (XS.iload X136.here hx rfl (hb hby at_140) rfl k)))) ?_
  show Go p e below _ T136 (mkF m 142 #[.val (.int i0), .val (.int i1), .val (.int i2), .val (.int i3), .val (.int i4), .val (.int i5), .val (.int ((1 : Int32) + (i0 &&& (65535 : Int32)))), .val (.int (i1 &&& (65535 : Int32))), .val (.int ((1 : Int32) <<< ((i2 &&& (7 : Int32)) &&& 31))), .val (.int ((i3 <<< ((17 : Int32) &&& 31)) >>> ((17 : Int32) &&& 31))), .val (.int (((1 : Int32) <<< ((i4 &&& (7 : Int32)) &&& 31)) - (1 : Int32))), .val (.int ((i5 &&& (7 : Int32)) % (5 : Int32))), .val (.ref b131), .val (.double (scoreV (FP.l2d (((1 : Int32) <<< ((i4 &&& (7 : Int32)) &&& 31)) - (1 : Int32)).toInt64) (bV ((i5 &&& (7 : Int32)) % (5 : Int32))) (FP.l2d ((1 : Int32) + (i0 &&& (65535 : Int32))).toInt64) (FP.l2d (i1 &&& (65535 : Int32)).toInt64) (FP.l2d ((1 : Int32) <<< ((i2 &&& (7 : Int32)) &&& 31)).toInt64) (FP.l2d ((i3 <<< ((17 : Int32) &&& 31)) >>> ((17 : Int32) &&& 31)).toInt64))), .second, .val (.long (((((((i3 <<< ((17 : Int32) &&& 31)) >>> ((17 : Int32) &&& 31)).toInt64) * (((1 : Int32) + (i0 &&& (65535 : Int32))).toInt64)) * (((((1 : Int32) <<< ((i4 &&& (7 : Int32)) &&& 31)) - (1 : Int32)) + (1 : Int32)).toInt64)) * (4 : Int64)) * (((1 : Int32) <<< ((i2 &&& (7 : Int32)) &&& 31)).toInt64))), .second, .unset, .unset, .unset, .unset] [(.int ((1 : Int32) <<< ((i2 &&& (7 : Int32)) &&& 31))), (.long ((4 : Int64) * (((1 : Int32) + (i0 &&& (65535 : Int32))).toInt64))), (.long (((((1 : Int32) <<< ((i4 &&& (7 : Int32)) &&& 31)) - (1 : Int32)).toInt64) * (((((4 : Int32) - ((i5 &&& (7 : Int32)) % (5 : Int32))).toInt64) * (((1 : Int32) <<< ((i2 &&& (7 : Int32)) &&& 31)).toInt64)) + ((((i5 &&& (7 : Int32)) % (5 : Int32)).toInt64) * ((i1 &&& (65535 : Int32)).toInt64)))))])
  refine Go.by (fun t k => XS.i2l X136.here hx rfl (hb hby at_142) rfl (XS.lmul X136.here hx rfl (hb hby at_143) rfl (XS.ladd X136.here hx rfl (hb hby at_144) rfl (XS.lstore X136.here hx rfl (hb hby at_145) rfl (l' := #[.val (.int i0), .val (.int i1), .val (.int i2), .val (.int i3), .val (.int i4), .val (.int i5), .val (.int ((1 : Int32) + (i0 &&& (65535 : Int32)))), .val (.int (i1 &&& (65535 : Int32))), .val (.int ((1 : Int32) <<< ((i2 &&& (7 : Int32)) &&& 31))), .val (.int ((i3 <<< ((17 : Int32) &&& 31)) >>> ((17 : Int32) &&& 31))), .val (.int (((1 : Int32) <<< ((i4 &&& (7 : Int32)) &&& 31)) - (1 : Int32))), .val (.int ((i5 &&& (7 : Int32)) % (5 : Int32))), .val (.ref b131), .val (.double (scoreV (FP.l2d (((1 : Int32) <<< ((i4 &&& (7 : Int32)) &&& 31)) - (1 : Int32)).toInt64) (bV ((i5 &&& (7 : Int32)) % (5 : Int32))) (FP.l2d ((1 : Int32) + (i0 &&& (65535 : Int32))).toInt64) (FP.l2d (i1 &&& (65535 : Int32)).toInt64) (FP.l2d ((1 : Int32) <<< ((i2 &&& (7 : Int32)) &&& 31)).toInt64) (FP.l2d ((i3 <<< ((17 : Int32) &&& 31)) >>> ((17 : Int32) &&& 31)).toInt64))), .second, .val (.long (((((((i3 <<< ((17 : Int32) &&& 31)) >>> ((17 : Int32) &&& 31)).toInt64) * (((1 : Int32) + (i0 &&& (65535 : Int32))).toInt64)) * (((((1 : Int32) <<< ((i4 &&& (7 : Int32)) &&& 31)) - (1 : Int32)) + (1 : Int32)).toInt64)) * (4 : Int64)) * (((1 : Int32) <<< ((i2 &&& (7 : Int32)) &&& 31)).toInt64))), .second, .val (.long ((((((1 : Int32) <<< ((i4 &&& (7 : Int32)) &&& 31)) - (1 : Int32)).toInt64) * (((((4 : Int32) - ((i5 &&& (7 : Int32)) % (5 : Int32))).toInt64) * (((1 : Int32) <<< ((i2 &&& (7 : Int32)) &&& 31)).toInt64)) + ((((i5 &&& (7 : Int32)) % (5 : Int32)).toInt64) * ((i1 &&& (65535 : Int32)).toInt64)))) + (((4 : Int64) * (((1 : Int32) + (i0 &&& (65535 : Int32))).toInt64)) * (((1 : Int32) <<< ((i2 &&& (7 : Int32)) &&& 31)).toInt64)))), .second, .unset, .unset]) rfl k)))) ?_
  show Go p e below _ T136 (mkF m 147 #[.val (.int i0), .val (.int i1), .val (.int i2), .val (.int i3), .val (.int i4), .val (.int i5), .val (.int ((1 : Int32) + (i0 &&& (65535 : Int32)))), .val (.int (i1 &&& (65535 : Int32))), .val (.int ((1 : Int32) <<< ((i2 &&& (7 : Int32)) &&& 31))), .val (.int ((i3 <<< ((17 : Int32) &&& 31)) >>> ((17 : Int32) &&& 31))), .val (.int (((1 : Int32) <<< ((i4 &&& (7 : Int32)) &&& 31)) - (1 : Int32))), .val (.int ((i5 &&& (7 : Int32)) % (5 : Int32))), .val (.ref b131), .val (.double (scoreV (FP.l2d (((1 : Int32) <<< ((i4 &&& (7 : Int32)) &&& 31)) - (1 : Int32)).toInt64) (bV ((i5 &&& (7 : Int32)) % (5 : Int32))) (FP.l2d ((1 : Int32) + (i0 &&& (65535 : Int32))).toInt64) (FP.l2d (i1 &&& (65535 : Int32)).toInt64) (FP.l2d ((1 : Int32) <<< ((i2 &&& (7 : Int32)) &&& 31)).toInt64) (FP.l2d ((i3 <<< ((17 : Int32) &&& 31)) >>> ((17 : Int32) &&& 31)).toInt64))), .second, .val (.long (((((((i3 <<< ((17 : Int32) &&& 31)) >>> ((17 : Int32) &&& 31)).toInt64) * (((1 : Int32) + (i0 &&& (65535 : Int32))).toInt64)) * (((((1 : Int32) <<< ((i4 &&& (7 : Int32)) &&& 31)) - (1 : Int32)) + (1 : Int32)).toInt64)) * (4 : Int64)) * (((1 : Int32) <<< ((i2 &&& (7 : Int32)) &&& 31)).toInt64))), .second, .val (.long ((((((1 : Int32) <<< ((i4 &&& (7 : Int32)) &&& 31)) - (1 : Int32)).toInt64) * (((((4 : Int32) - ((i5 &&& (7 : Int32)) % (5 : Int32))).toInt64) * (((1 : Int32) <<< ((i2 &&& (7 : Int32)) &&& 31)).toInt64)) + ((((i5 &&& (7 : Int32)) % (5 : Int32)).toInt64) * ((i1 &&& (65535 : Int32)).toInt64)))) + (((4 : Int64) * (((1 : Int32) + (i0 &&& (65535 : Int32))).toInt64)) * (((1 : Int32) <<< ((i2 &&& (7 : Int32)) &&& 31)).toInt64)))), .second, .unset, .unset] [])
  refine Go.by (fun t k => XS.lload X136.here hx rfl (hb hby at_147) rfl (XS.l2dS X136.here hx rfl (hb hby at_149) rfl rfl (XS.lload X136.here hx rfl (hb hby at_150) rfl (XS.l2dS X136.here hx rfl (hb hby at_152) rfl rfl k)))) ?_
  show Go p e below _ T136 (mkF m 153 #[.val (.int i0), .val (.int i1), .val (.int i2), .val (.int i3), .val (.int i4), .val (.int i5), .val (.int ((1 : Int32) + (i0 &&& (65535 : Int32)))), .val (.int (i1 &&& (65535 : Int32))), .val (.int ((1 : Int32) <<< ((i2 &&& (7 : Int32)) &&& 31))), .val (.int ((i3 <<< ((17 : Int32) &&& 31)) >>> ((17 : Int32) &&& 31))), .val (.int (((1 : Int32) <<< ((i4 &&& (7 : Int32)) &&& 31)) - (1 : Int32))), .val (.int ((i5 &&& (7 : Int32)) % (5 : Int32))), .val (.ref b131), .val (.double (scoreV (FP.l2d (((1 : Int32) <<< ((i4 &&& (7 : Int32)) &&& 31)) - (1 : Int32)).toInt64) (bV ((i5 &&& (7 : Int32)) % (5 : Int32))) (FP.l2d ((1 : Int32) + (i0 &&& (65535 : Int32))).toInt64) (FP.l2d (i1 &&& (65535 : Int32)).toInt64) (FP.l2d ((1 : Int32) <<< ((i2 &&& (7 : Int32)) &&& 31)).toInt64) (FP.l2d ((i3 <<< ((17 : Int32) &&& 31)) >>> ((17 : Int32) &&& 31)).toInt64))), .second, .val (.long (((((((i3 <<< ((17 : Int32) &&& 31)) >>> ((17 : Int32) &&& 31)).toInt64) * (((1 : Int32) + (i0 &&& (65535 : Int32))).toInt64)) * (((((1 : Int32) <<< ((i4 &&& (7 : Int32)) &&& 31)) - (1 : Int32)) + (1 : Int32)).toInt64)) * (4 : Int64)) * (((1 : Int32) <<< ((i2 &&& (7 : Int32)) &&& 31)).toInt64))), .second, .val (.long ((((((1 : Int32) <<< ((i4 &&& (7 : Int32)) &&& 31)) - (1 : Int32)).toInt64) * (((((4 : Int32) - ((i5 &&& (7 : Int32)) % (5 : Int32))).toInt64) * (((1 : Int32) <<< ((i2 &&& (7 : Int32)) &&& 31)).toInt64)) + ((((i5 &&& (7 : Int32)) % (5 : Int32)).toInt64) * ((i1 &&& (65535 : Int32)).toInt64)))) + (((4 : Int64) * (((1 : Int32) + (i0 &&& (65535 : Int32))).toInt64)) * (((1 : Int32) <<< ((i2 &&& (7 : Int32)) &&& 31)).toInt64)))), .second, .unset, .unset] [(.double (FP.l2d ((((((1 : Int32) <<< ((i4 &&& (7 : Int32)) &&& 31)) - (1 : Int32)).toInt64) * (((((4 : Int32) - ((i5 &&& (7 : Int32)) % (5 : Int32))).toInt64) * (((1 : Int32) <<< ((i2 &&& (7 : Int32)) &&& 31)).toInt64)) + ((((i5 &&& (7 : Int32)) % (5 : Int32)).toInt64) * ((i1 &&& (65535 : Int32)).toInt64)))) + (((4 : Int64) * (((1 : Int32) + (i0 &&& (65535 : Int32))).toInt64)) * (((1 : Int32) <<< ((i2 &&& (7 : Int32)) &&& 31)).toInt64))))), (.double (FP.l2d (((((((i3 <<< ((17 : Int32) &&& 31)) >>> ((17 : Int32) &&& 31)).toInt64) * (((1 : Int32) + (i0 &&& (65535 : Int32))).toInt64)) * (((((1 : Int32) <<< ((i4 &&& (7 : Int32)) &&& 31)) - (1 : Int32)) + (1 : Int32)).toInt64)) * (4 : Int64)) * (((1 : Int32) <<< ((i2 &&& (7 : Int32)) &&& 31)).toInt64))))])
  have q137 : FP.ddiv (FP.l2d (((((((i3 <<< ((17 : Int32) &&& 31)) >>> ((17 : Int32) &&& 31)).toInt64) * (((1 : Int32) + (i0 &&& (65535 : Int32))).toInt64)) * (((((1 : Int32) <<< ((i4 &&& (7 : Int32)) &&& 31)) - (1 : Int32)) + (1 : Int32)).toInt64)) * (4 : Int64)) * (((1 : Int32) <<< ((i2 &&& (7 : Int32)) &&& 31)).toInt64))) (FP.l2d ((((((1 : Int32) <<< ((i4 &&& (7 : Int32)) &&& 31)) - (1 : Int32)).toInt64) * (((((4 : Int32) - ((i5 &&& (7 : Int32)) % (5 : Int32))).toInt64) * (((1 : Int32) <<< ((i2 &&& (7 : Int32)) &&& 31)).toInt64)) + ((((i5 &&& (7 : Int32)) % (5 : Int32)).toInt64) * ((i1 &&& (65535 : Int32)).toInt64)))) + (((4 : Int64) * (((1 : Int32) + (i0 &&& (65535 : Int32))).toInt64)) * (((1 : Int32) <<< ((i2 &&& (7 : Int32)) &&& 31)).toInt64)))) = (FP.ddiv (FP.l2d (pV ((1 : Int32) + (i0 &&& (65535 : Int32))) ((1 : Int32) <<< ((i2 &&& (7 : Int32)) &&& 31)) ((i3 <<< ((17 : Int32) &&& 31)) >>> ((17 : Int32) &&& 31)) (((1 : Int32) <<< ((i4 &&& (7 : Int32)) &&& 31)) - (1 : Int32)))) (FP.l2d (qV ((1 : Int32) + (i0 &&& (65535 : Int32))) (i1 &&& (65535 : Int32)) ((1 : Int32) <<< ((i2 &&& (7 : Int32)) &&& 31)) (((1 : Int32) <<< ((i4 &&& (7 : Int32)) &&& 31)) - (1 : Int32)) ((i5 &&& (7 : Int32)) % (5 : Int32))))) := rfl
  refine Go.by (fun t k => XS.ddivS X136.here hx rfl (hb hby at_153) rfl hall.2.1 q137 k) ?_
  show Go p e below _ T136 (mkF m 154 #[.val (.int i0), .val (.int i1), .val (.int i2), .val (.int i3), .val (.int i4), .val (.int i5), .val (.int ((1 : Int32) + (i0 &&& (65535 : Int32)))), .val (.int (i1 &&& (65535 : Int32))), .val (.int ((1 : Int32) <<< ((i2 &&& (7 : Int32)) &&& 31))), .val (.int ((i3 <<< ((17 : Int32) &&& 31)) >>> ((17 : Int32) &&& 31))), .val (.int (((1 : Int32) <<< ((i4 &&& (7 : Int32)) &&& 31)) - (1 : Int32))), .val (.int ((i5 &&& (7 : Int32)) % (5 : Int32))), .val (.ref b131), .val (.double (scoreV (FP.l2d (((1 : Int32) <<< ((i4 &&& (7 : Int32)) &&& 31)) - (1 : Int32)).toInt64) (bV ((i5 &&& (7 : Int32)) % (5 : Int32))) (FP.l2d ((1 : Int32) + (i0 &&& (65535 : Int32))).toInt64) (FP.l2d (i1 &&& (65535 : Int32)).toInt64) (FP.l2d ((1 : Int32) <<< ((i2 &&& (7 : Int32)) &&& 31)).toInt64) (FP.l2d ((i3 <<< ((17 : Int32) &&& 31)) >>> ((17 : Int32) &&& 31)).toInt64))), .second, .val (.long (((((((i3 <<< ((17 : Int32) &&& 31)) >>> ((17 : Int32) &&& 31)).toInt64) * (((1 : Int32) + (i0 &&& (65535 : Int32))).toInt64)) * (((((1 : Int32) <<< ((i4 &&& (7 : Int32)) &&& 31)) - (1 : Int32)) + (1 : Int32)).toInt64)) * (4 : Int64)) * (((1 : Int32) <<< ((i2 &&& (7 : Int32)) &&& 31)).toInt64))), .second, .val (.long ((((((1 : Int32) <<< ((i4 &&& (7 : Int32)) &&& 31)) - (1 : Int32)).toInt64) * (((((4 : Int32) - ((i5 &&& (7 : Int32)) % (5 : Int32))).toInt64) * (((1 : Int32) <<< ((i2 &&& (7 : Int32)) &&& 31)).toInt64)) + ((((i5 &&& (7 : Int32)) % (5 : Int32)).toInt64) * ((i1 &&& (65535 : Int32)).toInt64)))) + (((4 : Int64) * (((1 : Int32) + (i0 &&& (65535 : Int32))).toInt64)) * (((1 : Int32) <<< ((i2 &&& (7 : Int32)) &&& 31)).toInt64)))), .second, .unset, .unset] [(.double (FP.ddiv (FP.l2d (pV ((1 : Int32) + (i0 &&& (65535 : Int32))) ((1 : Int32) <<< ((i2 &&& (7 : Int32)) &&& 31)) ((i3 <<< ((17 : Int32) &&& 31)) >>> ((17 : Int32) &&& 31)) (((1 : Int32) <<< ((i4 &&& (7 : Int32)) &&& 31)) - (1 : Int32)))) (FP.l2d (qV ((1 : Int32) + (i0 &&& (65535 : Int32))) (i1 &&& (65535 : Int32)) ((1 : Int32) <<< ((i2 &&& (7 : Int32)) &&& 31)) (((1 : Int32) <<< ((i4 &&& (7 : Int32)) &&& 31)) - (1 : Int32)) ((i5 &&& (7 : Int32)) % (5 : Int32))))))])
  refine Go.by (fun t k => XS.dstore X136.here hx rfl (hb hby at_154) rfl (l' := #[.val (.int i0), .val (.int i1), .val (.int i2), .val (.int i3), .val (.int i4), .val (.int i5), .val (.int ((1 : Int32) + (i0 &&& (65535 : Int32)))), .val (.int (i1 &&& (65535 : Int32))), .val (.int ((1 : Int32) <<< ((i2 &&& (7 : Int32)) &&& 31))), .val (.int ((i3 <<< ((17 : Int32) &&& 31)) >>> ((17 : Int32) &&& 31))), .val (.int (((1 : Int32) <<< ((i4 &&& (7 : Int32)) &&& 31)) - (1 : Int32))), .val (.int ((i5 &&& (7 : Int32)) % (5 : Int32))), .val (.ref b131), .val (.double (scoreV (FP.l2d (((1 : Int32) <<< ((i4 &&& (7 : Int32)) &&& 31)) - (1 : Int32)).toInt64) (bV ((i5 &&& (7 : Int32)) % (5 : Int32))) (FP.l2d ((1 : Int32) + (i0 &&& (65535 : Int32))).toInt64) (FP.l2d (i1 &&& (65535 : Int32)).toInt64) (FP.l2d ((1 : Int32) <<< ((i2 &&& (7 : Int32)) &&& 31)).toInt64) (FP.l2d ((i3 <<< ((17 : Int32) &&& 31)) >>> ((17 : Int32) &&& 31)).toInt64))), .second, .val (.long (((((((i3 <<< ((17 : Int32) &&& 31)) >>> ((17 : Int32) &&& 31)).toInt64) * (((1 : Int32) + (i0 &&& (65535 : Int32))).toInt64)) * (((((1 : Int32) <<< ((i4 &&& (7 : Int32)) &&& 31)) - (1 : Int32)) + (1 : Int32)).toInt64)) * (4 : Int64)) * (((1 : Int32) <<< ((i2 &&& (7 : Int32)) &&& 31)).toInt64))), .second, .val (.long ((((((1 : Int32) <<< ((i4 &&& (7 : Int32)) &&& 31)) - (1 : Int32)).toInt64) * (((((4 : Int32) - ((i5 &&& (7 : Int32)) % (5 : Int32))).toInt64) * (((1 : Int32) <<< ((i2 &&& (7 : Int32)) &&& 31)).toInt64)) + ((((i5 &&& (7 : Int32)) % (5 : Int32)).toInt64) * ((i1 &&& (65535 : Int32)).toInt64)))) + (((4 : Int64) * (((1 : Int32) + (i0 &&& (65535 : Int32))).toInt64)) * (((1 : Int32) <<< ((i2 &&& (7 : Int32)) &&& 31)).toInt64)))), .second, .val (.double (FP.ddiv (FP.l2d (pV ((1 : Int32) + (i0 &&& (65535 : Int32))) ((1 : Int32) <<< ((i2 &&& (7 : Int32)) &&& 31)) ((i3 <<< ((17 : Int32) &&& 31)) >>> ((17 : Int32) &&& 31)) (((1 : Int32) <<< ((i4 &&& (7 : Int32)) &&& 31)) - (1 : Int32)))) (FP.l2d (qV ((1 : Int32) + (i0 &&& (65535 : Int32))) (i1 &&& (65535 : Int32)) ((1 : Int32) <<< ((i2 &&& (7 : Int32)) &&& 31)) (((1 : Int32) <<< ((i4 &&& (7 : Int32)) &&& 31)) - (1 : Int32)) ((i5 &&& (7 : Int32)) % (5 : Int32)))))), .second]) rfl (XS.dload X136.here hx rfl (hb hby at_156) rfl (XS.dload X136.here hx rfl (hb hby at_158) rfl k))) ?_
  show Go p e below _ T136 (mkF m 160 #[.val (.int i0), .val (.int i1), .val (.int i2), .val (.int i3), .val (.int i4), .val (.int i5), .val (.int ((1 : Int32) + (i0 &&& (65535 : Int32)))), .val (.int (i1 &&& (65535 : Int32))), .val (.int ((1 : Int32) <<< ((i2 &&& (7 : Int32)) &&& 31))), .val (.int ((i3 <<< ((17 : Int32) &&& 31)) >>> ((17 : Int32) &&& 31))), .val (.int (((1 : Int32) <<< ((i4 &&& (7 : Int32)) &&& 31)) - (1 : Int32))), .val (.int ((i5 &&& (7 : Int32)) % (5 : Int32))), .val (.ref b131), .val (.double (scoreV (FP.l2d (((1 : Int32) <<< ((i4 &&& (7 : Int32)) &&& 31)) - (1 : Int32)).toInt64) (bV ((i5 &&& (7 : Int32)) % (5 : Int32))) (FP.l2d ((1 : Int32) + (i0 &&& (65535 : Int32))).toInt64) (FP.l2d (i1 &&& (65535 : Int32)).toInt64) (FP.l2d ((1 : Int32) <<< ((i2 &&& (7 : Int32)) &&& 31)).toInt64) (FP.l2d ((i3 <<< ((17 : Int32) &&& 31)) >>> ((17 : Int32) &&& 31)).toInt64))), .second, .val (.long (((((((i3 <<< ((17 : Int32) &&& 31)) >>> ((17 : Int32) &&& 31)).toInt64) * (((1 : Int32) + (i0 &&& (65535 : Int32))).toInt64)) * (((((1 : Int32) <<< ((i4 &&& (7 : Int32)) &&& 31)) - (1 : Int32)) + (1 : Int32)).toInt64)) * (4 : Int64)) * (((1 : Int32) <<< ((i2 &&& (7 : Int32)) &&& 31)).toInt64))), .second, .val (.long ((((((1 : Int32) <<< ((i4 &&& (7 : Int32)) &&& 31)) - (1 : Int32)).toInt64) * (((((4 : Int32) - ((i5 &&& (7 : Int32)) % (5 : Int32))).toInt64) * (((1 : Int32) <<< ((i2 &&& (7 : Int32)) &&& 31)).toInt64)) + ((((i5 &&& (7 : Int32)) % (5 : Int32)).toInt64) * ((i1 &&& (65535 : Int32)).toInt64)))) + (((4 : Int64) * (((1 : Int32) + (i0 &&& (65535 : Int32))).toInt64)) * (((1 : Int32) <<< ((i2 &&& (7 : Int32)) &&& 31)).toInt64)))), .second, .val (.double (FP.ddiv (FP.l2d (pV ((1 : Int32) + (i0 &&& (65535 : Int32))) ((1 : Int32) <<< ((i2 &&& (7 : Int32)) &&& 31)) ((i3 <<< ((17 : Int32) &&& 31)) >>> ((17 : Int32) &&& 31)) (((1 : Int32) <<< ((i4 &&& (7 : Int32)) &&& 31)) - (1 : Int32)))) (FP.l2d (qV ((1 : Int32) + (i0 &&& (65535 : Int32))) (i1 &&& (65535 : Int32)) ((1 : Int32) <<< ((i2 &&& (7 : Int32)) &&& 31)) (((1 : Int32) <<< ((i4 &&& (7 : Int32)) &&& 31)) - (1 : Int32)) ((i5 &&& (7 : Int32)) % (5 : Int32)))))), .second] [(.double (FP.ddiv (FP.l2d (pV ((1 : Int32) + (i0 &&& (65535 : Int32))) ((1 : Int32) <<< ((i2 &&& (7 : Int32)) &&& 31)) ((i3 <<< ((17 : Int32) &&& 31)) >>> ((17 : Int32) &&& 31)) (((1 : Int32) <<< ((i4 &&& (7 : Int32)) &&& 31)) - (1 : Int32)))) (FP.l2d (qV ((1 : Int32) + (i0 &&& (65535 : Int32))) (i1 &&& (65535 : Int32)) ((1 : Int32) <<< ((i2 &&& (7 : Int32)) &&& 31)) (((1 : Int32) <<< ((i4 &&& (7 : Int32)) &&& 31)) - (1 : Int32)) ((i5 &&& (7 : Int32)) % (5 : Int32)))))), (.double (scoreV (FP.l2d (((1 : Int32) <<< ((i4 &&& (7 : Int32)) &&& 31)) - (1 : Int32)).toInt64) (bV ((i5 &&& (7 : Int32)) % (5 : Int32))) (FP.l2d ((1 : Int32) + (i0 &&& (65535 : Int32))).toInt64) (FP.l2d (i1 &&& (65535 : Int32)).toInt64) (FP.l2d ((1 : Int32) <<< ((i2 &&& (7 : Int32)) &&& 31)).toInt64) (FP.l2d ((i3 <<< ((17 : Int32) &&& 31)) >>> ((17 : Int32) &&& 31)).toInt64)))])
  have q138 : cmpValue (FP.dcmp (scoreV (FP.l2d (((1 : Int32) <<< ((i4 &&& (7 : Int32)) &&& 31)) - (1 : Int32)).toInt64) (bV ((i5 &&& (7 : Int32)) % (5 : Int32))) (FP.l2d ((1 : Int32) + (i0 &&& (65535 : Int32))).toInt64) (FP.l2d (i1 &&& (65535 : Int32)).toInt64) (FP.l2d ((1 : Int32) <<< ((i2 &&& (7 : Int32)) &&& 31)).toInt64) (FP.l2d ((i3 <<< ((17 : Int32) &&& 31)) >>> ((17 : Int32) &&& 31)).toInt64)) (FP.ddiv (FP.l2d (pV ((1 : Int32) + (i0 &&& (65535 : Int32))) ((1 : Int32) <<< ((i2 &&& (7 : Int32)) &&& 31)) ((i3 <<< ((17 : Int32) &&& 31)) >>> ((17 : Int32) &&& 31)) (((1 : Int32) <<< ((i4 &&& (7 : Int32)) &&& 31)) - (1 : Int32)))) (FP.l2d (qV ((1 : Int32) + (i0 &&& (65535 : Int32))) (i1 &&& (65535 : Int32)) ((1 : Int32) <<< ((i2 &&& (7 : Int32)) &&& 31)) (((1 : Int32) <<< ((i4 &&& (7 : Int32)) &&& 31)) - (1 : Int32)) ((i5 &&& (7 : Int32)) % (5 : Int32)))))) .l = (0 : Int32) := hall.2.2
  refine Go.by (fun t k => XS.dcmpS X136.here hx rfl (hb hby at_160) rfl q138 k) ?_
  show Go p e below _ T136 (mkF m 161 #[.val (.int i0), .val (.int i1), .val (.int i2), .val (.int i3), .val (.int i4), .val (.int i5), .val (.int ((1 : Int32) + (i0 &&& (65535 : Int32)))), .val (.int (i1 &&& (65535 : Int32))), .val (.int ((1 : Int32) <<< ((i2 &&& (7 : Int32)) &&& 31))), .val (.int ((i3 <<< ((17 : Int32) &&& 31)) >>> ((17 : Int32) &&& 31))), .val (.int (((1 : Int32) <<< ((i4 &&& (7 : Int32)) &&& 31)) - (1 : Int32))), .val (.int ((i5 &&& (7 : Int32)) % (5 : Int32))), .val (.ref b131), .val (.double (scoreV (FP.l2d (((1 : Int32) <<< ((i4 &&& (7 : Int32)) &&& 31)) - (1 : Int32)).toInt64) (bV ((i5 &&& (7 : Int32)) % (5 : Int32))) (FP.l2d ((1 : Int32) + (i0 &&& (65535 : Int32))).toInt64) (FP.l2d (i1 &&& (65535 : Int32)).toInt64) (FP.l2d ((1 : Int32) <<< ((i2 &&& (7 : Int32)) &&& 31)).toInt64) (FP.l2d ((i3 <<< ((17 : Int32) &&& 31)) >>> ((17 : Int32) &&& 31)).toInt64))), .second, .val (.long (((((((i3 <<< ((17 : Int32) &&& 31)) >>> ((17 : Int32) &&& 31)).toInt64) * (((1 : Int32) + (i0 &&& (65535 : Int32))).toInt64)) * (((((1 : Int32) <<< ((i4 &&& (7 : Int32)) &&& 31)) - (1 : Int32)) + (1 : Int32)).toInt64)) * (4 : Int64)) * (((1 : Int32) <<< ((i2 &&& (7 : Int32)) &&& 31)).toInt64))), .second, .val (.long ((((((1 : Int32) <<< ((i4 &&& (7 : Int32)) &&& 31)) - (1 : Int32)).toInt64) * (((((4 : Int32) - ((i5 &&& (7 : Int32)) % (5 : Int32))).toInt64) * (((1 : Int32) <<< ((i2 &&& (7 : Int32)) &&& 31)).toInt64)) + ((((i5 &&& (7 : Int32)) % (5 : Int32)).toInt64) * ((i1 &&& (65535 : Int32)).toInt64)))) + (((4 : Int64) * (((1 : Int32) + (i0 &&& (65535 : Int32))).toInt64)) * (((1 : Int32) <<< ((i2 &&& (7 : Int32)) &&& 31)).toInt64)))), .second, .val (.double (FP.ddiv (FP.l2d (pV ((1 : Int32) + (i0 &&& (65535 : Int32))) ((1 : Int32) <<< ((i2 &&& (7 : Int32)) &&& 31)) ((i3 <<< ((17 : Int32) &&& 31)) >>> ((17 : Int32) &&& 31)) (((1 : Int32) <<< ((i4 &&& (7 : Int32)) &&& 31)) - (1 : Int32)))) (FP.l2d (qV ((1 : Int32) + (i0 &&& (65535 : Int32))) (i1 &&& (65535 : Int32)) ((1 : Int32) <<< ((i2 &&& (7 : Int32)) &&& 31)) (((1 : Int32) <<< ((i4 &&& (7 : Int32)) &&& 31)) - (1 : Int32)) ((i5 &&& (7 : Int32)) % (5 : Int32)))))), .second] [(.int (0 : Int32))])
  refine Go.by (fun t k => XS.ifNo X136.here hx rfl (hb hby at_161) rfl ((if0 _ _).trans (teq (show (0 : Int32) = (0 : Int32) from (by decide))).2) k) ?_
  show Go p e below _ T136 (mkF m 164 #[.val (.int i0), .val (.int i1), .val (.int i2), .val (.int i3), .val (.int i4), .val (.int i5), .val (.int ((1 : Int32) + (i0 &&& (65535 : Int32)))), .val (.int (i1 &&& (65535 : Int32))), .val (.int ((1 : Int32) <<< ((i2 &&& (7 : Int32)) &&& 31))), .val (.int ((i3 <<< ((17 : Int32) &&& 31)) >>> ((17 : Int32) &&& 31))), .val (.int (((1 : Int32) <<< ((i4 &&& (7 : Int32)) &&& 31)) - (1 : Int32))), .val (.int ((i5 &&& (7 : Int32)) % (5 : Int32))), .val (.ref b131), .val (.double (scoreV (FP.l2d (((1 : Int32) <<< ((i4 &&& (7 : Int32)) &&& 31)) - (1 : Int32)).toInt64) (bV ((i5 &&& (7 : Int32)) % (5 : Int32))) (FP.l2d ((1 : Int32) + (i0 &&& (65535 : Int32))).toInt64) (FP.l2d (i1 &&& (65535 : Int32)).toInt64) (FP.l2d ((1 : Int32) <<< ((i2 &&& (7 : Int32)) &&& 31)).toInt64) (FP.l2d ((i3 <<< ((17 : Int32) &&& 31)) >>> ((17 : Int32) &&& 31)).toInt64))), .second, .val (.long (((((((i3 <<< ((17 : Int32) &&& 31)) >>> ((17 : Int32) &&& 31)).toInt64) * (((1 : Int32) + (i0 &&& (65535 : Int32))).toInt64)) * (((((1 : Int32) <<< ((i4 &&& (7 : Int32)) &&& 31)) - (1 : Int32)) + (1 : Int32)).toInt64)) * (4 : Int64)) * (((1 : Int32) <<< ((i2 &&& (7 : Int32)) &&& 31)).toInt64))), .second, .val (.long ((((((1 : Int32) <<< ((i4 &&& (7 : Int32)) &&& 31)) - (1 : Int32)).toInt64) * (((((4 : Int32) - ((i5 &&& (7 : Int32)) % (5 : Int32))).toInt64) * (((1 : Int32) <<< ((i2 &&& (7 : Int32)) &&& 31)).toInt64)) + ((((i5 &&& (7 : Int32)) % (5 : Int32)).toInt64) * ((i1 &&& (65535 : Int32)).toInt64)))) + (((4 : Int64) * (((1 : Int32) + (i0 &&& (65535 : Int32))).toInt64)) * (((1 : Int32) <<< ((i2 &&& (7 : Int32)) &&& 31)).toInt64)))), .second, .val (.double (FP.ddiv (FP.l2d (pV ((1 : Int32) + (i0 &&& (65535 : Int32))) ((1 : Int32) <<< ((i2 &&& (7 : Int32)) &&& 31)) ((i3 <<< ((17 : Int32) &&& 31)) >>> ((17 : Int32) &&& 31)) (((1 : Int32) <<< ((i4 &&& (7 : Int32)) &&& 31)) - (1 : Int32)))) (FP.l2d (qV ((1 : Int32) + (i0 &&& (65535 : Int32))) (i1 &&& (65535 : Int32)) ((1 : Int32) <<< ((i2 &&& (7 : Int32)) &&& 31)) (((1 : Int32) <<< ((i4 &&& (7 : Int32)) &&& 31)) - (1 : Int32)) ((i5 &&& (7 : Int32)) % (5 : Int32)))))), .second] [])
  refine Go.by (fun t k => XS.iconst X136.here hx rfl (hb hby at_164) (XS.goto X136.here hx rfl (pc0 := 165) (pc' := 169) rfl (hb hby at_165) (by decide) (by decide) k)) ?_
  show Go p e below _ T136 (mkF m 169 #[.val (.int i0), .val (.int i1), .val (.int i2), .val (.int i3), .val (.int i4), .val (.int i5), .val (.int ((1 : Int32) + (i0 &&& (65535 : Int32)))), .val (.int (i1 &&& (65535 : Int32))), .val (.int ((1 : Int32) <<< ((i2 &&& (7 : Int32)) &&& 31))), .val (.int ((i3 <<< ((17 : Int32) &&& 31)) >>> ((17 : Int32) &&& 31))), .val (.int (((1 : Int32) <<< ((i4 &&& (7 : Int32)) &&& 31)) - (1 : Int32))), .val (.int ((i5 &&& (7 : Int32)) % (5 : Int32))), .val (.ref b131), .val (.double (scoreV (FP.l2d (((1 : Int32) <<< ((i4 &&& (7 : Int32)) &&& 31)) - (1 : Int32)).toInt64) (bV ((i5 &&& (7 : Int32)) % (5 : Int32))) (FP.l2d ((1 : Int32) + (i0 &&& (65535 : Int32))).toInt64) (FP.l2d (i1 &&& (65535 : Int32)).toInt64) (FP.l2d ((1 : Int32) <<< ((i2 &&& (7 : Int32)) &&& 31)).toInt64) (FP.l2d ((i3 <<< ((17 : Int32) &&& 31)) >>> ((17 : Int32) &&& 31)).toInt64))), .second, .val (.long (((((((i3 <<< ((17 : Int32) &&& 31)) >>> ((17 : Int32) &&& 31)).toInt64) * (((1 : Int32) + (i0 &&& (65535 : Int32))).toInt64)) * (((((1 : Int32) <<< ((i4 &&& (7 : Int32)) &&& 31)) - (1 : Int32)) + (1 : Int32)).toInt64)) * (4 : Int64)) * (((1 : Int32) <<< ((i2 &&& (7 : Int32)) &&& 31)).toInt64))), .second, .val (.long ((((((1 : Int32) <<< ((i4 &&& (7 : Int32)) &&& 31)) - (1 : Int32)).toInt64) * (((((4 : Int32) - ((i5 &&& (7 : Int32)) % (5 : Int32))).toInt64) * (((1 : Int32) <<< ((i2 &&& (7 : Int32)) &&& 31)).toInt64)) + ((((i5 &&& (7 : Int32)) % (5 : Int32)).toInt64) * ((i1 &&& (65535 : Int32)).toInt64)))) + (((4 : Int64) * (((1 : Int32) + (i0 &&& (65535 : Int32))).toInt64)) * (((1 : Int32) <<< ((i2 &&& (7 : Int32)) &&& 31)).toInt64)))), .second, .val (.double (FP.ddiv (FP.l2d (pV ((1 : Int32) + (i0 &&& (65535 : Int32))) ((1 : Int32) <<< ((i2 &&& (7 : Int32)) &&& 31)) ((i3 <<< ((17 : Int32) &&& 31)) >>> ((17 : Int32) &&& 31)) (((1 : Int32) <<< ((i4 &&& (7 : Int32)) &&& 31)) - (1 : Int32)))) (FP.l2d (qV ((1 : Int32) + (i0 &&& (65535 : Int32))) (i1 &&& (65535 : Int32)) ((1 : Int32) <<< ((i2 &&& (7 : Int32)) &&& 31)) (((1 : Int32) <<< ((i4 &&& (7 : Int32)) &&& 31)) - (1 : Int32)) ((i5 &&& (7 : Int32)) % (5 : Int32)))))), .second] [(.int (1 : Int32))])
  exact Go.retN X136 hx (t := .boolean) hret (by simp) hlk (hb hby at_169) (by first | (rw [e136]; exact ⟨rfl, N136, K135⟩) | exact ⟨rfl, N136, K135⟩) (by decide) (by decide)
set_option maxRecDepth 65536 in
set_option maxHeartbeats 40000000 in
theorem comes_1 {Post : Tables → Env → Array Value → State → Outcome → State → Prop} (hpost : ∀ tb e args s v u, (limb_1_1.after args s (.returned v) u = true ∧ limb_1_2.after args s (.returned v) u = true ∧ True) → FrameEnd s (.returned v) u (Jvm.fieldLocs frame_1_writes args s ++ Jvm.arrayLocs frame_1_arrays args s ++ Jvm.staticLocs frame_1_statics s) 16 128 → Post tb e args s (.returned v) u) :
    ArmFor flags0 classFile x code maxLocals ret World_1 tables_1 room_1 Calls_1 rest_1 Pre_1 Post := by
  intro l hfl _ _ p e ha hc hk s m args below hf hA hF happ hP
  obtain ⟨hcalls, hrest, hpre⟩ := hP
  obtain ⟨-, -, -, hnamed, -, -, -, hat⟩ := (Spec.applies_iff hf).mp happ
  obtain ⟨hg, hn⟩ := and_e (Cond.before_iff.mp (show (Jvm.Cond.and given_1 narrow_1).before args s = true from hpre))
  obtain ⟨hcount, r0⟩ := and_e hg
  obtain ⟨k0, r1⟩ := and_e r0
  obtain ⟨k1, r2⟩ := and_e r1
  obtain ⟨k2, r3⟩ := and_e r2
  obtain ⟨k3, r4⟩ := and_e r3
  obtain ⟨k4, r5⟩ := and_e r4
  obtain ⟨w0, w1, w2, w3, w4, w5, rfl⟩ : ∃ w0 w1 w2 w3 w4 w5 : Value, args = #[w0, w1, w2, w3, w4, w5] := by
    have hs : args.size = 6 := by simpa [Cond.value, given_1] using hcount
    obtain ⟨L⟩ := args
    match L, hs with
    | [w0, w1, w2, w3, w4, w5], _ => exact ⟨w0, w1, w2, w3, w4, w5, rfl⟩
  have hw := fun d (hd : d ∈ tables_1) => atoms_spec (ws := Jvm.Cond.code x code maxLocals ret :: tables_1) hat d (List.mem_cons_of_mem _ hd)
  obtain ⟨i0, e0⟩ := is_v k0
  obtain rfl : w0 = (.int i0) := Option.some.inj e0
  obtain ⟨i1, e1⟩ := is_v k1
  obtain rfl : w1 = (.int i1) := Option.some.inj e1
  obtain ⟨i2, e2⟩ := is_v k2
  obtain rfl : w2 = (.int i2) := Option.some.inj e2
  obtain ⟨i3, e3⟩ := is_v k3
  obtain rfl : w3 = (.int i3) := Option.some.inj e3
  obtain ⟨i4, e4⟩ := is_v k4
  obtain rfl : w4 = (.int i4) := Option.some.inj e4
  obtain ⟨i5, e5⟩ := is_v r5
  obtain rfl : w5 = (.int i5) := Option.some.inj e5
  obtain ⟨n, o, h1, h2, h3, _, L, rfl, ⟨rfl, N, -⟩, hq⟩ := rm_law l s _ hw tables_1 i0 i1 i2 i3 i4 i5  s.heap s.heap.size (Nat.le_refl _)  p e ha hc hk s m _ below hf ((Spec.applies_iff_loose hf).mp happ).1 ⟨rfl, State.Warmed39.refl s, rfl⟩ trivial
  refine ⟨n, _, h1, h2, h3, hpost _ _ _ _ _ _ ⟨Cond.after_iff.mpr rfl, Cond.after_iff.mpr (eq_i res_at (Term.int_eval (1)) rfl), trivial⟩ ⟨hq.1, hq.2.1, (hq.2.2.sift fun y hy => Or.inr (N y hy)).mono (by decide) (by decide)⟩⟩
theorem main_1_1 : Claimed_1_1 := comes_1 fun _ _ _ _ _ _ h hF => ⟨h.1, hF⟩
theorem main_1_2 : Claimed_1_2 := comes_1 fun _ _ _ _ _ _ h hF => ⟨h.2.1, hF⟩
end Jvm.Pilot.@@N@@
namespace Jvm.Pilot.@@N@@
open Jvm Jvm.ClassFile Sem Op Lib Jvm.Free Jvm.Stand Jvm.Pilot.@@N@@.Jvm.D
/-! MADE BY PROGRAM (witnessworld.py) out of the Statement's table words and the real class files: 9 classes; the members and pool entries that the words name. The judged class is class 1, her method 1. -/
namespace start1
open Jvm.ClassFile
def u (s : String) : CpInfo := .utf8 (stringToUtf16 s)
/-- a pool by its gaps: so many unusable entries, then the entry; so many at the end -/
def gap : Nat → List CpInfo → List CpInfo
  | 0, r => r
  | n + 1, r => .unusable :: gap n r
def poolList (es : List (Nat × CpInfo)) (last : Nat) : List CpInfo := es.foldr (fun e r => gap e.1 (e.2 :: r)) (gap last [])
def pool (es : List (Nat × CpInfo)) (last : Nat) : Array CpInfo := ⟨poolList es last⟩
def fileOf (pool : Array CpInfo) (this : Nat) (attrs : Array Attribute := #[]) (ms : Array MethodInfo := #[]) (fl : Nat := 33) (sup : Nat := 0) (ifs : Array Nat := #[]) (fds : Array FieldInfo := #[]) : ClassFile where
  minorVersion := 0
  majorVersion := 65
  constantPool := pool
  accessFlags := fl
  thisClass := this
  superClass := sup
  interfaces := ifs
  fields := fds
  methods := ms
  attributes := attrs
def plain (name : String) (sup : Option ClassId) : Class where
  name := name
  kind := .ordinary
  loader := none
  accessFlags := 33
  super := sup
  interfaces := #[]
  cf := none
  fields := #[]
  methods := #[]
  instanceTypes := #[]
  staticTypes := #[]
  resolved := #[]
  callSites := []
  init := .initialized
  statics := none
  mirror := none

def pool0 : Array CpInfo := pool [(5, u "<init>"), (0, u "()V"), (1, .class_ 10), (1, u "java/lang/Object")] 113

def k0c0 : Code := { maxStack := 0, maxLocals := 1, code := object_method_1_code, exceptionTable := #[], attributes := #[] }
def k0m0 : Method := { name := "<init>", desc := "()V", sig := { parameters := [], returnType := none }, accessFlags := 1, code := some k0c0 }
/-- java/lang/Object -/
def k0 : Class := { plain "java/lang/Object" none with
  accessFlags := 33
  interfaces := #[]
  cf := some (fileOf pool0 8 #[] #[{ accessFlags := 1, nameIndex := 5, descriptorIndex := 6, attributes := #[] }] 33 0 #[] #[])
  fields := #[]
  methods := #[k0m0]
  instanceTypes := #[]
  staticTypes := #[]
  resolved := Array.replicate 124 none
  statics := none }

def pool1 : Array CpInfo := pool [(2, .class_ 4), (1, u "java/lang/Object"), (0, u "<init>"), (0, u "()V"), (0, .integer 65535), (0, .class_ 9), (0, u "com/example/antecedent/antecedent/Bm25"), (0, .double 4616189618054758400), (1, .methodref 8 13), (0, .nameAndType 5 14), (0, u "(DD)V"), (0, .methodref 8 16), (0, .nameAndType 17 18), (0, u "score"), (0, u "(DDDD)D"), (0, .long 4), (1, .class_ 22), (0, u "com/example/antecedent/antecedent/Bm25ScorePinLaw"), (2, u "law"), (0, u "(IIIIII)Z")] 3

def k1m0 : Method := { name := "<init>", desc := "()V", sig := { parameters := [], returnType := none }, accessFlags := 1, code := none }
def k1c1 : Code := { maxStack := 9, maxLocals := 21, code := code, exceptionTable := #[], attributes := #[] }
def k1m1 : Method := { name := "law", desc := "(IIIIII)Z", sig := { parameters := [.int, .int, .int, .int, .int, .int], returnType := some .boolean }, accessFlags := 9, code := some k1c1 }
/-- com/example/antecedent/antecedent/Bm25ScorePinLaw -/
def k1 : Class := { plain "com/example/antecedent/antecedent/Bm25ScorePinLaw" (some 0) with
  accessFlags := 49
  interfaces := #[]
  cf := some (fileOf pool1 21 #[] #[{ accessFlags := 1, nameIndex := 5, descriptorIndex := 6, attributes := #[] }, { accessFlags := 9, nameIndex := 25, descriptorIndex := 26, attributes := #[] }] 49 2 #[] #[])
  fields := #[]
  methods := #[k1m0, k1m1]
  instanceTypes := #[]
  staticTypes := #[]
  resolved := Array.replicate 30 none
  statics := none }

def pool2 : Array CpInfo := pool [(1, .methodref 2 3), (0, .class_ 4), (0, .nameAndType 5 6), (0, u "java/lang/Object"), (0, u "<init>"), (0, u "()V"), (2, .double 9218868437227405312), (11, .fieldref 22 23), (0, .class_ 24), (0, .nameAndType 25 26), (0, u "com/example/antecedent/antecedent/Bm25"), (0, u "k1"), (0, u "D"), (0, .fieldref 22 28), (0, .nameAndType 29 26), (0, u "b"), (6, u "(DD)V"), (8, u "DEFAULT_K1"), (1, u "DEFAULT_B"), (7, u "score"), (0, u "(DDDD)D")] 19

def k2c0 : Code := { maxStack := 4, maxLocals := 5, code := prog_2_method_1_code, exceptionTable := #[], attributes := #[] }
def k2m0 : Method := { name := "<init>", desc := "(DD)V", sig := { parameters := [.double, .double], returnType := none }, accessFlags := 1, code := some k2c0 }
def k2c1 : Code := { maxStack := 10, maxLocals := 11, code := prog_2_method_4_code, exceptionTable := #[], attributes := #[] }
def k2m1 : Method := { name := "score", desc := "(DDDD)D", sig := { parameters := [.double, .double, .double, .double], returnType := some .double }, accessFlags := 1, code := some k2c1 }
/-- com/example/antecedent/antecedent/Bm25 -/
def k2 : Class := { plain "com/example/antecedent/antecedent/Bm25" (some 0) with
  accessFlags := 49
  interfaces := #[]
  cf := some (fileOf pool2 22 #[] #[{ accessFlags := 1, nameIndex := 5, descriptorIndex := 36, attributes := #[] }, { accessFlags := 1, nameIndex := 55, descriptorIndex := 56, attributes := #[] }] 49 2 #[] #[{ accessFlags := 25, nameIndex := 45, descriptorIndex := 26, attributes := #[] }, { accessFlags := 25, nameIndex := 47, descriptorIndex := 26, attributes := #[] }, { accessFlags := 18, nameIndex := 25, descriptorIndex := 26, attributes := #[] }, { accessFlags := 18, nameIndex := 29, descriptorIndex := 26, attributes := #[] }])
  fields := #[{ name := "DEFAULT_K1", type := .double, accessFlags := 25, slot := 0, constantValue := 0 }, { name := "DEFAULT_B", type := .double, accessFlags := 25, slot := 1, constantValue := 0 }, { name := "k1", type := .double, accessFlags := 18, slot := 0, constantValue := 0 }, { name := "b", type := .double, accessFlags := 18, slot := 1, constantValue := 0 }]
  methods := #[k2m0, k2m1]
  instanceTypes := #[.double, .double]
  staticTypes := #[.double, .double]
  resolved := Array.replicate 76 none
  statics := none }

def pool3 : Array CpInfo := pool [(1, u "java/lang/Cloneable"), (0, .class_ 1), (0, u "java/lang/Object"), (0, .class_ 3)] 3

/-- java/lang/Cloneable -/
def k3 : Class := { plain "java/lang/Cloneable" (some 0) with
  accessFlags := 1537
  interfaces := #[]
  cf := some (fileOf pool3 2 #[] #[] 1537 4 #[] #[])
  fields := #[]
  methods := #[]
  instanceTypes := #[]
  staticTypes := #[]
  resolved := Array.replicate 8 none
  statics := none }

def pool4 : Array CpInfo := pool [(1, u "java/io/Serializable"), (0, .class_ 1), (0, u "java/lang/Object"), (0, .class_ 3)] 3

/-- java/io/Serializable -/
def k4 : Class := { plain "java/io/Serializable" (some 0) with
  accessFlags := 1537
  interfaces := #[]
  cf := some (fileOf pool4 2 #[] #[] 1537 4 #[] #[])
  fields := #[]
  methods := #[]
  instanceTypes := #[]
  staticTypes := #[]
  resolved := Array.replicate 8 none
  statics := none }

/-- the primitive byte -/
def k5 : Class := { plain "byte" none with kind := .primitive 'B', accessFlags := 0x411 }
/-- [B -/
def k6 : Class := { plain "[B" (some 0) with kind := .array 5 .byte, interfaces := #[3, 4], accessFlags := 1041 }

/-- the primitive int -/
def k7 : Class := { plain "int" none with kind := .primitive 'I', accessFlags := 0x411 }
/-- [I -/
def k8 : Class := { plain "[I" (some 0) with kind := .array 7 .int, interfaces := #[3, 4], accessFlags := 1041 }

def heap : Heap := #[]
def classes : Array Class := #[k0, k1, k2, k3, k4, k5, k6, k7, k8]
def interned : List (Array UInt16 × Addr) := []
def slotsUsed : Nat := 0
def theMethod : MethodId := ⟨1, 1⟩
def args0 : Array Value := #[.int 5, .int 3, .int 7, .int 9, .int 2, .int 1]
def aboutOver (below : List Frame) : State where
  vm := { classes := classes, interned := interned.toArray }
  heap := heap
  slotsUsed := slotsUsed
  threads := #[{ frames := .invoking theMethod args0 :: below }]
def below0 : List Frame := [.native { method := ⟨0, 0⟩, args := #[] }]
def about1 : State := aboutOver below0
def p0 : Program := .bare "" "" ""
def e0 : Env := launch0.env 0 0 0
theorem w_frames : about1.frames = Frame.invoking theMethod args0 :: below0 := rfl
set_option maxRecDepth 65536 in
theorem w_args : argsFit about1.vm theMethod args0 = true := by decide +kernel
set_option maxRecDepth 65536 in
theorem w_heap : heapFits about1 = true := by decide +kernel
set_option maxRecDepth 65536 in
theorem w_runnable : about1.curStatus? = some .runnable := by decide +kernel
set_option maxRecDepth 65536 in
theorem w_alone : about1.alone = true := by decide +kernel
set_option maxRecDepth 65536 in
theorem w_named : about1.methodNamed? x = some theMethod := by decide +kernel
set_option maxRecDepth 65536 in
theorem w_hears : about1.hears theMethod below0 = true := by decide +kernel
set_option maxRecDepth 65536 in
theorem w_ripe : about1.ripe theMethod args0 below0 = true := by decide +kernel
theorem w_running : about1.status = .running := rfl
set_option maxRecDepth 65536 in
theorem w_room : about1.hasRoom e0.platform room_1 = true :=
  launch0.hasRoom_least _ room_1 (by decide +kernel) (by decide +kernel) (by decide +kernel) (by decide +kernel) (by decide +kernel) (by decide +kernel)
theorem allAtoms_all (ts : List Jvm.Cond) (a : Array Jvm.Value) (st : Jvm.State) : (allAtoms ts).before a st = ts.all (fun c => c.before a st) := by
  induction ts with
  | nil => rfl
  | cons c t ih =>
    show (Jvm.Cond.and c (allAtoms t)).before a st = _
    rw [Jvm.Cond.before_and, ih, List.all_cons]
def words1 : List Jvm.Cond := Jvm.Cond.code x code maxLocals ret :: tables_1
/-- a 'code' word, met by the world's own term for the bytes: nothing is compared byte by byte -/
theorem code_word {y : MethodName} {bytes : ByteArray} {mx : Nat} {rt : Option FieldType} {a : Array Value} {s : State} {m : MethodId} {meth : Method} {c : Code} (h1 : s.methodNamed? y = some m) (h2 : s.vm.method? m = some meth) (h3 : meth.code = some c) (h4 : c.code = bytes)
    (h5 : (c.maxLocals == mx && c.exceptionTable.isEmpty && decide (c.maxStack ≤ mostOperands) && decide (meth.sig.returnType = rt) && !meth.locks && decide (parseMethodDescriptor y.desc = some meth.sig)) = true) : (Jvm.Cond.code y bytes mx rt).before a s = true := by
  simp only [Bool.and_eq_true, beq_iff_eq, Bool.not_eq_true', decide_eq_true_eq] at h5
  obtain ⟨⟨⟨⟨⟨g1, g2⟩, g3⟩, g4⟩, g5⟩, g6⟩ := h5
  simp [Cond.before, Cond.holds, Cond.value, h1, h2, h3, h4, g1, g2, g3, g4, g5, g6]
def isCode : Jvm.Cond → Bool
  | .code _ _ _ _ => true
  | _ => false
theorem all_split {L : List Jvm.Cond} {P : Jvm.Cond → Bool} (h1 : L.all (fun c => isCode c || P c) = true) (h2 : ∀ c ∈ L.filter isCode, P c = true) : L.all P = true := by
  refine List.all_eq_true.mpr fun c hc => ?_
  have h := List.all_eq_true.mp h1 c hc
  rcases Bool.eq_false_or_eq_true (isCode c) with hi | hi
  · exact h2 c (List.mem_filter.mpr ⟨hc, hi⟩)
  · simpa [hi] using h
set_option maxRecDepth 65536 in
theorem w_c0 : (Jvm.Cond.code x code maxLocals ret).before args0 about1 = true := code_word (m := ⟨1, 1⟩) (meth := k1m1) (c := k1c1) (by decide +kernel) rfl rfl rfl (by decide +kernel)
set_option maxRecDepth 65536 in
theorem w_c1 : (Jvm.Cond.code ({ cls := "com/example/antecedent/antecedent/Bm25", name := "<init>", desc := "(DD)V" } : Jvm.MethodName) prog_2_method_1_code (5 : Nat) (Option.none : Option Jvm.ClassFile.FieldType)).before args0 about1 = true := code_word (m := ⟨2, 0⟩) (meth := k2m0) (c := k2c0) (by decide +kernel) rfl rfl rfl (by decide +kernel)
set_option maxRecDepth 65536 in
theorem w_c2 : (Jvm.Cond.code ({ cls := "java/lang/Object", name := "<init>", desc := "()V" } : Jvm.MethodName) object_method_1_code (1 : Nat) (Option.none : Option Jvm.ClassFile.FieldType)).before args0 about1 = true := code_word (m := ⟨0, 0⟩) (meth := k0m0) (c := k0c0) (by decide +kernel) rfl rfl rfl (by decide +kernel)
set_option maxRecDepth 65536 in
theorem w_c3 : (Jvm.Cond.code ({ cls := "com/example/antecedent/antecedent/Bm25", name := "score", desc := "(DDDD)D" } : Jvm.MethodName) prog_2_method_4_code (11 : Nat) (Option.some Jvm.ClassFile.FieldType.double)).before args0 about1 = true := code_word (m := ⟨2, 1⟩) (meth := k2m1) (c := k2c1) (by decide +kernel) rfl rfl rfl (by decide +kernel)
def codes1 : List Jvm.Cond := [Jvm.Cond.code x code maxLocals ret, Jvm.Cond.code ({ cls := "com/example/antecedent/antecedent/Bm25", name := "<init>", desc := "(DD)V" } : Jvm.MethodName) prog_2_method_1_code (5 : Nat) (Option.none : Option Jvm.ClassFile.FieldType), Jvm.Cond.code ({ cls := "java/lang/Object", name := "<init>", desc := "()V" } : Jvm.MethodName) object_method_1_code (1 : Nat) (Option.none : Option Jvm.ClassFile.FieldType), Jvm.Cond.code ({ cls := "com/example/antecedent/antecedent/Bm25", name := "score", desc := "(DDDD)D" } : Jvm.MethodName) prog_2_method_4_code (11 : Nat) (Option.some Jvm.ClassFile.FieldType.double)]
set_option maxRecDepth 65536 in
theorem codes_eq : words1.filter isCode = codes1 := rfl
theorem w_codes : ∀ c ∈ words1.filter isCode, c.before args0 about1 = true := by
  rw [codes_eq]
  intro c hc
  simp only [codes1, List.mem_cons, List.not_mem_nil, or_false] at hc
  rcases hc with rfl | rfl | rfl | rfl
  · exact w_c0
  · exact w_c1
  · exact w_c2
  · exact w_c3
set_option maxRecDepth 65536 in
theorem w_t1 : words1.all (fun c => isCode c || c.before args0 about1) = true := by decide +kernel
theorem w_tables : (allAtoms (Jvm.Cond.code x code maxLocals ret :: tables_1)).before args0 about1 = true := by
  rw [allAtoms_all]
  show words1.all (fun c => c.before args0 about1) = true
  refine all_split ?_ w_codes
  rw [w_t1]
set_option maxRecDepth 65536 in
theorem w_case : (Jvm.Cond.and given_1 narrow_1).before args0 about1 = true := by decide +kernel
theorem w_applies : (headSpec (Jvm.Cond.code x code maxLocals ret :: tables_1) room_1).applies x e0.platform about1 = true :=
  (Spec.applies_iff w_frames).mpr ⟨w_running, w_runnable, w_alone, w_named, w_hears, w_ripe, w_room, w_tables⟩
theorem atStart : AtStart classFile x code maxLocals ret World_1 tables_1 room_1 Calls_1 rest_1 Pre_1 launch0 p0 e0 about1 theMethod args0 below0 :=
  ⟨lists_1, trivial, launch0.admits_env _ _ _, launch0.least_env, fairChoices_fair.cas, fairChoices_fair.clock, w_frames, w_args, w_heap, w_applies, trivial, trivial, w_case⟩
end start1
theorem witness_1 : WitnessClaimed_1 := ⟨start1.p0, start1.e0, start1.about1, start1.theMethod, start1.args0, start1.below0, start1.atStart⟩
end Jvm.Pilot.@@N@@
