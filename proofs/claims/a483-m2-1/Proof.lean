import JvmDerived
import JvmDerived.Pilot.@@N@@Statement
import JvmDerived.Pilot.@@N@@Code
set_option linter.unusedVariables false
set_option linter.unusedSimpArgs false
namespace Jvm.Pilot.@@N@@
open Jvm Jvm.ClassFile Sem Op Lib Jvm.Free Jvm.Stand Jvm.LawKit Jvm.RoadKit Bundle Jvm.Pilot.@@N@@.Jvm.D
/-- the road from here on ends, and G holds of its end -/
def Go (p : Program) (e : Env) (below : List Frame) (G : Outcome → State → Prop) (T : State) (g : JFrame) : Prop :=
  ∃ U o, Steps p.tables e below (T.setTop g) U ∧ U.status = .running ∧ Ended U below o ∧ G o U
/-- what a body leaves: it returned v, Q holds, the frame is kept -/
def Out (s : State) (Q : Option Value → Heap → List Loc → Prop) (C S : Nat) (o : Outcome) (U : State) : Prop :=
  ∃ v L, o = .returned v ∧ Q v U.heap L ∧ FrameEnd s o U L C S
section GoLaws
variable {p : Program} {l : Launch} {e : Env} {R : Room} {s : State} {m : MethodId} {args : Array Value} {below : List Frame} {meth : Method} {c : Code} {T T' : State} {locs : List Loc} {cells slots : Nat} {g g' : JFrame} {G : Outcome → State → Prop} {Q : Option Value → Heap → List Loc → Prop} {C S : Nat}
theorem Go.by (st : ∀ t, Steps p.tables e below (T'.setTop g') t → Steps p.tables e below (T.setTop g) t) (k : Go p e below G T' g') : Go p e below G T g := by
  obtain ⟨U, o, h, r⟩ := k
  exact ⟨U, o, st _ h, r⟩
theorem Go.tr (st : Steps p.tables e below (T.setTop g) (T'.setTop g')) (k : Go p e below G T' g') : Go p e below G T g := by
  obtain ⟨U, o, h, r⟩ := k
  exact ⟨U, o, st.trans h, r⟩
theorem Go.cast (q : g = g') (k : Go p e below G T g') : Go p e below G T g := by subst q; exact k
theorem Go.ends (X : Stand p l e R s m args below meth c T locs cells slots) {v : Option Value} (hlk : meth.locks = false) (hv : meth.sig.returnType = none → v = none)
    (st : ∀ fs, (∀ (f : JFrame) (acts : List Action), f.method = m → f.locked = none → f.entered = [] → (doReturn e (T.setTop f) acts v).1 = T.setFrames fs) → Steps p.tables e below (T.setTop g) (T.setFrames fs))
    (hQ : Q v T.heap locs) (hc : cells ≤ C) (hs : slots ≤ S) : Go p e below (Out s Q C S) T g := by
  obtain ⟨fs, hr, hrun, hended, hW, hsame⟩ := X.leave (v := v) hv hlk
  exact ⟨_, _, st fs hr, hrun, hended, _, _, rfl, hQ, ⟨_, rfl⟩, hW, hsame.mono hc hs⟩
theorem Go.ret0 (X : Stand p l e R s m args below meth c T locs cells slots) (hx : p.tables.exec = Jvm.exec) (hret : meth.sig.returnType = none) (hlk : meth.locks = false) {pc : Nat} {Ls : Array Slot} (hd : decode c.code pc = .ok (.return_, 1))
    (hQ : Q none T.heap locs) (hc : cells ≤ C) (hs : slots ≤ S) : Go p e below (Out s Q C S) T (mkF m pc Ls []) :=
  Go.ends X hlk (fun _ => rfl) (fun fs hr => X.returnOut hx hret hd hr) hQ hc hs
theorem Go.retN (X : Stand p l e R s m args below meth c T locs cells slots) (hx : p.tables.exec = Jvm.exec) {t : FieldType} (hret : meth.sig.returnType = some t) (ht : t = .boolean ∨ t = .byte ∨ t = .char ∨ t = .short) (hlk : meth.locks = false) {pc : Nat} {Ls : Array Slot} {z : Int32} {rest : List Value} (hd : decode c.code pc = .ok (.ireturn, 1))
    (hQ : Q (some (.int (nar t z))) T.heap locs) (hc : cells ≤ C) (hs : slots ≤ S) : Go p e below (Out s Q C S) T (mkF m pc Ls (.int z :: rest)) :=
  Go.ends X hlk (fun h => by rw [hret] at h; cases h) (fun fs hr => RoadKit.retN X hx hret ht hd hr) hQ hc hs
theorem Go.retI (X : Stand p l e R s m args below meth c T locs cells slots) (hx : p.tables.exec = Jvm.exec) (hret : meth.sig.returnType = some .int) (hlk : meth.locks = false) {pc : Nat} {Ls : Array Slot} {z : Int32} {rest : List Value} (hd : decode c.code pc = .ok (.ireturn, 1))
    (hQ : Q (some (.int z)) T.heap locs) (hc : cells ≤ C) (hs : slots ≤ S) : Go p e below (Out s Q C S) T (mkF m pc Ls (.int z :: rest)) :=
  Go.ends X hlk (fun h => by rw [hret] at h; cases h) (fun fs hr => retOut X hx hret rfl (Or.inl ⟨rfl, Or.inl rfl, z, rfl⟩) hd hr) hQ hc hs
theorem Go.retL (X : Stand p l e R s m args below meth c T locs cells slots) (hx : p.tables.exec = Jvm.exec) (hret : meth.sig.returnType = some .long) (hlk : meth.locks = false) {pc : Nat} {Ls : Array Slot} {z : Int64} {rest : List Value} (hd : decode c.code pc = .ok (.lreturn, 1))
    (hQ : Q (some (.long z)) T.heap locs) (hc : cells ≤ C) (hs : slots ≤ S) : Go p e below (Out s Q C S) T (mkF m pc Ls (.long z :: rest)) :=
  Go.ends X hlk (fun h => by rw [hret] at h; cases h) (fun fs hr => retOut X hx hret rfl (Or.inr (Or.inl ⟨rfl, rfl, z, rfl⟩)) hd hr) hQ hc hs
theorem Go.retD (X : Stand p l e R s m args below meth c T locs cells slots) (hx : p.tables.exec = Jvm.exec) (hret : meth.sig.returnType = some .double) (hlk : meth.locks = false) {pc : Nat} {Ls : Array Slot} {z : UInt64} {rest : List Value} (hd : decode c.code pc = .ok (.dreturn, 1))
    (hQ : Q (some (.double z)) T.heap locs) (hc : cells ≤ C) (hs : slots ≤ S) : Go p e below (Out s Q C S) T (mkF m pc Ls (.double z :: rest)) :=
  Go.ends X hlk (fun h => by rw [hret] at h; cases h) (fun fs hr => retOut X hx hret rfl (Or.inr (Or.inr (Or.inl ⟨rfl, rfl, z, rfl⟩))) hd hr) hQ hc hs
theorem Go.retR (X : Stand p l e R s m args below meth c T locs cells slots) (hx : p.tables.exec = Jvm.exec) {t : FieldType} {w : Value} (hret : meth.sig.returnType = some t) (hn : narrow t w = w) (ht : t.isReference = true) (hw : w.isRef = true) (hlk : meth.locks = false) {pc : Nat} {Ls : Array Slot} {rest : List Value} (hd : decode c.code pc = .ok (.areturn, 1))
    (hQ : Q (some w) T.heap locs) (hc : cells ≤ C) (hs : slots ≤ S) : Go p e below (Out s Q C S) T (mkF m pc Ls (w :: rest)) :=
  Go.ends X hlk (fun h => by rw [hret] at h; cases h) (fun fs hr => retOut X hx hret hn (Or.inr (Or.inr (Or.inr (Or.inr ⟨rfl, ht, hw⟩)))) hd hr) hQ hc hs
theorem Stand_grow {cells' slots' : Nat} (X : Stand p l e R s m args below meth c T locs cells slots) (hc : cells ≤ cells') (hs : slots ≤ slots') : Stand p l e R s m args below meth c T locs cells' slots' :=
  { X with same := X.same.mono hc hs }
end GoLaws
theorem ne_arv {Z : State} {h : Heap} {a b : Addr} {C : String} {a0 : Array Value} {k : Nat} {kc : ClassId} {ty : FieldType} {z : Int32} {vs : List Value} {dv : Value} (F : Exa Z h a C) (wi : (Jvm.Cond.instantiable C k).before a0 Z = true) (G : Arv Z h b kc ty z vs dv) : a ≠ b := by
  obtain ⟨c, A, -⟩ := G
  exact ne_arr F wi A
theorem chars_lo (x : Int32) : ¬ nar .char ((x &&& (255 : Int32)).toUInt32.toUInt16.toUInt32.toInt32) < 0 ∧ ¬ (255 : Int32) < nar .char ((x &&& (255 : Int32)).toUInt32.toUInt16.toUInt32.toInt32) := by
  have t : ∀ k : Fin 256, ¬ nar .char ((Int32.ofNat k.val).toUInt32.toUInt16.toUInt32.toInt32) < 0 ∧ ¬ (255 : Int32) < nar .char ((Int32.ofNat k.val).toUInt32.toUInt16.toUInt32.toInt32) := by decide +kernel
  have h : (x &&& 255).toBitVec.toNat < 256 := by
    simp only [Int32.toBitVec_and, BitVec.toNat_and]
    exact Nat.lt_succ_of_le Nat.and_le_right
  have e : (x &&& 255) = Int32.ofNat (x &&& 255).toBitVec.toNat := by
    apply Int32.toBitVec_inj.mp
    show _ = BitVec.ofNat 32 _
    rw [BitVec.ofNat_toNat]; simp
  rw [e]
  exact t ⟨_, h⟩
section Flt
open Jvm.FP Jvm.Free.Fl Jvm.FP.Core
/-- a finite double whose sign bit is 0 -/
def PF (a : UInt64) : Prop := ∃ c q, val64 a = .fin false c q
theorem PF.of {a : UInt64} (h : DFin a) (hs : sgn (val64 a) = false) : PF a := by
  obtain ⟨s, c, q, e⟩ := h
  rw [e] at hs
  exact ⟨c, q, by rw [e]; have : s = false := hs
                  rw [this]⟩
theorem mfin {K : Nat} {a : UInt64} (h : Mag64 K a) (hK : K ≤ 2047) : DFin a := fin64_core.mp (h.fin hK)
theorem mnn {K : Nat} {a : UInt64} (h : Mag64 K a) (hK : K ≤ 2047) : NoNaN64 a := (h.fin hK).noNaN
theorem PF.l2d {n : Int64} (h : 0 ≤ n.toInt) : PF (FP.l2d n) := by
  refine PF.of (l2d_fin n) ?_
  show sgn (val64 (Core.l2d n)) = false
  rw [val64_l2d]
  show sgn (roundRatio b64 (decide (n.toInt < 0)) _ 1 _) = false
  rw [sgn_roundRatio]
  exact decide_eq_false (by omega)
theorem PF.mul {a b : UInt64} (ha : PF a) (hb : PF b) (hf : DFin (FP.dmul a b)) : PF (FP.dmul a b) := by
  obtain ⟨c, q, e1⟩ := ha
  obtain ⟨d, r, e2⟩ := hb
  refine PF.of hf ?_
  show sgn (val64 (Core.dmul a b)) = false
  rw [val64_dmul, e1, e2]
  show sgn (roundRatio b64 (false != false) _ 1 _) = false
  rw [sgn_roundRatio]; rfl
theorem PF.div {a b : UInt64} (ha : PF a) (hb : PF b) (hf : DFin (FP.ddiv a b)) : PF (FP.ddiv a b) := by
  obtain ⟨c, q, e1⟩ := ha
  obtain ⟨d, r, e2⟩ := hb
  refine PF.of hf ?_
  have hq : val64 (Core.ddiv a b) = quotient b64 (.fin false c q) (.fin false d r) := by rw [val64_ddiv, e1, e2]
  show sgn (val64 (Core.ddiv a b)) = false
  by_cases hd : d = 0
  · obtain ⟨s', c', q', e⟩ := hf
    have e' : val64 (Core.ddiv a b) = .fin s' c' q' := e
    rw [hq] at e'
    exfalso
    simp only [quotient, hd, if_true] at e'
    split at e' <;> cases e'
  · rw [hq]
    show sgn (if d = 0 then _ else roundRatio b64 (false != false) c d (q - r)) = false
    rw [if_neg hd, sgn_roundRatio]; rfl
theorem PF.add {a b : UInt64} (ha : PF a) (hb : PF b) (hf : DFin (FP.dadd a b)) : PF (FP.dadd a b) := by
  obtain ⟨c, q, e1⟩ := ha
  obtain ⟨d, r, e2⟩ := hb
  refine PF.of hf ?_
  show sgn (val64 (Core.dadd a b)) = false
  rw [val64_dadd, e1, e2]
  show sgn (roundRatio b64 (sumSign false false _) _ 1 _) = false
  rw [sgn_roundRatio]
  simp only [sumSign, sumUnits, signed, Bool.false_eq_true, if_false]
  split
  · rfl
  · exact decide_eq_false (by omega)
theorem PF.zv {a : UInt64} (h : PF a) : 0 ≤ zval b64 (val64 a) := by
  obtain ⟨c, q, e⟩ := h
  rw [e]
  show 0 ≤ signed false _
  simp only [signed, Bool.false_eq_true, if_false]
  omega
theorem PF.lt {a : UInt64} (h : PF a) : a.toNat < 2 ^ 63 := by
  obtain ⟨c, q, e⟩ := h
  have h1 := sgn_bits (a := a) (by rw [e]; exact Datum.noConfusion)
  rw [e] at h1
  have : decide (2 ^ 63 ≤ a.toNat) = false := h1.symm
  have := of_decide_eq_false this
  omega
/-- the sum of two such isn't less than the second -/
theorem add_ge {a b : UInt64} (ha : PF a) (hb : PF b) (hf : PF (FP.dadd a b)) : b.toNat ≤ (FP.dadd a b).toNat := by
  have za := ha.zv
  have na : val64 a ≠ .nan := by obtain ⟨c, q, e⟩ := ha; rw [e]; exact Datum.noConfusion
  have nb : val64 b ≠ .nan := by obtain ⟨c, q, e⟩ := hb; rw [e]; exact Datum.noConfusion
  have ns : val64 (FP.dadd a b) ≠ .nan := by obtain ⟨c, q, e⟩ := hf; rw [e]; exact Datum.noConfusion
  have h1 : zval b64 (val64 b) ≤ zval b64 (val64 (FP.dadd a b)) := by
    show _ ≤ zval b64 (val64 (Core.dadd a b))
    rw [val64_dadd]
    exact sum_ge good_b64 (by obtain ⟨c, q, e⟩ := ha; exact ⟨_, c, q, e⟩) (by obtain ⟨c, q, e⟩ := hb; exact ⟨_, c, q, e⟩) (val64_fits a) (val64_fits b) (val64_fits b) nb (by omega)
  have h2 := mono_bits ns nb hf.lt hb.lt
  refine Nat.le_of_not_lt fun q => ?_
  have h3 := h2.1.mpr q
  rw [dcmp_zval ns nb] at h3
  have h4 := (compare_lt_iff _ _).mp (Option.some.inj h3)
  omega
end Flt

def nrm (b ln av : UInt64) : UInt64 := FP.dadd (FP.dsub (FP.l2d 1) b) (FP.ddiv (FP.dmul b ln) av)
def den (k1 b tf ln av : UInt64) : UInt64 := FP.dadd (FP.dmul (FP.ddiv k1 (FP.dadd k1 (FP.l2d 1))) (nrm b ln av)) (FP.ddiv tf (FP.dadd k1 (FP.l2d 1)))
def scoreV (k1 b tf ln av idf : UInt64) : UInt64 := FP.ddiv (FP.dmul idf tf) (den k1 b tf ln av)
open Jvm.Free.Fl in
def okV (k1 b tf ln av idf : UInt64) : Prop := NoNaN64 (FP.dsub (FP.l2d 1) b) ∧ NoNaN64 (FP.dmul b ln) ∧ NoNaN64 (FP.ddiv (FP.dmul b ln) av) ∧ NoNaN64 (nrm b ln av) ∧ NoNaN64 (FP.dmul idf tf) ∧ NoNaN64 (FP.dadd k1 (FP.l2d 1)) ∧ NoNaN64 (FP.ddiv k1 (FP.dadd k1 (FP.l2d 1))) ∧
  NoNaN64 (FP.dmul (FP.ddiv k1 (FP.dadd k1 (FP.l2d 1))) (nrm b ln av)) ∧ NoNaN64 (FP.ddiv tf (FP.dadd k1 (FP.l2d 1))) ∧ NoNaN64 (den k1 b tf ln av) ∧ NoNaN64 (scoreV k1 b tf ln av idf)
section Ok
open Jvm.FP Jvm.Free.Fl Jvm.FP.Core
abbrev cK : UInt64 := 4608083138725491507
abbrev cB : UInt64 := 4604930618986332160
theorem tf_big : ∀ k : Fin 1024, 1000 * 4503599627370496 ≤ (FP.ddiv (FP.l2d (Int64.ofNat (k.val + 1))) (FP.dadd cK (FP.l2d 1))).toNat := by decide +kernel
theorem okC {t n a d : Int64} (ht : 1 ≤ t.toInt ∧ t.toInt ≤ 1024) (hn : 0 ≤ n.toInt) (ha : 1 ≤ a.toInt) : okV cK cB (FP.l2d t) (FP.l2d n) (FP.l2d a) (FP.l2d d) := by
  have m0 : Mag64 1023 (FP.dsub (FP.l2d 1) cB) := by unfold Mag64; decide +kernel
  have p0 : PF (FP.dsub (FP.l2d 1) cB) := PF.of (mfin m0 (by decide)) (by decide +kernel)
  have mb : Mag64 1023 cB := by unfold Mag64; decide +kernel
  have pb : PF cB := PF.of (mfin mb (by decide)) (by decide +kernel)
  have m1 := Free.Fl.dmul_mag mb (Free.Fl.l2d_mag n) (by decide) (by decide)
  have p1 := pb.mul (PF.l2d hn) (mfin m1 (by decide))
  have na : a ≠ 0 := fun q => by rw [q] at ha; exact absurd ha (by decide)
  have m2 := RoadKit.ddiv_mag m1 (l2d_big na) (by decide) (by decide)
  have p2 := p1.div (PF.l2d (by omega : 0 ≤ a.toInt)) (mfin m2 (by decide))
  have m3 := Free.Fl.dadd_mag (m0.mono (by decide)) m2 (by decide)
  have p3 : PF (nrm cB (FP.l2d n) (FP.l2d a)) := p0.add p2 (mfin m3 (by decide))
  have m4 := Free.Fl.dmul_mag (Free.Fl.l2d_mag d) (Free.Fl.l2d_mag t) (by decide) (by decide)
  have m5 : Mag64 1025 (FP.dadd cK (FP.l2d 1)) := by unfold Mag64; decide +kernel
  have b5 : Big64 1024 (FP.dadd cK (FP.l2d 1)) := by unfold Big64; decide +kernel
  have p5 : PF (FP.dadd cK (FP.l2d 1)) := PF.of (mfin m5 (by decide)) (by decide +kernel)
  have m6 : Mag64 1023 (FP.ddiv cK (FP.dadd cK (FP.l2d 1))) := by unfold Mag64; decide +kernel
  have p6 : PF (FP.ddiv cK (FP.dadd cK (FP.l2d 1))) := PF.of (mfin m6 (by decide)) (by decide +kernel)
  have m7 := Free.Fl.dmul_mag m6 m3 (by decide) (by decide)
  have p7 := p6.mul p3 (mfin m7 (by decide))
  have m8 := RoadKit.ddiv_mag (Free.Fl.l2d_mag t) b5 (by decide) (by decide)
  have p8 := (PF.l2d (by omega : 0 ≤ t.toInt)).div p5 (mfin m8 (by decide))
  have m9 : Mag64 1095 (den cK cB (FP.l2d t) (FP.l2d n) (FP.l2d a)) := Free.Fl.dadd_mag m7 (m8.mono (by decide)) (by decide)
  have p9 : PF (den cK cB (FP.l2d t) (FP.l2d n) (FP.l2d a)) := p7.add p8 (mfin m9 (by decide))
  have g9 : _ ≤ (den cK cB (FP.l2d t) (FP.l2d n) (FP.l2d a)).toNat := add_ge p7 p8 p9
  have et : t = Int64.ofNat ((t.toInt.toNat - 1) + 1) := by
    apply Int64.toInt_inj.mp
    rw [Int64.toInt_ofNat_of_lt (by omega)]
    omega
  have gt := tf_big ⟨t.toInt.toNat - 1, by omega⟩
  simp only [← et] at gt
  have b9 : Big64 1000 (den cK cB (FP.l2d t) (FP.l2d n) (FP.l2d a)) := by
    have l9 := p9.lt
    unfold Mag64 at m9
    unfold Big64
    omega
  have m10 := RoadKit.ddiv_mag m4 b9 (by decide) (by decide)
  exact ⟨mnn m0 (by decide), mnn m1 (by decide), mnn m2 (by decide), mnn m3 (by decide), mnn m4 (by decide), mnn m5 (by decide), mnn m6 (by decide), mnn m7 (by decide), mnn m8 (by decide), mnn m9 (by decide), mnn m10 (by decide)⟩
end Ok
theorem m1023 (x : Int32) : 1 ≤ (((1 : Int32) + (x &&& (1023 : Int32))).toInt64).toInt ∧ (((1 : Int32) + (x &&& (1023 : Int32))).toInt64).toInt ≤ 1024 := by
  have h := c_and x (1023 : Int32) (by decide); have e : (1023 : Int32).toInt = 1023 := by decide
  have e1 : (1 : Int32).toInt = 1 := by decide
  have q := c_iadd (1 : Int32) (x &&& (1023 : Int32)); have r := rng32 ((1 : Int32) + (x &&& (1023 : Int32))); rw [e] at h; rw [e1] at q; rw [c_i2l]; omega
theorem m4095 (x : Int32) : 1 ≤ (((1 : Int32) + (x &&& (4095 : Int32))).toInt64).toInt := by
  have h := c_and x (4095 : Int32) (by decide); have e : (4095 : Int32).toInt = 4095 := by decide
  have e1 : (1 : Int32).toInt = 1 := by decide
  have q := c_iadd (1 : Int32) (x &&& (4095 : Int32)); have r := rng32 ((1 : Int32) + (x &&& (4095 : Int32))); rw [e] at h; rw [e1] at q; rw [c_i2l]; omega
theorem n4095 (x : Int32) : 0 ≤ ((x &&& (4095 : Int32)).toInt64).toInt := by rw [c_i2l]; exact (c_and x (4095 : Int32) (by decide)).1
abbrev HW (a0 : Array Value) (Z : State) : Prop := ∀ d ∈ tables_1, d.before a0 Z = true
theorem ow0 {a0 : Array Value} {Z : State} (hw : HW a0 Z) : (Jvm.Cond.methodLink "com/example/antecedent/antecedent/Bm25WithDefaultsPinLaw" (7 : Nat) ({ cls := "com/example/antecedent/antecedent/Bm25", name := "withDefaults", desc := "()Lcom/example/antecedent/antecedent/Bm25;" } : Jvm.MethodName)).before a0 Z = true := hw _ (List.mem_of_getElem? (i := 0) rfl)
theorem ow1 {a0 : Array Value} {Z : State} (hw : HW a0 Z) : (Jvm.Cond.static ({ cls := "com/example/antecedent/antecedent/Bm25", name := "withDefaults", desc := "()Lcom/example/antecedent/antecedent/Bm25;" } : Jvm.MethodName)).before a0 Z = true := hw _ (List.mem_of_getElem? (i := 1) rfl)
theorem ow2 {a0 : Array Value} {Z : State} (hw : HW a0 Z) : (Jvm.Cond.initialized "com/example/antecedent/antecedent/Bm25").before a0 Z = true := hw _ (List.mem_of_getElem? (i := 2) rfl)
theorem ow3 {a0 : Array Value} {Z : State} (hw : HW a0 Z) : (Jvm.Cond.code ({ cls := "com/example/antecedent/antecedent/Bm25", name := "withDefaults", desc := "()Lcom/example/antecedent/antecedent/Bm25;" } : Jvm.MethodName) prog_2_method_2_code (0 : Nat) (Option.some (Jvm.ClassFile.FieldType.object "com/example/antecedent/antecedent/Bm25"))).before a0 Z = true := hw _ (List.mem_of_getElem? (i := 3) rfl)
theorem ow4 {a0 : Array Value} {Z : State} (hw : HW a0 Z) : (Jvm.Cond.classLink "com/example/antecedent/antecedent/Bm25" (22 : Nat) "com/example/antecedent/antecedent/Bm25").before a0 Z = true := hw _ (List.mem_of_getElem? (i := 4) rfl)
theorem ow5 {a0 : Array Value} {Z : State} (hw : HW a0 Z) : (Jvm.Cond.instantiable "com/example/antecedent/antecedent/Bm25" (2 : Nat)).before a0 Z = true := hw _ (List.mem_of_getElem? (i := 5) rfl)
theorem ow6 {a0 : Array Value} {Z : State} (hw : HW a0 Z) : (Jvm.Cond.constantDouble "com/example/antecedent/antecedent/Bm25" (30 : Nat) (4608083138725491507 : UInt64)).before a0 Z = true := hw _ (List.mem_of_getElem? (i := 6) rfl)
theorem ow7 {a0 : Array Value} {Z : State} (hw : HW a0 Z) : (Jvm.Cond.constantDouble "com/example/antecedent/antecedent/Bm25" (32 : Nat) (4604930618986332160 : UInt64)).before a0 Z = true := hw _ (List.mem_of_getElem? (i := 7) rfl)
theorem ow8 {a0 : Array Value} {Z : State} (hw : HW a0 Z) : (Jvm.Cond.methodLink "com/example/antecedent/antecedent/Bm25" (34 : Nat) ({ cls := "com/example/antecedent/antecedent/Bm25", name := "<init>", desc := "(DD)V" } : Jvm.MethodName)).before a0 Z = true := hw _ (List.mem_of_getElem? (i := 8) rfl)
theorem ow9 {a0 : Array Value} {Z : State} (hw : HW a0 Z) : (Jvm.Cond.instanceMethod ({ cls := "com/example/antecedent/antecedent/Bm25", name := "<init>", desc := "(DD)V" } : Jvm.MethodName)).before a0 Z = true := hw _ (List.mem_of_getElem? (i := 9) rfl)
theorem ow10 {a0 : Array Value} {Z : State} (hw : HW a0 Z) : (Jvm.Cond.code ({ cls := "com/example/antecedent/antecedent/Bm25", name := "<init>", desc := "(DD)V" } : Jvm.MethodName) prog_2_method_1_code (5 : Nat) (Option.none : Option Jvm.ClassFile.FieldType)).before a0 Z = true := hw _ (List.mem_of_getElem? (i := 10) rfl)
theorem ow11 {a0 : Array Value} {Z : State} (hw : HW a0 Z) : (Jvm.Cond.methodLink "com/example/antecedent/antecedent/Bm25" (1 : Nat) ({ cls := "java/lang/Object", name := "<init>", desc := "()V" } : Jvm.MethodName)).before a0 Z = true := hw _ (List.mem_of_getElem? (i := 11) rfl)
theorem ow12 {a0 : Array Value} {Z : State} (hw : HW a0 Z) : (Jvm.Cond.instanceMethod ({ cls := "java/lang/Object", name := "<init>", desc := "()V" } : Jvm.MethodName)).before a0 Z = true := hw _ (List.mem_of_getElem? (i := 12) rfl)
theorem ow13 {a0 : Array Value} {Z : State} (hw : HW a0 Z) : (Jvm.Cond.code ({ cls := "java/lang/Object", name := "<init>", desc := "()V" } : Jvm.MethodName) object_method_1_code (1 : Nat) (Option.none : Option Jvm.ClassFile.FieldType)).before a0 Z = true := hw _ (List.mem_of_getElem? (i := 13) rfl)
theorem ow14 {a0 : Array Value} {Z : State} (hw : HW a0 Z) : (Jvm.Cond.constantDouble "com/example/antecedent/antecedent/Bm25" (9 : Nat) (9218868437227405312 : UInt64)).before a0 Z = true := hw _ (List.mem_of_getElem? (i := 14) rfl)
theorem ow15 {a0 : Array Value} {Z : State} (hw : HW a0 Z) : (Jvm.Cond.fieldLink "com/example/antecedent/antecedent/Bm25" (21 : Nat) "com/example/antecedent/antecedent/Bm25" "k1" "D").before a0 Z = true := hw _ (List.mem_of_getElem? (i := 15) rfl)
theorem ow16 {a0 : Array Value} {Z : State} (hw : HW a0 Z) : (Jvm.Cond.laysFinal "com/example/antecedent/antecedent/Bm25" "com/example/antecedent/antecedent/Bm25" "k1" "D").before a0 Z = true := hw _ (List.mem_of_getElem? (i := 16) rfl)
theorem ow17 {a0 : Array Value} {Z : State} (hw : HW a0 Z) : (Jvm.Cond.fieldLink "com/example/antecedent/antecedent/Bm25" (27 : Nat) "com/example/antecedent/antecedent/Bm25" "b" "D").before a0 Z = true := hw _ (List.mem_of_getElem? (i := 17) rfl)
theorem ow18 {a0 : Array Value} {Z : State} (hw : HW a0 Z) : (Jvm.Cond.laysFinal "com/example/antecedent/antecedent/Bm25" "com/example/antecedent/antecedent/Bm25" "b" "D").before a0 Z = true := hw _ (List.mem_of_getElem? (i := 18) rfl)
theorem ow19 {a0 : Array Value} {Z : State} (hw : HW a0 Z) : (Jvm.Cond.classLink "com/example/antecedent/antecedent/Bm25WithDefaultsPinLaw" (8 : Nat) "com/example/antecedent/antecedent/Bm25").before a0 Z = true := hw _ (List.mem_of_getElem? (i := 19) rfl)
theorem ow20 {a0 : Array Value} {Z : State} (hw : HW a0 Z) : (Jvm.Cond.constantDouble "com/example/antecedent/antecedent/Bm25WithDefaultsPinLaw" (13 : Nat) (4608083138725491507 : UInt64)).before a0 Z = true := hw _ (List.mem_of_getElem? (i := 20) rfl)
theorem ow21 {a0 : Array Value} {Z : State} (hw : HW a0 Z) : (Jvm.Cond.constantDouble "com/example/antecedent/antecedent/Bm25WithDefaultsPinLaw" (15 : Nat) (4604930618986332160 : UInt64)).before a0 Z = true := hw _ (List.mem_of_getElem? (i := 21) rfl)
theorem ow22 {a0 : Array Value} {Z : State} (hw : HW a0 Z) : (Jvm.Cond.methodLink "com/example/antecedent/antecedent/Bm25WithDefaultsPinLaw" (17 : Nat) ({ cls := "com/example/antecedent/antecedent/Bm25", name := "<init>", desc := "(DD)V" } : Jvm.MethodName)).before a0 Z = true := hw _ (List.mem_of_getElem? (i := 22) rfl)
theorem ow23 {a0 : Array Value} {Z : State} (hw : HW a0 Z) : (Jvm.Cond.methodLink "com/example/antecedent/antecedent/Bm25WithDefaultsPinLaw" (20 : Nat) ({ cls := "com/example/antecedent/antecedent/Bm25", name := "score", desc := "(DDDD)D" } : Jvm.MethodName)).before a0 Z = true := hw _ (List.mem_of_getElem? (i := 23) rfl)
theorem ow24 {a0 : Array Value} {Z : State} (hw : HW a0 Z) : (Jvm.Cond.declares ({ cls := "com/example/antecedent/antecedent/Bm25", name := "score", desc := "(DDDD)D" } : Jvm.MethodName)).before a0 Z = true := hw _ (List.mem_of_getElem? (i := 24) rfl)
theorem ow25 {a0 : Array Value} {Z : State} (hw : HW a0 Z) : (Jvm.Cond.instanceMethod ({ cls := "com/example/antecedent/antecedent/Bm25", name := "score", desc := "(DDDD)D" } : Jvm.MethodName)).before a0 Z = true := hw _ (List.mem_of_getElem? (i := 25) rfl)
theorem ow26 {a0 : Array Value} {Z : State} (hw : HW a0 Z) : (Jvm.Cond.selects "com/example/antecedent/antecedent/Bm25" ({ cls := "com/example/antecedent/antecedent/Bm25", name := "score", desc := "(DDDD)D" } : Jvm.MethodName) ({ cls := "com/example/antecedent/antecedent/Bm25", name := "score", desc := "(DDDD)D" } : Jvm.MethodName)).before a0 Z = true := hw _ (List.mem_of_getElem? (i := 26) rfl)
theorem ow27 {a0 : Array Value} {Z : State} (hw : HW a0 Z) : (Jvm.Cond.code ({ cls := "com/example/antecedent/antecedent/Bm25", name := "score", desc := "(DDDD)D" } : Jvm.MethodName) prog_2_method_4_code (11 : Nat) (Option.some Jvm.ClassFile.FieldType.double)).before a0 Z = true := hw _ (List.mem_of_getElem? (i := 27) rfl)
theorem od_prog_2_m_1_0 : decode prog_2_method_1_code 0 = .ok (.aload_n 0, 1) := by decide +kernel
theorem od_prog_2_m_1_1 : decode prog_2_method_1_code 1 = .ok (.invokespecial 1, 3) := by decide +kernel
theorem od_prog_2_m_1_4 : decode prog_2_method_1_code 4 = .ok (.dload_n 1, 1) := by decide +kernel
theorem od_prog_2_m_1_5 : decode prog_2_method_1_code 5 = .ok (.dconst 0, 1) := by decide +kernel
theorem od_prog_2_m_1_6 : decode prog_2_method_1_code 6 = .ok (.dcmp .l, 1) := by decide +kernel
theorem od_prog_2_m_1_7 : decode prog_2_method_1_code 7 = .ok (.ifCond .lt 11, 3) := by decide +kernel
theorem od_prog_2_m_1_10 : decode prog_2_method_1_code 10 = .ok (.dload_n 1, 1) := by decide +kernel
theorem od_prog_2_m_1_11 : decode prog_2_method_1_code 11 = .ok (.ldc2_w 9, 3) := by decide +kernel
theorem od_prog_2_m_1_14 : decode prog_2_method_1_code 14 = .ok (.dcmp .g, 1) := by decide +kernel
theorem od_prog_2_m_1_15 : decode prog_2_method_1_code 15 = .ok (.ifCond .lt 17, 3) := by decide +kernel
theorem od_prog_2_m_1_32 : decode prog_2_method_1_code 32 = .ok (.dload_n 3, 1) := by decide +kernel
theorem od_prog_2_m_1_33 : decode prog_2_method_1_code 33 = .ok (.dconst 0, 1) := by decide +kernel
theorem od_prog_2_m_1_34 : decode prog_2_method_1_code 34 = .ok (.dcmp .l, 1) := by decide +kernel
theorem od_prog_2_m_1_35 : decode prog_2_method_1_code 35 = .ok (.ifCond .lt 9, 3) := by decide +kernel
theorem od_prog_2_m_1_38 : decode prog_2_method_1_code 38 = .ok (.dload_n 3, 1) := by decide +kernel
theorem od_prog_2_m_1_39 : decode prog_2_method_1_code 39 = .ok (.dconst 1, 1) := by decide +kernel
theorem od_prog_2_m_1_40 : decode prog_2_method_1_code 40 = .ok (.dcmp .g, 1) := by decide +kernel
theorem od_prog_2_m_1_41 : decode prog_2_method_1_code 41 = .ok (.ifCond .le 17, 3) := by decide +kernel
theorem od_prog_2_m_1_58 : decode prog_2_method_1_code 58 = .ok (.aload_n 0, 1) := by decide +kernel
theorem od_prog_2_m_1_59 : decode prog_2_method_1_code 59 = .ok (.dload_n 1, 1) := by decide +kernel
theorem od_prog_2_m_1_60 : decode prog_2_method_1_code 60 = .ok (.putfield 21, 3) := by decide +kernel
theorem od_prog_2_m_1_63 : decode prog_2_method_1_code 63 = .ok (.aload_n 0, 1) := by decide +kernel
theorem od_prog_2_m_1_64 : decode prog_2_method_1_code 64 = .ok (.dload_n 3, 1) := by decide +kernel
theorem od_prog_2_m_1_65 : decode prog_2_method_1_code 65 = .ok (.putfield 27, 3) := by decide +kernel
theorem od_prog_2_m_1_68 : decode prog_2_method_1_code 68 = .ok (.return_, 1) := by decide +kernel
theorem od_prog_2_m_2_0 : decode prog_2_method_2_code 0 = .ok (.new 22, 3) := by decide +kernel
theorem od_prog_2_m_2_3 : decode prog_2_method_2_code 3 = .ok (.dup, 1) := by decide +kernel
theorem od_prog_2_m_2_4 : decode prog_2_method_2_code 4 = .ok (.ldc2_w 30, 3) := by decide +kernel
theorem od_prog_2_m_2_7 : decode prog_2_method_2_code 7 = .ok (.ldc2_w 32, 3) := by decide +kernel
theorem od_prog_2_m_2_10 : decode prog_2_method_2_code 10 = .ok (.invokespecial 34, 3) := by decide +kernel
theorem od_prog_2_m_2_13 : decode prog_2_method_2_code 13 = .ok (.areturn, 1) := by decide +kernel
theorem od_prog_2_m_4_0 : decode prog_2_method_4_code 0 = .ok (.dconst 1, 1) := by decide +kernel
theorem od_prog_2_m_4_1 : decode prog_2_method_4_code 1 = .ok (.aload_n 0, 1) := by decide +kernel
theorem od_prog_2_m_4_2 : decode prog_2_method_4_code 2 = .ok (.getfield 27, 3) := by decide +kernel
theorem od_prog_2_m_4_5 : decode prog_2_method_4_code 5 = .ok (.dsub, 1) := by decide +kernel
theorem od_prog_2_m_4_6 : decode prog_2_method_4_code 6 = .ok (.aload_n 0, 1) := by decide +kernel
theorem od_prog_2_m_4_7 : decode prog_2_method_4_code 7 = .ok (.getfield 27, 3) := by decide +kernel
theorem od_prog_2_m_4_10 : decode prog_2_method_4_code 10 = .ok (.dload_n 3, 1) := by decide +kernel
theorem od_prog_2_m_4_11 : decode prog_2_method_4_code 11 = .ok (.dmul, 1) := by decide +kernel
theorem od_prog_2_m_4_12 : decode prog_2_method_4_code 12 = .ok (.dload 5, 2) := by decide +kernel
theorem od_prog_2_m_4_14 : decode prog_2_method_4_code 14 = .ok (.ddiv, 1) := by decide +kernel
theorem od_prog_2_m_4_15 : decode prog_2_method_4_code 15 = .ok (.dadd, 1) := by decide +kernel
theorem od_prog_2_m_4_16 : decode prog_2_method_4_code 16 = .ok (.dstore 9, 2) := by decide +kernel
theorem od_prog_2_m_4_18 : decode prog_2_method_4_code 18 = .ok (.dload 7, 2) := by decide +kernel
theorem od_prog_2_m_4_20 : decode prog_2_method_4_code 20 = .ok (.dload_n 1, 1) := by decide +kernel
theorem od_prog_2_m_4_21 : decode prog_2_method_4_code 21 = .ok (.dmul, 1) := by decide +kernel
theorem od_prog_2_m_4_22 : decode prog_2_method_4_code 22 = .ok (.aload_n 0, 1) := by decide +kernel
theorem od_prog_2_m_4_23 : decode prog_2_method_4_code 23 = .ok (.getfield 21, 3) := by decide +kernel
theorem od_prog_2_m_4_26 : decode prog_2_method_4_code 26 = .ok (.aload_n 0, 1) := by decide +kernel
theorem od_prog_2_m_4_27 : decode prog_2_method_4_code 27 = .ok (.getfield 21, 3) := by decide +kernel
theorem od_prog_2_m_4_30 : decode prog_2_method_4_code 30 = .ok (.dconst 1, 1) := by decide +kernel
theorem od_prog_2_m_4_31 : decode prog_2_method_4_code 31 = .ok (.dadd, 1) := by decide +kernel
theorem od_prog_2_m_4_32 : decode prog_2_method_4_code 32 = .ok (.ddiv, 1) := by decide +kernel
theorem od_prog_2_m_4_33 : decode prog_2_method_4_code 33 = .ok (.dload 9, 2) := by decide +kernel
theorem od_prog_2_m_4_35 : decode prog_2_method_4_code 35 = .ok (.dmul, 1) := by decide +kernel
theorem od_prog_2_m_4_36 : decode prog_2_method_4_code 36 = .ok (.dload_n 1, 1) := by decide +kernel
theorem od_prog_2_m_4_37 : decode prog_2_method_4_code 37 = .ok (.aload_n 0, 1) := by decide +kernel
theorem od_prog_2_m_4_38 : decode prog_2_method_4_code 38 = .ok (.getfield 21, 3) := by decide +kernel
theorem od_prog_2_m_4_41 : decode prog_2_method_4_code 41 = .ok (.dconst 1, 1) := by decide +kernel
theorem od_prog_2_m_4_42 : decode prog_2_method_4_code 42 = .ok (.dadd, 1) := by decide +kernel
theorem od_prog_2_m_4_43 : decode prog_2_method_4_code 43 = .ok (.ddiv, 1) := by decide +kernel
theorem od_prog_2_m_4_44 : decode prog_2_method_4_code 44 = .ok (.dadd, 1) := by decide +kernel
theorem od_prog_2_m_4_45 : decode prog_2_method_4_code 45 = .ok (.ddiv, 1) := by decide +kernel
theorem od_prog_2_m_4_46 : decode prog_2_method_4_code 46 = .ok (.dreturn, 1) := by decide +kernel
theorem opd_0 : parseMethodDescriptor "(DD)V" = some ⟨[.double, .double], none⟩ := by decide +kernel
theorem opd_1 : parseMethodDescriptor "()Lcom/example/antecedent/antecedent/Bm25;" = some ⟨[], some (.object "com/example/antecedent/antecedent/Bm25")⟩ := by decide +kernel
theorem opd_2 : parseMethodDescriptor "(DDDD)D" = some ⟨[.double, .double, .double, .double], some .double⟩ := by decide +kernel
theorem opn_0 : plainName "com/example/antecedent/antecedent/Bm25" = true := by first | (simp [plainName, overriddenIn]; done) | decide +kernel
theorem opn_1 : plainName "com/example/antecedent/antecedent/Bm25WithDefaultsPinLaw" = true := by first | (simp [plainName, overriddenIn]; done) | decide +kernel
theorem oef_bmi (m : MethodId) (x0 : Addr) (x1 : UInt64) (x2 : UInt64) : entryFrame m #[(.ref x0), (.double x1), (.double x2)] 5 = mkF m 0 #[.val (.ref x0), .val (.double x1), .second, .val (.double x2), .second] [] := by first | (simp [entryFrame, mkF, argsToLocals, Value.category, maxLocals]; done) | rfl
theorem oef_score (m : MethodId) (x0 : Addr) (x1 : UInt64) (x2 : UInt64) (x3 : UInt64) (x4 : UInt64) : entryFrame m #[(.ref x0), (.double x1), (.double x2), (.double x3), (.double x4)] 11 = mkF m 0 #[.val (.ref x0), .val (.double x1), .second, .val (.double x2), .second, .val (.double x3), .second, .val (.double x4), .second, .unset, .unset] [] := by first | (simp [entryFrame, mkF, argsToLocals, Value.category, maxLocals]; done) | rfl
theorem oef_wd (m : MethodId)  : entryFrame m #[] 0 = mkF m 0 #[] [] := by first | (simp [entryFrame, mkF, argsToLocals, Value.category, maxLocals]; done) | rfl
theorem oef_law (m : MethodId) (x0 : Int32) (x1 : Int32) (x2 : Int32) (x3 : Int32) : entryFrame m #[(.int x0), (.int x1), (.int x2), (.int x3)] maxLocals = mkF m 0 #[.val (.int x0), .val (.int x1), .val (.int x2), .val (.int x3), .unset, .unset, .unset, .unset, .unset, .unset, .unset, .unset, .unset, .unset, .unset, .unset, .unset, .unset] [] := by first | (simp [entryFrame, mkF, argsToLocals, Value.category, maxLocals]; done) | rfl
def Q_bmi (Z : State) (a1 : Addr) (k1 : UInt64) (bb : UInt64) (h0 : Heap) (n0 : Nat) (v : Option Value) (h : Heap) (L : List Loc) : Prop := v = none ∧ Fr n0 L ∧ Keep h0 h [a1] ∧ (Exa Z h a1 "com/example/antecedent/antecedent/Bm25") ∧ (Fld Z h a1 "com/example/antecedent/antecedent/Bm25" "k1" "D" (.double k1)) ∧ (Fld Z h a1 "com/example/antecedent/antecedent/Bm25" "b" "D" (.double bb))
set_option maxRecDepth 65536 in
set_option maxHeartbeats 40000000 in
theorem rm_bmi (l : Launch) (Z : State) (a0 : Array Value) (hw : HW a0 Z) (ws : List Jvm.Cond) (a1 : Addr) (k1 : UInt64) (bb : UInt64) (h0 : Heap) (n0 : Nat) (Z0 : n0 ≤ h0.size) (E1 : Exa Z h0 a1 "com/example/antecedent/antecedent/Bm25") (g_a1 : n0 ≤ a1) (F1 : Fld Z h0 a1 "com/example/antecedent/antecedent/Bm25" "k1" "D" (.double 0)) (F2 : Fld Z h0 a1 "com/example/antecedent/antecedent/Bm25" "b" "D" (.double 0)) (H1 : ¬ cmpValue (FP.dcmp k1 (FP.l2d 0)) .l < 0) (H2 : cmpValue (FP.dcmp k1 (9218868437227405312 : UInt64)) .g < 0) (H3 : ¬ cmpValue (FP.dcmp bb (FP.l2d 0)) .l < 0) (H4 : ¬ 0 < cmpValue (FP.dcmp bb (FP.l2d 1)) .g) :
    MetFree l (⟨"com/example/antecedent/antecedent/Bm25", "<init>", "(DD)V"⟩ : MethodName) (head1 (Jvm.Cond.code (⟨"com/example/antecedent/antecedent/Bm25", "<init>", "(DD)V"⟩ : MethodName) prog_2_method_1_code 5 (Option.none : Option Jvm.ClassFile.FieldType) :: ws) ({ frames := 1, cells := 0, slots := 0, locals := 12 } : Room)) (fun a U => a = #[(.ref a1), (.double k1), (.double bb)] ∧ Z.Warmed39 U.vm ∧ U.heap = h0) (fun _ _ _ _ _ => True) (fun _ U o U' => Out U (Q_bmi Z a1 k1 bb h0 n0) ({ frames := 1, cells := 0, slots := 0, locals := 12 } : Room).cells ({ frames := 1, cells := 0, slots := 0, locals := 12 } : Room).slots o U') := by
  refine MetFree.of_bodySF (plainFor_of_name opn_0) hisR ?_
  intro p e s m args below meth c s₁ Bd hml0 hP hK
  obtain ⟨rfl, hZ, hh⟩ := hP
  have hx := Bd.exec
  have hby := Bd.bytes
  have hml : c.maxLocals = 5 := hml0
  have hret := Bd.returns
  have hlk : meth.locks = false := BodyLoose.notSynchronized Bd
  have hown : s.vm.findClass "com/example/antecedent/antecedent/Bm25" = some m.cls := findClass_of_methodNamed Bd.named
  have hnm := (name_of_methodNamed Bd.named Bd.method).1
  have X0 : Stand p l e ({ frames := 1, cells := 0, slots := 0, locals := 12 } : Room) s m #[(.ref a1), (.double k1), (.double bb)] below meth c s₁ [] 0 0 := Stand.of_body Bd
  have e0 : s₁.heap = h0 := by rw [← hh, Bd.state]; rfl
  have N0 := Fr.nil n0
  have K0 : Keep h0 h0 [a1] := Keep.refl h0 _
  show Go p e below (Out s (Q_bmi Z a1 k1 bb h0 n0) ({ frames := 1, cells := 0, slots := 0, locals := 12 } : Room).cells ({ frames := 1, cells := 0, slots := 0, locals := 12 } : Room).slots) s₁ (entryFrame m #[(.ref a1), (.double k1), (.double bb)] 5)
  refine Go.cast (oef_bmi m a1 k1 bb) ?_
  show Go p e below _ s₁ (mkF m 0 #[.val (.ref a1), .val (.double k1), .second, .val (.double bb), .second] [])
  refine Go.by (fun t k => XS.aloadN X0.here hx rfl (hb hby od_prog_2_m_1_0) rfl rfl k) ?_
  show Go p e below _ s₁ (mkF m 1 #[.val (.ref a1), .val (.double k1), .second, .val (.double bb), .second] [(.ref a1)])
  obtain ⟨T101, X101, e101, st101⟩ := initO X0 hx hZ hown (ow11 hw) (ow12 hw) (ow13 hw) e0 (g := (mkF m 1 #[.val (.ref a1), .val (.double k1), .second, .val (.double bb), .second] [(.ref a1)])) rfl (by rw [hml]; rfl) rfl (hb hby od_prog_2_m_1_1) (by decide) (W := 0) (by show 2 * 0 + _ ≤ _; exact Nat.le_of_eq rfl) (by decide)
  refine Go.by st101 ?_
  show Go p e below _ T101 (mkF m 4 #[.val (.ref a1), .val (.double k1), .second, .val (.double bb), .second] [])
  refine Go.by (fun t k => XS.dloadN X101.here hx rfl (hb hby od_prog_2_m_1_4) rfl (XS.dconst0 X101.here hx rfl (hb hby od_prog_2_m_1_5) (v := (FP.l2d 0)) (by decide +kernel) k)) ?_
  show Go p e below _ T101 (mkF m 6 #[.val (.ref a1), .val (.double k1), .second, .val (.double bb), .second] [(.double (FP.l2d 0)), (.double k1)])
  have q102 : cmpValue (FP.dcmp k1 (FP.l2d 0)) .l = (cmpValue (FP.dcmp k1 (FP.l2d 0)) .l) := rfl
  refine Go.by (fun t k => XS.dcmpS X101.here hx rfl (hb hby od_prog_2_m_1_6) rfl q102 k) ?_
  show Go p e below _ T101 (mkF m 7 #[.val (.ref a1), .val (.double k1), .second, .val (.double bb), .second] [(.int (cmpValue (FP.dcmp k1 (FP.l2d 0)) .l))])
  refine Go.by (fun t k => XS.ifNo X101.here hx rfl (hb hby od_prog_2_m_1_7) rfl ((if0 _ _).trans (flt (show ¬ ((cmpValue (FP.dcmp k1 (FP.l2d 0)) .l) < (0 : Int32)) from H1)).1) k) ?_
  show Go p e below _ T101 (mkF m 10 #[.val (.ref a1), .val (.double k1), .second, .val (.double bb), .second] [])
  refine Go.by (fun t k => XS.dloadN X101.here hx rfl (hb hby od_prog_2_m_1_10) rfl k) ?_
  show Go p e below _ T101 (mkF m 11 #[.val (.ref a1), .val (.double k1), .second, .val (.double bb), .second] [(.double k1)])
  refine Go.by (X101.ldc2DoubleC hx hown (mvT hZ (ow14 hw)) (g := (mkF m 11 #[.val (.ref a1), .val (.double k1), .second, .val (.double bb), .second] [(.double k1)])) rfl (hb hby od_prog_2_m_1_11)) ?_
  show Go p e below _ T101 (mkF m 14 #[.val (.ref a1), .val (.double k1), .second, .val (.double bb), .second] [(.double (9218868437227405312 : UInt64)), (.double k1)])
  have q103 : cmpValue (FP.dcmp k1 (9218868437227405312 : UInt64)) .g = (cmpValue (FP.dcmp k1 (9218868437227405312 : UInt64)) .g) := rfl
  refine Go.by (fun t k => XS.dcmpS X101.here hx rfl (hb hby od_prog_2_m_1_14) rfl q103 k) ?_
  show Go p e below _ T101 (mkF m 15 #[.val (.ref a1), .val (.double k1), .second, .val (.double bb), .second] [(.int (cmpValue (FP.dcmp k1 (9218868437227405312 : UInt64)) .g))])
  refine Go.by (fun t k => XS.ifYes X101.here hx rfl (pc0 := 15) (pc' := 32) rfl (hb hby od_prog_2_m_1_15) rfl ((if0 _ _).trans (tlt (show (cmpValue (FP.dcmp k1 (9218868437227405312 : UInt64)) .g) < (0 : Int32) from H2)).1) (by decide) (by decide) k) ?_
  show Go p e below _ T101 (mkF m 32 #[.val (.ref a1), .val (.double k1), .second, .val (.double bb), .second] [])
  refine Go.by (fun t k => XS.dloadN X101.here hx rfl (hb hby od_prog_2_m_1_32) rfl (XS.dconst0 X101.here hx rfl (hb hby od_prog_2_m_1_33) (v := (FP.l2d 0)) (by decide +kernel) k)) ?_
  show Go p e below _ T101 (mkF m 34 #[.val (.ref a1), .val (.double k1), .second, .val (.double bb), .second] [(.double (FP.l2d 0)), (.double bb)])
  have q104 : cmpValue (FP.dcmp bb (FP.l2d 0)) .l = (cmpValue (FP.dcmp bb (FP.l2d 0)) .l) := rfl
  refine Go.by (fun t k => XS.dcmpS X101.here hx rfl (hb hby od_prog_2_m_1_34) rfl q104 k) ?_
  show Go p e below _ T101 (mkF m 35 #[.val (.ref a1), .val (.double k1), .second, .val (.double bb), .second] [(.int (cmpValue (FP.dcmp bb (FP.l2d 0)) .l))])
  refine Go.by (fun t k => XS.ifNo X101.here hx rfl (hb hby od_prog_2_m_1_35) rfl ((if0 _ _).trans (flt (show ¬ ((cmpValue (FP.dcmp bb (FP.l2d 0)) .l) < (0 : Int32)) from H3)).1) k) ?_
  show Go p e below _ T101 (mkF m 38 #[.val (.ref a1), .val (.double k1), .second, .val (.double bb), .second] [])
  refine Go.by (fun t k => XS.dloadN X101.here hx rfl (hb hby od_prog_2_m_1_38) rfl (XS.dconst1 X101.here hx rfl (hb hby od_prog_2_m_1_39) (v := (FP.l2d 1)) (by decide +kernel) k)) ?_
  show Go p e below _ T101 (mkF m 40 #[.val (.ref a1), .val (.double k1), .second, .val (.double bb), .second] [(.double (FP.l2d 1)), (.double bb)])
  have q105 : cmpValue (FP.dcmp bb (FP.l2d 1)) .g = (cmpValue (FP.dcmp bb (FP.l2d 1)) .g) := rfl
  refine Go.by (fun t k => XS.dcmpS X101.here hx rfl (hb hby od_prog_2_m_1_40) rfl q105 k) ?_
  show Go p e below _ T101 (mkF m 41 #[.val (.ref a1), .val (.double k1), .second, .val (.double bb), .second] [(.int (cmpValue (FP.dcmp bb (FP.l2d 1)) .g))])
  refine Go.by (fun t k => XS.ifYes X101.here hx rfl (pc0 := 41) (pc' := 58) rfl (hb hby od_prog_2_m_1_41) rfl ((if0 _ _).trans (flt (show ¬ ((0 : Int32) < (cmpValue (FP.dcmp bb (FP.l2d 1)) .g)) from H4)).2.2.2) (by decide) (by decide) k) ?_
  show Go p e below _ T101 (mkF m 58 #[.val (.ref a1), .val (.double k1), .second, .val (.double bb), .second] [])
  refine Go.by (fun t k => XS.aloadN X101.here hx rfl (hb hby od_prog_2_m_1_58) rfl rfl (XS.dloadN X101.here hx rfl (hb hby od_prog_2_m_1_59) rfl k)) ?_
  show Go p e below _ T101 (mkF m 60 #[.val (.ref a1), .val (.double k1), .second, .val (.double bb), .second] [(.double k1), (.ref a1)])
  obtain ⟨T106, h106, X106, e106, W106, st106⟩ := putF X101 hx hZ hown (host := "") (Or.inl (ow15 hw)) Via.refl e101 F1 E1 (Or.inr ⟨(ow16 hw), rfl, hnm⟩) (ow5 hw) (ty := .double) (by decide) rfl rfl (g := (mkF m 60 #[.val (.ref a1), .val (.double k1), .second, .val (.double bb), .second] [(.double k1), (.ref a1)])) rfl rfl (hb hby od_prog_2_m_1_60)
  refine Go.by st106 ?_
  have N106 := Fr.snoc X106 N0 g_a1
  have K107 : Keep h0 h106 [a1] := K0.wr W106 (Or.inl (List.mem_of_getElem? (i := 0) rfl))
  show Go p e below _ T106 (mkF m 63 #[.val (.ref a1), .val (.double k1), .second, .val (.double bb), .second] [])
  refine Go.by (fun t k => XS.aloadN X106.here hx rfl (hb hby od_prog_2_m_1_63) rfl rfl (XS.dloadN X106.here hx rfl (hb hby od_prog_2_m_1_64) rfl k)) ?_
  show Go p e below _ T106 (mkF m 65 #[.val (.ref a1), .val (.double k1), .second, .val (.double bb), .second] [(.double bb), (.ref a1)])
  have F109 : Fld Z h106 a1 "com/example/antecedent/antecedent/Bm25" "b" "D" (.double 0) := (F2.other W106 (Or.inr (slot_ne (Or.inr (ow18 hw)) (Or.inr (ow16 hw)) (by decide) (t := .double) (t' := .double) (by decide) (by decide))))
  have F110 : Exa Z h106 a1 "com/example/antecedent/antecedent/Bm25" := (E1.wr W106)
  obtain ⟨T108, h108, X108, e108, W108, st108⟩ := putF X106 hx hZ hown (host := "") (Or.inl (ow17 hw)) Via.refl e106 F109 F110 (Or.inr ⟨(ow18 hw), rfl, hnm⟩) (ow5 hw) (ty := .double) (by decide) rfl rfl (g := (mkF m 65 #[.val (.ref a1), .val (.double k1), .second, .val (.double bb), .second] [(.double bb), (.ref a1)])) rfl rfl (hb hby od_prog_2_m_1_65)
  refine Go.by st108 ?_
  have N108 := Fr.snoc X108 N106 g_a1
  have K111 : Keep h0 h108 [a1] := K107.wr W108 (Or.inl (List.mem_of_getElem? (i := 0) rfl))
  show Go p e below _ T108 (mkF m 68 #[.val (.ref a1), .val (.double k1), .second, .val (.double bb), .second] [])
  have F112 : Exa Z h108 a1 "com/example/antecedent/antecedent/Bm25" := (F110.wr W108)
  have F113 : Fld Z h108 a1 "com/example/antecedent/antecedent/Bm25" "k1" "D" (.double k1) := ((F1.same W106).other W108 (Or.inr (slot_ne (Or.inr (ow16 hw)) (Or.inr (ow18 hw)) (by decide) (t := .double) (t' := .double) (by decide) (by decide))))
  exact Go.ret0 X108 hx hret hlk (hb hby od_prog_2_m_1_68) (by first | (rw [e108]; exact ⟨rfl, N108, K111, F112, F113, (F109.same W108)⟩) | exact ⟨rfl, N108, K111, F112, F113, (F109.same W108)⟩) (by decide) (by decide)
def Q_score (Z : State) (a1 : Addr) (k1 : UInt64) (bb : UInt64) (tf : UInt64) (ln : UInt64) (av : UInt64) (idf : UInt64) (h0 : Heap) (n0 : Nat) (v : Option Value) (h : Heap) (L : List Loc) : Prop := v = some (.double (scoreV k1 bb tf ln av idf)) ∧ Fr n0 L ∧ h = h0
set_option maxRecDepth 65536 in
set_option maxHeartbeats 40000000 in
theorem rm_score (l : Launch) (Z : State) (a0 : Array Value) (hw : HW a0 Z) (ws : List Jvm.Cond) (a1 : Addr) (k1 : UInt64) (bb : UInt64) (tf : UInt64) (ln : UInt64) (av : UInt64) (idf : UInt64) (h0 : Heap) (n0 : Nat) (Z0 : n0 ≤ h0.size) (F1 : Fld Z h0 a1 "com/example/antecedent/antecedent/Bm25" "k1" "D" (.double k1)) (F2 : Fld Z h0 a1 "com/example/antecedent/antecedent/Bm25" "b" "D" (.double bb)) (NN : okV k1 bb tf ln av idf) :
    MetFree l (⟨"com/example/antecedent/antecedent/Bm25", "score", "(DDDD)D"⟩ : MethodName) (head1 (Jvm.Cond.code (⟨"com/example/antecedent/antecedent/Bm25", "score", "(DDDD)D"⟩ : MethodName) prog_2_method_4_code 11 (Option.some Jvm.ClassFile.FieldType.double) :: ws) ({ frames := 0, cells := 0, slots := 0, locals := 0 } : Room)) (fun a U => a = #[(.ref a1), (.double tf), (.double ln), (.double av), (.double idf)] ∧ Z.Warmed39 U.vm ∧ U.heap = h0) (fun _ _ _ _ _ => True) (fun _ U o U' => Out U (Q_score Z a1 k1 bb tf ln av idf h0 n0) ({ frames := 0, cells := 0, slots := 0, locals := 0 } : Room).cells ({ frames := 0, cells := 0, slots := 0, locals := 0 } : Room).slots o U') := by
  refine MetFree.of_bodySF (plainFor_of_name opn_0) hisR ?_
  intro p e s m args below meth c s₁ Bd hml0 hP hK
  obtain ⟨rfl, hZ, hh⟩ := hP
  have hx := Bd.exec
  have hby := Bd.bytes
  have hml : c.maxLocals = 11 := hml0
  have hret := Bd.returns
  have hlk : meth.locks = false := BodyLoose.notSynchronized Bd
  have hown : s.vm.findClass "com/example/antecedent/antecedent/Bm25" = some m.cls := findClass_of_methodNamed Bd.named
  have hnm := (name_of_methodNamed Bd.named Bd.method).1
  have X0 : Stand p l e ({ frames := 0, cells := 0, slots := 0, locals := 0 } : Room) s m #[(.ref a1), (.double tf), (.double ln), (.double av), (.double idf)] below meth c s₁ [] 0 0 := Stand.of_body Bd
  have e0 : s₁.heap = h0 := by rw [← hh, Bd.state]; rfl
  have N0 := Fr.nil n0
  show Go p e below (Out s (Q_score Z a1 k1 bb tf ln av idf h0 n0) ({ frames := 0, cells := 0, slots := 0, locals := 0 } : Room).cells ({ frames := 0, cells := 0, slots := 0, locals := 0 } : Room).slots) s₁ (entryFrame m #[(.ref a1), (.double tf), (.double ln), (.double av), (.double idf)] 11)
  refine Go.cast (oef_score m a1 tf ln av idf) ?_
  show Go p e below _ s₁ (mkF m 0 #[.val (.ref a1), .val (.double tf), .second, .val (.double ln), .second, .val (.double av), .second, .val (.double idf), .second, .unset, .unset] [])
  obtain ⟨n1, n2, n3, n4, n5, n6, n7, n8, n9, n10, n11⟩ := NN
  refine Go.by (fun t k => XS.dconst1 X0.here hx rfl (hb hby od_prog_2_m_4_0) (v := (FP.l2d 1)) (by decide +kernel) (XS.aloadN X0.here hx rfl (hb hby od_prog_2_m_4_1) rfl rfl k)) ?_
  show Go p e below _ s₁ (mkF m 2 #[.val (.ref a1), .val (.double tf), .second, .val (.double ln), .second, .val (.double av), .second, .val (.double idf), .second, .unset, .unset] [(.ref a1), (.double (FP.l2d 1))])
  obtain ⟨T114, X114, e114, st114⟩ := getF X0 hx hZ hown (host := "") (Or.inl (ow17 hw)) Via.refl e0 F2 (g := (mkF m 2 #[.val (.ref a1), .val (.double tf), .second, .val (.double ln), .second, .val (.double av), .second, .val (.double idf), .second, .unset, .unset] [(.ref a1), (.double (FP.l2d 1))])) rfl rfl (hb hby od_prog_2_m_4_2)
  refine Go.by st114 ?_
  show Go p e below _ T114 (mkF m 5 #[.val (.ref a1), .val (.double tf), .second, .val (.double ln), .second, .val (.double av), .second, .val (.double idf), .second, .unset, .unset] [(.double bb), (.double (FP.l2d 1))])
  have q115 : FP.dsub (FP.l2d 1) bb = (FP.dsub (FP.l2d 1) bb) := rfl
  refine Go.by (fun t k => XS.dsubS X114.here hx rfl (hb hby od_prog_2_m_4_5) rfl n1 q115 k) ?_
  show Go p e below _ T114 (mkF m 6 #[.val (.ref a1), .val (.double tf), .second, .val (.double ln), .second, .val (.double av), .second, .val (.double idf), .second, .unset, .unset] [(.double (FP.dsub (FP.l2d 1) bb))])
  refine Go.by (fun t k => XS.aloadN X114.here hx rfl (hb hby od_prog_2_m_4_6) rfl rfl k) ?_
  show Go p e below _ T114 (mkF m 7 #[.val (.ref a1), .val (.double tf), .second, .val (.double ln), .second, .val (.double av), .second, .val (.double idf), .second, .unset, .unset] [(.ref a1), (.double (FP.dsub (FP.l2d 1) bb))])
  obtain ⟨T116, X116, e116, st116⟩ := getF X114 hx hZ hown (host := "") (Or.inl (ow17 hw)) Via.refl e114 F2 (g := (mkF m 7 #[.val (.ref a1), .val (.double tf), .second, .val (.double ln), .second, .val (.double av), .second, .val (.double idf), .second, .unset, .unset] [(.ref a1), (.double (FP.dsub (FP.l2d 1) bb))])) rfl rfl (hb hby od_prog_2_m_4_7)
  refine Go.by st116 ?_
  show Go p e below _ T116 (mkF m 10 #[.val (.ref a1), .val (.double tf), .second, .val (.double ln), .second, .val (.double av), .second, .val (.double idf), .second, .unset, .unset] [(.double bb), (.double (FP.dsub (FP.l2d 1) bb))])
  refine Go.by (fun t k => XS.dloadN X116.here hx rfl (hb hby od_prog_2_m_4_10) rfl k) ?_
  show Go p e below _ T116 (mkF m 11 #[.val (.ref a1), .val (.double tf), .second, .val (.double ln), .second, .val (.double av), .second, .val (.double idf), .second, .unset, .unset] [(.double ln), (.double bb), (.double (FP.dsub (FP.l2d 1) bb))])
  have q117 : FP.dmul bb ln = (FP.dmul bb ln) := rfl
  refine Go.by (fun t k => XS.dmulS X116.here hx rfl (hb hby od_prog_2_m_4_11) rfl n2 q117 k) ?_
  show Go p e below _ T116 (mkF m 12 #[.val (.ref a1), .val (.double tf), .second, .val (.double ln), .second, .val (.double av), .second, .val (.double idf), .second, .unset, .unset] [(.double (FP.dmul bb ln)), (.double (FP.dsub (FP.l2d 1) bb))])
  refine Go.by (fun t k => XS.dload X116.here hx rfl (hb hby od_prog_2_m_4_12) rfl k) ?_
  show Go p e below _ T116 (mkF m 14 #[.val (.ref a1), .val (.double tf), .second, .val (.double ln), .second, .val (.double av), .second, .val (.double idf), .second, .unset, .unset] [(.double av), (.double (FP.dmul bb ln)), (.double (FP.dsub (FP.l2d 1) bb))])
  have q118 : FP.ddiv (FP.dmul bb ln) av = (FP.ddiv (FP.dmul bb ln) av) := rfl
  refine Go.by (fun t k => XS.ddivS X116.here hx rfl (hb hby od_prog_2_m_4_14) rfl n3 q118 k) ?_
  show Go p e below _ T116 (mkF m 15 #[.val (.ref a1), .val (.double tf), .second, .val (.double ln), .second, .val (.double av), .second, .val (.double idf), .second, .unset, .unset] [(.double (FP.ddiv (FP.dmul bb ln) av)), (.double (FP.dsub (FP.l2d 1) bb))])
  have q119 : FP.dadd (FP.dsub (FP.l2d 1) bb) (FP.ddiv (FP.dmul bb ln) av) = (nrm bb ln av) := rfl
  refine Go.by (fun t k => XS.daddS X116.here hx rfl (hb hby od_prog_2_m_4_15) rfl n4 q119 k) ?_
  show Go p e below _ T116 (mkF m 16 #[.val (.ref a1), .val (.double tf), .second, .val (.double ln), .second, .val (.double av), .second, .val (.double idf), .second, .unset, .unset] [(.double (nrm bb ln av))])
  refine Go.by (fun t k => XS.dstore X116.here hx rfl (hb hby od_prog_2_m_4_16) rfl (l' := #[.val (.ref a1), .val (.double tf), .second, .val (.double ln), .second, .val (.double av), .second, .val (.double idf), .second, .val (.double (nrm bb ln av)), .second]) rfl (XS.dload X116.here hx rfl (hb hby od_prog_2_m_4_18) rfl (XS.dloadN X116.here hx rfl (hb hby od_prog_2_m_4_20) rfl k))) ?_
  show Go p e below _ T116 (mkF m 21 #[.val (.ref a1), .val (.double tf), .second, .val (.double ln), .second, .val (.double av), .second, .val (.double idf), .second, .val (.double (nrm bb ln av)), .second] [(.double tf), (.double idf)])
  have q120 : FP.dmul idf tf = (FP.dmul idf tf) := rfl
  refine Go.by (fun t k => XS.dmulS X116.here hx rfl (hb hby od_prog_2_m_4_21) rfl n5 q120 k) ?_
  show Go p e below _ T116 (mkF m 22 #[.val (.ref a1), .val (.double tf), .second, .val (.double ln), .second, .val (.double av), .second, .val (.double idf), .second, .val (.double (nrm bb ln av)), .second] [(.double (FP.dmul idf tf))])
  refine Go.by (fun t k => XS.aloadN X116.here hx rfl (hb hby od_prog_2_m_4_22) rfl rfl k) ?_
  show Go p e below _ T116 (mkF m 23 #[.val (.ref a1), .val (.double tf), .second, .val (.double ln), .second, .val (.double av), .second, .val (.double idf), .second, .val (.double (nrm bb ln av)), .second] [(.ref a1), (.double (FP.dmul idf tf))])
  obtain ⟨T121, X121, e121, st121⟩ := getF X116 hx hZ hown (host := "") (Or.inl (ow15 hw)) Via.refl e116 F1 (g := (mkF m 23 #[.val (.ref a1), .val (.double tf), .second, .val (.double ln), .second, .val (.double av), .second, .val (.double idf), .second, .val (.double (nrm bb ln av)), .second] [(.ref a1), (.double (FP.dmul idf tf))])) rfl rfl (hb hby od_prog_2_m_4_23)
  refine Go.by st121 ?_
  show Go p e below _ T121 (mkF m 26 #[.val (.ref a1), .val (.double tf), .second, .val (.double ln), .second, .val (.double av), .second, .val (.double idf), .second, .val (.double (nrm bb ln av)), .second] [(.double k1), (.double (FP.dmul idf tf))])
  refine Go.by (fun t k => XS.aloadN X121.here hx rfl (hb hby od_prog_2_m_4_26) rfl rfl k) ?_
  show Go p e below _ T121 (mkF m 27 #[.val (.ref a1), .val (.double tf), .second, .val (.double ln), .second, .val (.double av), .second, .val (.double idf), .second, .val (.double (nrm bb ln av)), .second] [(.ref a1), (.double k1), (.double (FP.dmul idf tf))])
  obtain ⟨T122, X122, e122, st122⟩ := getF X121 hx hZ hown (host := "") (Or.inl (ow15 hw)) Via.refl e121 F1 (g := (mkF m 27 #[.val (.ref a1), .val (.double tf), .second, .val (.double ln), .second, .val (.double av), .second, .val (.double idf), .second, .val (.double (nrm bb ln av)), .second] [(.ref a1), (.double k1), (.double (FP.dmul idf tf))])) rfl rfl (hb hby od_prog_2_m_4_27)
  refine Go.by st122 ?_
  show Go p e below _ T122 (mkF m 30 #[.val (.ref a1), .val (.double tf), .second, .val (.double ln), .second, .val (.double av), .second, .val (.double idf), .second, .val (.double (nrm bb ln av)), .second] [(.double k1), (.double k1), (.double (FP.dmul idf tf))])
  refine Go.by (fun t k => XS.dconst1 X122.here hx rfl (hb hby od_prog_2_m_4_30) (v := (FP.l2d 1)) (by decide +kernel) k) ?_
  show Go p e below _ T122 (mkF m 31 #[.val (.ref a1), .val (.double tf), .second, .val (.double ln), .second, .val (.double av), .second, .val (.double idf), .second, .val (.double (nrm bb ln av)), .second] [(.double (FP.l2d 1)), (.double k1), (.double k1), (.double (FP.dmul idf tf))])
  have q123 : FP.dadd k1 (FP.l2d 1) = (FP.dadd k1 (FP.l2d 1)) := rfl
  refine Go.by (fun t k => XS.daddS X122.here hx rfl (hb hby od_prog_2_m_4_31) rfl n6 q123 k) ?_
  show Go p e below _ T122 (mkF m 32 #[.val (.ref a1), .val (.double tf), .second, .val (.double ln), .second, .val (.double av), .second, .val (.double idf), .second, .val (.double (nrm bb ln av)), .second] [(.double (FP.dadd k1 (FP.l2d 1))), (.double k1), (.double (FP.dmul idf tf))])
  have q124 : FP.ddiv k1 (FP.dadd k1 (FP.l2d 1)) = (FP.ddiv k1 (FP.dadd k1 (FP.l2d 1))) := rfl
  refine Go.by (fun t k => XS.ddivS X122.here hx rfl (hb hby od_prog_2_m_4_32) rfl n7 q124 k) ?_
  show Go p e below _ T122 (mkF m 33 #[.val (.ref a1), .val (.double tf), .second, .val (.double ln), .second, .val (.double av), .second, .val (.double idf), .second, .val (.double (nrm bb ln av)), .second] [(.double (FP.ddiv k1 (FP.dadd k1 (FP.l2d 1)))), (.double (FP.dmul idf tf))])
  refine Go.by (fun t k => XS.dload X122.here hx rfl (hb hby od_prog_2_m_4_33) rfl k) ?_
  show Go p e below _ T122 (mkF m 35 #[.val (.ref a1), .val (.double tf), .second, .val (.double ln), .second, .val (.double av), .second, .val (.double idf), .second, .val (.double (nrm bb ln av)), .second] [(.double (nrm bb ln av)), (.double (FP.ddiv k1 (FP.dadd k1 (FP.l2d 1)))), (.double (FP.dmul idf tf))])
  have q125 : FP.dmul (FP.ddiv k1 (FP.dadd k1 (FP.l2d 1))) (nrm bb ln av) = (FP.dmul (FP.ddiv k1 (FP.dadd k1 (FP.l2d 1))) (nrm bb ln av)) := rfl
  refine Go.by (fun t k => XS.dmulS X122.here hx rfl (hb hby od_prog_2_m_4_35) rfl n8 q125 k) ?_
  show Go p e below _ T122 (mkF m 36 #[.val (.ref a1), .val (.double tf), .second, .val (.double ln), .second, .val (.double av), .second, .val (.double idf), .second, .val (.double (nrm bb ln av)), .second] [(.double (FP.dmul (FP.ddiv k1 (FP.dadd k1 (FP.l2d 1))) (nrm bb ln av))), (.double (FP.dmul idf tf))])
  refine Go.by (fun t k => XS.dloadN X122.here hx rfl (hb hby od_prog_2_m_4_36) rfl (XS.aloadN X122.here hx rfl (hb hby od_prog_2_m_4_37) rfl rfl k)) ?_
  show Go p e below _ T122 (mkF m 38 #[.val (.ref a1), .val (.double tf), .second, .val (.double ln), .second, .val (.double av), .second, .val (.double idf), .second, .val (.double (nrm bb ln av)), .second] [(.ref a1), (.double tf), (.double (FP.dmul (FP.ddiv k1 (FP.dadd k1 (FP.l2d 1))) (nrm bb ln av))), (.double (FP.dmul idf tf))])
  obtain ⟨T126, X126, e126, st126⟩ := getF X122 hx hZ hown (host := "") (Or.inl (ow15 hw)) Via.refl e122 F1 (g := (mkF m 38 #[.val (.ref a1), .val (.double tf), .second, .val (.double ln), .second, .val (.double av), .second, .val (.double idf), .second, .val (.double (nrm bb ln av)), .second] [(.ref a1), (.double tf), (.double (FP.dmul (FP.ddiv k1 (FP.dadd k1 (FP.l2d 1))) (nrm bb ln av))), (.double (FP.dmul idf tf))])) rfl rfl (hb hby od_prog_2_m_4_38)
  refine Go.by st126 ?_
  show Go p e below _ T126 (mkF m 41 #[.val (.ref a1), .val (.double tf), .second, .val (.double ln), .second, .val (.double av), .second, .val (.double idf), .second, .val (.double (nrm bb ln av)), .second] [(.double k1), (.double tf), (.double (FP.dmul (FP.ddiv k1 (FP.dadd k1 (FP.l2d 1))) (nrm bb ln av))), (.double (FP.dmul idf tf))])
  refine Go.by (fun t k => XS.dconst1 X126.here hx rfl (hb hby od_prog_2_m_4_41) (v := (FP.l2d 1)) (by decide +kernel) k) ?_
  show Go p e below _ T126 (mkF m 42 #[.val (.ref a1), .val (.double tf), .second, .val (.double ln), .second, .val (.double av), .second, .val (.double idf), .second, .val (.double (nrm bb ln av)), .second] [(.double (FP.l2d 1)), (.double k1), (.double tf), (.double (FP.dmul (FP.ddiv k1 (FP.dadd k1 (FP.l2d 1))) (nrm bb ln av))), (.double (FP.dmul idf tf))])
  have q127 : FP.dadd k1 (FP.l2d 1) = (FP.dadd k1 (FP.l2d 1)) := rfl
  refine Go.by (fun t k => XS.daddS X126.here hx rfl (hb hby od_prog_2_m_4_42) rfl n6 q127 k) ?_
  show Go p e below _ T126 (mkF m 43 #[.val (.ref a1), .val (.double tf), .second, .val (.double ln), .second, .val (.double av), .second, .val (.double idf), .second, .val (.double (nrm bb ln av)), .second] [(.double (FP.dadd k1 (FP.l2d 1))), (.double tf), (.double (FP.dmul (FP.ddiv k1 (FP.dadd k1 (FP.l2d 1))) (nrm bb ln av))), (.double (FP.dmul idf tf))])
  have q128 : FP.ddiv tf (FP.dadd k1 (FP.l2d 1)) = (FP.ddiv tf (FP.dadd k1 (FP.l2d 1))) := rfl
  refine Go.by (fun t k => XS.ddivS X126.here hx rfl (hb hby od_prog_2_m_4_43) rfl n9 q128 k) ?_
  show Go p e below _ T126 (mkF m 44 #[.val (.ref a1), .val (.double tf), .second, .val (.double ln), .second, .val (.double av), .second, .val (.double idf), .second, .val (.double (nrm bb ln av)), .second] [(.double (FP.ddiv tf (FP.dadd k1 (FP.l2d 1)))), (.double (FP.dmul (FP.ddiv k1 (FP.dadd k1 (FP.l2d 1))) (nrm bb ln av))), (.double (FP.dmul idf tf))])
  have q129 : FP.dadd (FP.dmul (FP.ddiv k1 (FP.dadd k1 (FP.l2d 1))) (nrm bb ln av)) (FP.ddiv tf (FP.dadd k1 (FP.l2d 1))) = (den k1 bb tf ln av) := rfl
  refine Go.by (fun t k => XS.daddS X126.here hx rfl (hb hby od_prog_2_m_4_44) rfl n10 q129 k) ?_
  show Go p e below _ T126 (mkF m 45 #[.val (.ref a1), .val (.double tf), .second, .val (.double ln), .second, .val (.double av), .second, .val (.double idf), .second, .val (.double (nrm bb ln av)), .second] [(.double (den k1 bb tf ln av)), (.double (FP.dmul idf tf))])
  have q130 : FP.ddiv (FP.dmul idf tf) (den k1 bb tf ln av) = (scoreV k1 bb tf ln av idf) := rfl
  refine Go.by (fun t k => XS.ddivS X126.here hx rfl (hb hby od_prog_2_m_4_45) rfl n11 q130 k) ?_
  show Go p e below _ T126 (mkF m 46 #[.val (.ref a1), .val (.double tf), .second, .val (.double ln), .second, .val (.double av), .second, .val (.double idf), .second, .val (.double (nrm bb ln av)), .second] [(.double (scoreV k1 bb tf ln av idf))])
  exact Go.retD X126 hx hret hlk (hb hby od_prog_2_m_4_46) (by first | (rw [e126]; exact ⟨rfl, N0, rfl⟩) | exact ⟨rfl, N0, rfl⟩) (by decide) (by decide)
def Q_wd (Z : State)  (h0 : Heap) (n0 : Nat) (v : Option Value) (h : Heap) (L : List Loc) : Prop := ∃ bo : Addr, v = some (.ref bo) ∧ Fr n0 L ∧ Keep h0 h [] ∧ (h0.size ≤ bo) ∧ (Exa Z h bo "com/example/antecedent/antecedent/Bm25") ∧ (Fld Z h bo "com/example/antecedent/antecedent/Bm25" "k1" "D" (.double (4608083138725491507 : UInt64))) ∧ (Fld Z h bo "com/example/antecedent/antecedent/Bm25" "b" "D" (.double (4604930618986332160 : UInt64)))
set_option maxRecDepth 65536 in
set_option maxHeartbeats 40000000 in
theorem rm_wd (l : Launch) (Z : State) (a0 : Array Value) (hw : HW a0 Z) (ws : List Jvm.Cond)  (h0 : Heap) (n0 : Nat) (Z0 : n0 ≤ h0.size)  :
    MetFree l (⟨"com/example/antecedent/antecedent/Bm25", "withDefaults", "()Lcom/example/antecedent/antecedent/Bm25;"⟩ : MethodName) (head1 (Jvm.Cond.code (⟨"com/example/antecedent/antecedent/Bm25", "withDefaults", "()Lcom/example/antecedent/antecedent/Bm25;"⟩ : MethodName) prog_2_method_2_code 0 (Option.some (Jvm.ClassFile.FieldType.object "com/example/antecedent/antecedent/Bm25")) :: ws) ({ frames := 2, cells := 1, slots := 2, locals := 29 } : Room)) (fun a U => a = #[] ∧ Z.Warmed39 U.vm ∧ U.heap = h0) (fun _ _ _ _ _ => True) (fun _ U o U' => Out U (Q_wd Z  h0 n0) ({ frames := 2, cells := 1, slots := 2, locals := 29 } : Room).cells ({ frames := 2, cells := 1, slots := 2, locals := 29 } : Room).slots o U') := by
  refine MetFree.of_bodySF (plainFor_of_name opn_0) hisR ?_
  intro p e s m args below meth c s₁ Bd hml0 hP hK
  obtain ⟨rfl, hZ, hh⟩ := hP
  have hx := Bd.exec
  have hby := Bd.bytes
  have hml : c.maxLocals = 0 := hml0
  have hret := Bd.returns
  have hlk : meth.locks = false := BodyLoose.notSynchronized Bd
  have hown : s.vm.findClass "com/example/antecedent/antecedent/Bm25" = some m.cls := findClass_of_methodNamed Bd.named
  have hnm := (name_of_methodNamed Bd.named Bd.method).1
  have X0 : Stand p l e ({ frames := 2, cells := 1, slots := 2, locals := 29 } : Room) s m #[] below meth c s₁ [] 0 0 := Stand.of_body Bd
  have e0 : s₁.heap = h0 := by rw [← hh, Bd.state]; rfl
  have N0 := Fr.nil n0
  have K0 : Keep h0 h0 [] := Keep.refl h0 _
  show Go p e below (Out s (Q_wd Z  h0 n0) ({ frames := 2, cells := 1, slots := 2, locals := 29 } : Room).cells ({ frames := 2, cells := 1, slots := 2, locals := 29 } : Room).slots) s₁ (entryFrame m #[] 0)
  refine Go.cast (oef_wd m ) ?_
  show Go p e below _ s₁ (mkF m 0 #[] [])
  obtain ⟨T131, h131, X131, e131, E131, A131, D131, U131, st131⟩ := newO X0 hx hZ hown (ow4 hw) (ow5 hw) (ow2 hw) e0 (g := (mkF m 0 #[] [])) rfl (hb hby od_prog_2_m_2_0) (by decide) (by decide)
  obtain ⟨b131, g131⟩ : ∃ z, z = h0.size := ⟨_, rfl⟩
  rw [← g131] at A131 D131 U131 st131
  refine Go.by st131 ?_
  have K132 : Keep h0 h131 [] := K0.ext E131
  show Go p e below _ T131 (mkF m 3 #[] [(.ref b131)])
  refine Go.by (fun t k => XS.dup X131.here hx rfl (hb hby od_prog_2_m_2_3) rfl rfl k) ?_
  show Go p e below _ T131 (mkF m 4 #[] [(.ref b131), (.ref b131)])
  refine Go.by (X131.ldc2DoubleC hx hown (mvT hZ (ow6 hw)) (g := (mkF m 4 #[] [(.ref b131), (.ref b131)])) rfl (hb hby od_prog_2_m_2_4)) ?_
  show Go p e below _ T131 (mkF m 7 #[] [(.double (4608083138725491507 : UInt64)), (.ref b131), (.ref b131)])
  refine Go.by (X131.ldc2DoubleC hx hown (mvT hZ (ow7 hw)) (g := (mkF m 7 #[] [(.double (4608083138725491507 : UInt64)), (.ref b131), (.ref b131)])) rfl (hb hby od_prog_2_m_2_7)) ?_
  show Go p e below _ T131 (mkF m 10 #[] [(.double (4604930618986332160 : UInt64)), (.double (4608083138725491507 : UInt64)), (.ref b131), (.ref b131)])
  obtain ⟨_, _, ⟨T133, L133, k133, n133⟩, -, X133, ⟨Lc133, hQ133, l133, y133, z133⟩, st133⟩ := X131.specialBack hx (y := (⟨"com/example/antecedent/antecedent/Bm25", "<init>", "(DD)V"⟩ : MethodName)) rfl hown (mvT hZ (ow8 hw)) (mvT hZ (ow9 hw)) (mvT hZ (ow10 hw)) (by decide) (backOf (W := 1) (rm_bmi l Z a0 hw [] b131 (4608083138725491507 : UInt64) (4604930618986332160 : UInt64) h131 n0 (Nat.le_trans Z0 E131.1) A131 ((Nat.le_trans (Nat.le_trans Z0 (Nat.le_refl _)) (Nat.le_of_eq g131.symm))) (D131 (Or.inr (ow16 hw)) (ty := .double) (by decide)) (D131 (Or.inr (ow18 hw)) (ty := .double) (by decide)) (by decide +kernel) (by decide +kernel) (by decide +kernel) (by decide +kernel)) hZ (ow10 hw) (ow2 hw) (by decide) (by decide)) (g := (mkF m 10 #[] [(.double (4604930618986332160 : UInt64)), (.double (4608083138725491507 : UInt64)), (.ref b131), (.ref b131)])) rfl (by rw [hml]; rfl) (Steps.refl _) (a := b131) (argsL := [(.double (4608083138725491507 : UInt64)), (.double (4604930618986332160 : UInt64))]) (rest := [(.ref b131)]) (lenOf opd_0 rfl) rfl (by show 2 * 0 + _ ≤ _; exact Nat.le_of_eq rfl) (hb hby od_prog_2_m_2_10) (fun _ _ => ⟨rfl, e131, (by decide : 1 + 0 ≤ _), (by decide : 2 + 0 ≤ _)⟩)
  dsimp only [Pt.U, Pt.locs, Pt.cells, Pt.slots] at X133 l133 y133 z133 st133 hQ133
  subst l133 y133 z133
  obtain ⟨rfl, N133q, K133q, P133_0, P133_1, P133_2⟩ := hQ133
  have N133 := Fr.app N0 N133q
  refine Go.tr st133 ?_
  have K134 : Keep h0 T133.heap [] := K132.trans K133q (allS (Or.inr (Nat.le_trans (Nat.le_refl _) (Nat.le_of_eq g131.symm))) all0)
  show Go p e below _ T133 (mkF m 13 #[] [(.ref b131)])
  exact Go.retR X133 hx hret rfl rfl rfl hlk (hb hby od_prog_2_m_2_13) ⟨b131, rfl, N133, K134, (Nat.le_trans (Nat.le_refl _) (Nat.le_of_eq g131.symm)), P133_0, P133_1, P133_2⟩ (by decide) (by decide)
def Q_law (Z : State) (i0 : Int32) (i1 : Int32) (i2 : Int32) (i3 : Int32) (h0 : Heap) (n0 : Nat) (v : Option Value) (h : Heap) (L : List Loc) : Prop := v = some (.int (1 : Int32)) ∧ Fr n0 L ∧ Keep h0 h []
set_option maxRecDepth 65536 in
set_option maxHeartbeats 40000000 in
theorem rm_law (l : Launch) (Z : State) (a0 : Array Value) (hw : HW a0 Z) (ws : List Jvm.Cond) (i0 : Int32) (i1 : Int32) (i2 : Int32) (i3 : Int32) (h0 : Heap) (n0 : Nat) (Z0 : n0 ≤ h0.size)  :
    MetFree l x (head1 (Jvm.Cond.code x code maxLocals ret :: ws) room_1) (fun a U => a = #[(.int i0), (.int i1), (.int i2), (.int i3)] ∧ Z.Warmed39 U.vm ∧ U.heap = h0) (fun _ _ _ _ _ => True) (fun _ U o U' => Out U (Q_law Z i0 i1 i2 i3 h0 n0) room_1.cells room_1.slots o U') := by
  refine MetFree.of_bodySF (plainFor_of_name opn_1) hisR ?_
  intro p e s m args below meth c s₁ Bd hml0 hP hK
  obtain ⟨rfl, hZ, hh⟩ := hP
  have hx := Bd.exec
  have hby := Bd.bytes
  have hml : c.maxLocals = 18 := hml0
  have hret := Bd.returns
  have hlk : meth.locks = false := BodyLoose.notSynchronized Bd
  have hown : s.vm.findClass "com/example/antecedent/antecedent/Bm25WithDefaultsPinLaw" = some m.cls := findClass_of_methodNamed Bd.named
  have hnm := (name_of_methodNamed Bd.named Bd.method).1
  have X0 : Stand p l e room_1 s m #[(.int i0), (.int i1), (.int i2), (.int i3)] below meth c s₁ [] 0 0 := Stand.of_body Bd
  have e0 : s₁.heap = h0 := by rw [← hh, Bd.state]; rfl
  have N0 := Fr.nil n0
  have K0 : Keep h0 h0 [] := Keep.refl h0 _
  show Go p e below (Out s (Q_law Z i0 i1 i2 i3 h0 n0) room_1.cells room_1.slots) s₁ (entryFrame m #[(.int i0), (.int i1), (.int i2), (.int i3)] maxLocals)
  refine Go.cast (oef_law m i0 i1 i2 i3) ?_
  show Go p e below _ s₁ (mkF m 0 #[.val (.int i0), .val (.int i1), .val (.int i2), .val (.int i3), .unset, .unset, .unset, .unset, .unset, .unset, .unset, .unset, .unset, .unset, .unset, .unset, .unset, .unset] [])
  refine Go.by (fun t k => XS.iconst X0.here hx rfl (hb hby at_0) (XS.iloadN X0.here hx rfl (hb hby at_1) rfl (XS.sipush X0.here hx rfl (hb hby at_2) (XS.iand X0.here hx rfl (hb hby at_5) rfl k)))) ?_
  show Go p e below _ s₁ (mkF m 6 #[.val (.int i0), .val (.int i1), .val (.int i2), .val (.int i3), .unset, .unset, .unset, .unset, .unset, .unset, .unset, .unset, .unset, .unset, .unset, .unset, .unset, .unset] [(.int (i0 &&& (1023 : Int32))), (.int (1 : Int32))])
  refine Go.by (fun t k => XS.iadd X0.here hx rfl (hb hby at_6) rfl (XS.i2dS X0.here hx rfl (hb hby at_7) rfl (i2d_w _) (XS.dstore X0.here hx rfl (hb hby at_8) rfl (l' := #[.val (.int i0), .val (.int i1), .val (.int i2), .val (.int i3), .val (.double (FP.l2d ((1 : Int32) + (i0 &&& (1023 : Int32))).toInt64)), .second, .unset, .unset, .unset, .unset, .unset, .unset, .unset, .unset, .unset, .unset, .unset, .unset]) rfl (XS.iloadN X0.here hx rfl (hb hby at_10) rfl k)))) ?_
  show Go p e below _ s₁ (mkF m 11 #[.val (.int i0), .val (.int i1), .val (.int i2), .val (.int i3), .val (.double (FP.l2d ((1 : Int32) + (i0 &&& (1023 : Int32))).toInt64)), .second, .unset, .unset, .unset, .unset, .unset, .unset, .unset, .unset, .unset, .unset, .unset, .unset] [(.int i1)])
  refine Go.by (fun t k => XS.sipush X0.here hx rfl (hb hby at_11) (XS.iand X0.here hx rfl (hb hby at_14) rfl (XS.i2dS X0.here hx rfl (hb hby at_15) rfl (i2d_w _) (XS.dstore X0.here hx rfl (hb hby at_16) rfl (l' := #[.val (.int i0), .val (.int i1), .val (.int i2), .val (.int i3), .val (.double (FP.l2d ((1 : Int32) + (i0 &&& (1023 : Int32))).toInt64)), .second, .val (.double (FP.l2d (i1 &&& (4095 : Int32)).toInt64)), .second, .unset, .unset, .unset, .unset, .unset, .unset, .unset, .unset, .unset, .unset]) rfl k)))) ?_
  show Go p e below _ s₁ (mkF m 18 #[.val (.int i0), .val (.int i1), .val (.int i2), .val (.int i3), .val (.double (FP.l2d ((1 : Int32) + (i0 &&& (1023 : Int32))).toInt64)), .second, .val (.double (FP.l2d (i1 &&& (4095 : Int32)).toInt64)), .second, .unset, .unset, .unset, .unset, .unset, .unset, .unset, .unset, .unset, .unset] [])
  refine Go.by (fun t k => XS.iconst X0.here hx rfl (hb hby at_18) (XS.iloadN X0.here hx rfl (hb hby at_19) rfl (XS.sipush X0.here hx rfl (hb hby at_20) (XS.iand X0.here hx rfl (hb hby at_23) rfl k)))) ?_
  show Go p e below _ s₁ (mkF m 24 #[.val (.int i0), .val (.int i1), .val (.int i2), .val (.int i3), .val (.double (FP.l2d ((1 : Int32) + (i0 &&& (1023 : Int32))).toInt64)), .second, .val (.double (FP.l2d (i1 &&& (4095 : Int32)).toInt64)), .second, .unset, .unset, .unset, .unset, .unset, .unset, .unset, .unset, .unset, .unset] [(.int (i2 &&& (4095 : Int32))), (.int (1 : Int32))])
  refine Go.by (fun t k => XS.iadd X0.here hx rfl (hb hby at_24) rfl (XS.i2dS X0.here hx rfl (hb hby at_25) rfl (i2d_w _) (XS.dstore X0.here hx rfl (hb hby at_26) rfl (l' := #[.val (.int i0), .val (.int i1), .val (.int i2), .val (.int i3), .val (.double (FP.l2d ((1 : Int32) + (i0 &&& (1023 : Int32))).toInt64)), .second, .val (.double (FP.l2d (i1 &&& (4095 : Int32)).toInt64)), .second, .val (.double (FP.l2d ((1 : Int32) + (i2 &&& (4095 : Int32))).toInt64)), .second, .unset, .unset, .unset, .unset, .unset, .unset, .unset, .unset]) rfl (XS.iloadN X0.here hx rfl (hb hby at_28) rfl k)))) ?_
  show Go p e below _ s₁ (mkF m 29 #[.val (.int i0), .val (.int i1), .val (.int i2), .val (.int i3), .val (.double (FP.l2d ((1 : Int32) + (i0 &&& (1023 : Int32))).toInt64)), .second, .val (.double (FP.l2d (i1 &&& (4095 : Int32)).toInt64)), .second, .val (.double (FP.l2d ((1 : Int32) + (i2 &&& (4095 : Int32))).toInt64)), .second, .unset, .unset, .unset, .unset, .unset, .unset, .unset, .unset] [(.int i3)])
  refine Go.by (fun t k => XS.bipush X0.here hx rfl (hb hby at_29) (iremM X0 hx rfl (hb hby at_31) rfl (by decide) (XS.i2dS X0.here hx rfl (hb hby at_32) rfl (i2d_w _) (XS.dstore X0.here hx rfl (hb hby at_33) rfl (l' := #[.val (.int i0), .val (.int i1), .val (.int i2), .val (.int i3), .val (.double (FP.l2d ((1 : Int32) + (i0 &&& (1023 : Int32))).toInt64)), .second, .val (.double (FP.l2d (i1 &&& (4095 : Int32)).toInt64)), .second, .val (.double (FP.l2d ((1 : Int32) + (i2 &&& (4095 : Int32))).toInt64)), .second, .val (.double (FP.l2d (i3 % (64 : Int32)).toInt64)), .second, .unset, .unset, .unset, .unset, .unset, .unset]) rfl k)))) ?_
  show Go p e below _ s₁ (mkF m 35 #[.val (.int i0), .val (.int i1), .val (.int i2), .val (.int i3), .val (.double (FP.l2d ((1 : Int32) + (i0 &&& (1023 : Int32))).toInt64)), .second, .val (.double (FP.l2d (i1 &&& (4095 : Int32)).toInt64)), .second, .val (.double (FP.l2d ((1 : Int32) + (i2 &&& (4095 : Int32))).toInt64)), .second, .val (.double (FP.l2d (i3 % (64 : Int32)).toInt64)), .second, .unset, .unset, .unset, .unset, .unset, .unset] [])
  obtain ⟨_, _, ⟨T135, L135, k135, n135⟩, -, X135, ⟨Lc135, hQ135, l135, y135, z135⟩, st135⟩ := Jvm.LawKit.callS X0 hx (y := (⟨"com/example/antecedent/antecedent/Bm25", "withDefaults", "()Lcom/example/antecedent/antecedent/Bm25;"⟩ : MethodName)) hown (mvT hZ (ow0 hw)) (mvT hZ (ow1 hw)) (mvT hZ (ow2 hw)) (mvT hZ (ow3 hw)) (by decide) (backOf (W := 0) (rm_wd l Z a0 hw []  h0 n0 (Nat.le_trans Z0 (Nat.le_refl _)) ) hZ (ow3 hw) (ow2 hw) (by decide) (by decide)) (g := (mkF m 35 #[.val (.int i0), .val (.int i1), .val (.int i2), .val (.int i3), .val (.double (FP.l2d ((1 : Int32) + (i0 &&& (1023 : Int32))).toInt64)), .second, .val (.double (FP.l2d (i1 &&& (4095 : Int32)).toInt64)), .second, .val (.double (FP.l2d ((1 : Int32) + (i2 &&& (4095 : Int32))).toInt64)), .second, .val (.double (FP.l2d (i3 % (64 : Int32)).toInt64)), .second, .unset, .unset, .unset, .unset, .unset, .unset] [])) rfl (by rw [hml]; rfl) (argsL := []) (rest := []) (lenOf opd_1 rfl) rfl (by show 2 * 0 + _ ≤ _; exact Nat.le_of_eq rfl) (hb hby at_35) (fun _ _ => ⟨rfl, e0, (by decide : 0 + 1 ≤ _), (by decide : 0 + 2 ≤ _)⟩)
  dsimp only [Pt.U, Pt.locs, Pt.cells, Pt.slots] at X135 l135 y135 z135 st135 hQ135
  subst l135 y135 z135
  obtain ⟨bo_135, rfl, N135q, K135q, P135_0, P135_1, P135_2, P135_3⟩ := hQ135
  have N135 := Fr.app N0 N135q
  refine Go.by st135 ?_
  have K136 : Keep h0 T135.heap [] := K0.trans K135q all0
  show Go p e below _ T135 (mkF m 38 #[.val (.int i0), .val (.int i1), .val (.int i2), .val (.int i3), .val (.double (FP.l2d ((1 : Int32) + (i0 &&& (1023 : Int32))).toInt64)), .second, .val (.double (FP.l2d (i1 &&& (4095 : Int32)).toInt64)), .second, .val (.double (FP.l2d ((1 : Int32) + (i2 &&& (4095 : Int32))).toInt64)), .second, .val (.double (FP.l2d (i3 % (64 : Int32)).toInt64)), .second, .unset, .unset, .unset, .unset, .unset, .unset] [(.ref bo_135)])
  refine Go.by (fun t k => XS.astore X135.here hx rfl (hb hby at_38) rfl rfl (l' := #[.val (.int i0), .val (.int i1), .val (.int i2), .val (.int i3), .val (.double (FP.l2d ((1 : Int32) + (i0 &&& (1023 : Int32))).toInt64)), .second, .val (.double (FP.l2d (i1 &&& (4095 : Int32)).toInt64)), .second, .val (.double (FP.l2d ((1 : Int32) + (i2 &&& (4095 : Int32))).toInt64)), .second, .val (.double (FP.l2d (i3 % (64 : Int32)).toInt64)), .second, .val (.ref bo_135), .unset, .unset, .unset, .unset, .unset]) rfl k) ?_
  show Go p e below _ T135 (mkF m 40 #[.val (.int i0), .val (.int i1), .val (.int i2), .val (.int i3), .val (.double (FP.l2d ((1 : Int32) + (i0 &&& (1023 : Int32))).toInt64)), .second, .val (.double (FP.l2d (i1 &&& (4095 : Int32)).toInt64)), .second, .val (.double (FP.l2d ((1 : Int32) + (i2 &&& (4095 : Int32))).toInt64)), .second, .val (.double (FP.l2d (i3 % (64 : Int32)).toInt64)), .second, .val (.ref bo_135), .unset, .unset, .unset, .unset, .unset] [])
  obtain ⟨T137, h137, X137, e137, E137, A137, D137, U137, st137⟩ := newO X135 hx hZ hown (ow19 hw) (ow5 hw) (ow2 hw) rfl (g := (mkF m 40 #[.val (.int i0), .val (.int i1), .val (.int i2), .val (.int i3), .val (.double (FP.l2d ((1 : Int32) + (i0 &&& (1023 : Int32))).toInt64)), .second, .val (.double (FP.l2d (i1 &&& (4095 : Int32)).toInt64)), .second, .val (.double (FP.l2d ((1 : Int32) + (i2 &&& (4095 : Int32))).toInt64)), .second, .val (.double (FP.l2d (i3 % (64 : Int32)).toInt64)), .second, .val (.ref bo_135), .unset, .unset, .unset, .unset, .unset] [])) rfl (hb hby at_40) (by decide) (by decide)
  obtain ⟨b137, g137⟩ : ∃ z, z = T135.heap.size := ⟨_, rfl⟩
  rw [← g137] at A137 D137 U137 st137
  refine Go.by st137 ?_
  have K138 : Keep h0 h137 [] := K136.ext E137
  show Go p e below _ T137 (mkF m 43 #[.val (.int i0), .val (.int i1), .val (.int i2), .val (.int i3), .val (.double (FP.l2d ((1 : Int32) + (i0 &&& (1023 : Int32))).toInt64)), .second, .val (.double (FP.l2d (i1 &&& (4095 : Int32)).toInt64)), .second, .val (.double (FP.l2d ((1 : Int32) + (i2 &&& (4095 : Int32))).toInt64)), .second, .val (.double (FP.l2d (i3 % (64 : Int32)).toInt64)), .second, .val (.ref bo_135), .unset, .unset, .unset, .unset, .unset] [(.ref b137)])
  refine Go.by (fun t k => XS.dup X137.here hx rfl (hb hby at_43) rfl rfl k) ?_
  show Go p e below _ T137 (mkF m 44 #[.val (.int i0), .val (.int i1), .val (.int i2), .val (.int i3), .val (.double (FP.l2d ((1 : Int32) + (i0 &&& (1023 : Int32))).toInt64)), .second, .val (.double (FP.l2d (i1 &&& (4095 : Int32)).toInt64)), .second, .val (.double (FP.l2d ((1 : Int32) + (i2 &&& (4095 : Int32))).toInt64)), .second, .val (.double (FP.l2d (i3 % (64 : Int32)).toInt64)), .second, .val (.ref bo_135), .unset, .unset, .unset, .unset, .unset] [(.ref b137), (.ref b137)])
  refine Go.by (X137.ldc2DoubleC hx hown (mvT hZ (ow20 hw)) (g := (mkF m 44 #[.val (.int i0), .val (.int i1), .val (.int i2), .val (.int i3), .val (.double (FP.l2d ((1 : Int32) + (i0 &&& (1023 : Int32))).toInt64)), .second, .val (.double (FP.l2d (i1 &&& (4095 : Int32)).toInt64)), .second, .val (.double (FP.l2d ((1 : Int32) + (i2 &&& (4095 : Int32))).toInt64)), .second, .val (.double (FP.l2d (i3 % (64 : Int32)).toInt64)), .second, .val (.ref bo_135), .unset, .unset, .unset, .unset, .unset] [(.ref b137), (.ref b137)])) rfl (hb hby at_44)) ?_
  show Go p e below _ T137 (mkF m 47 #[.val (.int i0), .val (.int i1), .val (.int i2), .val (.int i3), .val (.double (FP.l2d ((1 : Int32) + (i0 &&& (1023 : Int32))).toInt64)), .second, .val (.double (FP.l2d (i1 &&& (4095 : Int32)).toInt64)), .second, .val (.double (FP.l2d ((1 : Int32) + (i2 &&& (4095 : Int32))).toInt64)), .second, .val (.double (FP.l2d (i3 % (64 : Int32)).toInt64)), .second, .val (.ref bo_135), .unset, .unset, .unset, .unset, .unset] [(.double (4608083138725491507 : UInt64)), (.ref b137), (.ref b137)])
  refine Go.by (X137.ldc2DoubleC hx hown (mvT hZ (ow21 hw)) (g := (mkF m 47 #[.val (.int i0), .val (.int i1), .val (.int i2), .val (.int i3), .val (.double (FP.l2d ((1 : Int32) + (i0 &&& (1023 : Int32))).toInt64)), .second, .val (.double (FP.l2d (i1 &&& (4095 : Int32)).toInt64)), .second, .val (.double (FP.l2d ((1 : Int32) + (i2 &&& (4095 : Int32))).toInt64)), .second, .val (.double (FP.l2d (i3 % (64 : Int32)).toInt64)), .second, .val (.ref bo_135), .unset, .unset, .unset, .unset, .unset] [(.double (4608083138725491507 : UInt64)), (.ref b137), (.ref b137)])) rfl (hb hby at_47)) ?_
  show Go p e below _ T137 (mkF m 50 #[.val (.int i0), .val (.int i1), .val (.int i2), .val (.int i3), .val (.double (FP.l2d ((1 : Int32) + (i0 &&& (1023 : Int32))).toInt64)), .second, .val (.double (FP.l2d (i1 &&& (4095 : Int32)).toInt64)), .second, .val (.double (FP.l2d ((1 : Int32) + (i2 &&& (4095 : Int32))).toInt64)), .second, .val (.double (FP.l2d (i3 % (64 : Int32)).toInt64)), .second, .val (.ref bo_135), .unset, .unset, .unset, .unset, .unset] [(.double (4604930618986332160 : UInt64)), (.double (4608083138725491507 : UInt64)), (.ref b137), (.ref b137)])
  obtain ⟨_, _, ⟨T139, L139, k139, n139⟩, -, X139, ⟨Lc139, hQ139, l139, y139, z139⟩, st139⟩ := X137.specialBack hx (y := (⟨"com/example/antecedent/antecedent/Bm25", "<init>", "(DD)V"⟩ : MethodName)) rfl hown (mvT hZ (ow22 hw)) (mvT hZ (ow9 hw)) (mvT hZ (ow10 hw)) (by decide) (backOf (W := 1) (rm_bmi l Z a0 hw [] b137 (4608083138725491507 : UInt64) (4604930618986332160 : UInt64) h137 n0 (Nat.le_trans Z0 (Nat.le_trans K135q.1 E137.1)) A137 ((Nat.le_trans (Nat.le_trans Z0 K135q.1) (Nat.le_of_eq g137.symm))) (D137 (Or.inr (ow16 hw)) (ty := .double) (by decide)) (D137 (Or.inr (ow18 hw)) (ty := .double) (by decide)) (by decide +kernel) (by decide +kernel) (by decide +kernel) (by decide +kernel)) hZ (ow10 hw) (ow2 hw) (by decide) (by decide)) (g := (mkF m 50 #[.val (.int i0), .val (.int i1), .val (.int i2), .val (.int i3), .val (.double (FP.l2d ((1 : Int32) + (i0 &&& (1023 : Int32))).toInt64)), .second, .val (.double (FP.l2d (i1 &&& (4095 : Int32)).toInt64)), .second, .val (.double (FP.l2d ((1 : Int32) + (i2 &&& (4095 : Int32))).toInt64)), .second, .val (.double (FP.l2d (i3 % (64 : Int32)).toInt64)), .second, .val (.ref bo_135), .unset, .unset, .unset, .unset, .unset] [(.double (4604930618986332160 : UInt64)), (.double (4608083138725491507 : UInt64)), (.ref b137), (.ref b137)])) rfl (by rw [hml]; rfl) (Steps.refl _) (a := b137) (argsL := [(.double (4608083138725491507 : UInt64)), (.double (4604930618986332160 : UInt64))]) (rest := [(.ref b137)]) (lenOf opd_0 rfl) rfl (by show 2 * 0 + _ ≤ _; exact Nat.le_of_eq rfl) (hb hby at_50) (fun _ _ => ⟨rfl, e137, (by decide : 2 + 0 ≤ _), (by decide : 4 + 0 ≤ _)⟩)
  dsimp only [Pt.U, Pt.locs, Pt.cells, Pt.slots] at X139 l139 y139 z139 st139 hQ139
  subst l139 y139 z139
  obtain ⟨rfl, N139q, K139q, P139_0, P139_1, P139_2⟩ := hQ139
  have N139 := Fr.app N135 N139q
  refine Go.tr st139 ?_
  have K140 : Keep h0 T139.heap [] := K138.trans K139q (allS (Or.inr (Nat.le_trans K135q.1 (Nat.le_of_eq g137.symm))) all0)
  show Go p e below _ T139 (mkF m 53 #[.val (.int i0), .val (.int i1), .val (.int i2), .val (.int i3), .val (.double (FP.l2d ((1 : Int32) + (i0 &&& (1023 : Int32))).toInt64)), .second, .val (.double (FP.l2d (i1 &&& (4095 : Int32)).toInt64)), .second, .val (.double (FP.l2d ((1 : Int32) + (i2 &&& (4095 : Int32))).toInt64)), .second, .val (.double (FP.l2d (i3 % (64 : Int32)).toInt64)), .second, .val (.ref bo_135), .unset, .unset, .unset, .unset, .unset] [(.ref b137)])
  refine Go.by (fun t k => XS.astore X139.here hx rfl (hb hby at_53) rfl rfl (l' := #[.val (.int i0), .val (.int i1), .val (.int i2), .val (.int i3), .val (.double (FP.l2d ((1 : Int32) + (i0 &&& (1023 : Int32))).toInt64)), .second, .val (.double (FP.l2d (i1 &&& (4095 : Int32)).toInt64)), .second, .val (.double (FP.l2d ((1 : Int32) + (i2 &&& (4095 : Int32))).toInt64)), .second, .val (.double (FP.l2d (i3 % (64 : Int32)).toInt64)), .second, .val (.ref bo_135), .val (.ref b137), .unset, .unset, .unset, .unset]) rfl (XS.aload X139.here hx rfl (hb hby at_55) rfl rfl (XS.dload X139.here hx rfl (hb hby at_57) rfl (XS.dload X139.here hx rfl (hb hby at_59) rfl k)))) ?_
  show Go p e below _ T139 (mkF m 61 #[.val (.int i0), .val (.int i1), .val (.int i2), .val (.int i3), .val (.double (FP.l2d ((1 : Int32) + (i0 &&& (1023 : Int32))).toInt64)), .second, .val (.double (FP.l2d (i1 &&& (4095 : Int32)).toInt64)), .second, .val (.double (FP.l2d ((1 : Int32) + (i2 &&& (4095 : Int32))).toInt64)), .second, .val (.double (FP.l2d (i3 % (64 : Int32)).toInt64)), .second, .val (.ref bo_135), .val (.ref b137), .unset, .unset, .unset, .unset] [(.double (FP.l2d (i1 &&& (4095 : Int32)).toInt64)), (.double (FP.l2d ((1 : Int32) + (i0 &&& (1023 : Int32))).toInt64)), (.ref bo_135)])
  refine Go.by (fun t k => XS.dload X139.here hx rfl (hb hby at_61) rfl (XS.dload X139.here hx rfl (hb hby at_63) rfl k)) ?_
  show Go p e below _ T139 (mkF m 65 #[.val (.int i0), .val (.int i1), .val (.int i2), .val (.int i3), .val (.double (FP.l2d ((1 : Int32) + (i0 &&& (1023 : Int32))).toInt64)), .second, .val (.double (FP.l2d (i1 &&& (4095 : Int32)).toInt64)), .second, .val (.double (FP.l2d ((1 : Int32) + (i2 &&& (4095 : Int32))).toInt64)), .second, .val (.double (FP.l2d (i3 % (64 : Int32)).toInt64)), .second, .val (.ref bo_135), .val (.ref b137), .unset, .unset, .unset, .unset] [(.double (FP.l2d (i3 % (64 : Int32)).toInt64)), (.double (FP.l2d ((1 : Int32) + (i2 &&& (4095 : Int32))).toInt64)), (.double (FP.l2d (i1 &&& (4095 : Int32)).toInt64)), (.double (FP.l2d ((1 : Int32) + (i0 &&& (1023 : Int32))).toInt64)), (.ref bo_135)])
  have hok := okC (d := (i3 % (64 : Int32)).toInt64) (m1023 i0) (n4095 i1) (m4095 i2)
  have F142 : Fld Z T139.heap bo_135 "com/example/antecedent/antecedent/Bm25" "k1" "D" (.double (4608083138725491507 : UInt64)) := ((P135_2.ext E137).keep K139q (ninS (Nat.ne_of_lt (Nat.lt_of_lt_of_le P135_1.lt (Nat.le_of_eq g137.symm))) nin0))
  have F143 : Fld Z T139.heap bo_135 "com/example/antecedent/antecedent/Bm25" "b" "D" (.double (4604930618986332160 : UInt64)) := ((P135_3.ext E137).keep K139q (ninS (Nat.ne_of_lt (Nat.lt_of_lt_of_le P135_1.lt (Nat.le_of_eq g137.symm))) nin0))
  have F144 : Exa Z T139.heap bo_135 "com/example/antecedent/antecedent/Bm25" := ((P135_1.ext E137).keep K139q)
  obtain ⟨cq141, kq141, q141a, q141b, q141c⟩ := isOf hZ rfl F144
  obtain ⟨_, _, ⟨T141, L141, k141, n141⟩, -, X141, ⟨Lc141, hQ141, l141, y141, z141⟩, st141⟩ := X139.virtualBack hx (y := (⟨"com/example/antecedent/antecedent/Bm25", "score", "(DDDD)D"⟩ : MethodName)) (z := (⟨"com/example/antecedent/antecedent/Bm25", "score", "(DDDD)D"⟩ : MethodName)) hown (mvT hZ (ow23 hw)) (mvT hZ (ow24 hw)) (notFace_of_selects (args := #[]) (mvT hZ (ow26 hw))) (mvT hZ (ow26 hw)) (mvT hZ (ow25 hw)) (by decide) (backOf (W := 0) (rm_score l Z a0 hw [] bo_135 (4608083138725491507 : UInt64) (4604930618986332160 : UInt64) (FP.l2d ((1 : Int32) + (i0 &&& (1023 : Int32))).toInt64) (FP.l2d (i1 &&& (4095 : Int32)).toInt64) (FP.l2d ((1 : Int32) + (i2 &&& (4095 : Int32))).toInt64) (FP.l2d (i3 % (64 : Int32)).toInt64) T139.heap n0 (Nat.le_trans Z0 (Nat.le_trans (Nat.le_trans K135q.1 E137.1) K139q.1)) F142 F143 (hok)) hZ (ow27 hw) (ow2 hw) (by decide) (by decide)) q141a q141c (g := (mkF m 65 #[.val (.int i0), .val (.int i1), .val (.int i2), .val (.int i3), .val (.double (FP.l2d ((1 : Int32) + (i0 &&& (1023 : Int32))).toInt64)), .second, .val (.double (FP.l2d (i1 &&& (4095 : Int32)).toInt64)), .second, .val (.double (FP.l2d ((1 : Int32) + (i2 &&& (4095 : Int32))).toInt64)), .second, .val (.double (FP.l2d (i3 % (64 : Int32)).toInt64)), .second, .val (.ref bo_135), .val (.ref b137), .unset, .unset, .unset, .unset] [(.double (FP.l2d (i3 % (64 : Int32)).toInt64)), (.double (FP.l2d ((1 : Int32) + (i2 &&& (4095 : Int32))).toInt64)), (.double (FP.l2d (i1 &&& (4095 : Int32)).toInt64)), (.double (FP.l2d ((1 : Int32) + (i0 &&& (1023 : Int32))).toInt64)), (.ref bo_135)])) rfl (by rw [hml]; rfl) (Steps.refl _) (argsL := [(.double (FP.l2d ((1 : Int32) + (i0 &&& (1023 : Int32))).toInt64)), (.double (FP.l2d (i1 &&& (4095 : Int32)).toInt64)), (.double (FP.l2d ((1 : Int32) + (i2 &&& (4095 : Int32))).toInt64)), (.double (FP.l2d (i3 % (64 : Int32)).toInt64))]) (rest := []) (lenOf opd_2 rfl) rfl (by show 2 * 0 + _ ≤ _; exact Nat.le_of_eq rfl) (hb hby at_65) (fun _ _ => ⟨rfl, rfl, (by decide : 2 + 0 ≤ _), (by decide : 4 + 0 ≤ _)⟩)
  dsimp only [Pt.U, Pt.locs, Pt.cells, Pt.slots] at X141 l141 y141 z141 st141 hQ141
  subst l141 y141 z141
  obtain ⟨rfl, N141q, e141⟩ := hQ141
  have N141 := Fr.app N139 N141q
  refine Go.tr st141 ?_
  show Go p e below _ T141 (mkF m 68 #[.val (.int i0), .val (.int i1), .val (.int i2), .val (.int i3), .val (.double (FP.l2d ((1 : Int32) + (i0 &&& (1023 : Int32))).toInt64)), .second, .val (.double (FP.l2d (i1 &&& (4095 : Int32)).toInt64)), .second, .val (.double (FP.l2d ((1 : Int32) + (i2 &&& (4095 : Int32))).toInt64)), .second, .val (.double (FP.l2d (i3 % (64 : Int32)).toInt64)), .second, .val (.ref bo_135), .val (.ref b137), .unset, .unset, .unset, .unset] [(.double (scoreV (4608083138725491507 : UInt64) (4604930618986332160 : UInt64) (FP.l2d ((1 : Int32) + (i0 &&& (1023 : Int32))).toInt64) (FP.l2d (i1 &&& (4095 : Int32)).toInt64) (FP.l2d ((1 : Int32) + (i2 &&& (4095 : Int32))).toInt64) (FP.l2d (i3 % (64 : Int32)).toInt64)))])
  refine Go.by (fun t k => XS.dstore X141.here hx rfl (hb hby at_68) rfl (l' := #[.val (.int i0), .val (.int i1), .val (.int i2), .val (.int i3), .val (.double (FP.l2d ((1 : Int32) + (i0 &&& (1023 : Int32))).toInt64)), .second, .val (.double (FP.l2d (i1 &&& (4095 : Int32)).toInt64)), .second, .val (.double (FP.l2d ((1 : Int32) + (i2 &&& (4095 : Int32))).toInt64)), .second, .val (.double (FP.l2d (i3 % (64 : Int32)).toInt64)), .second, .val (.ref bo_135), .val (.ref b137), .val (.double (scoreV (4608083138725491507 : UInt64) (4604930618986332160 : UInt64) (FP.l2d ((1 : Int32) + (i0 &&& (1023 : Int32))).toInt64) (FP.l2d (i1 &&& (4095 : Int32)).toInt64) (FP.l2d ((1 : Int32) + (i2 &&& (4095 : Int32))).toInt64) (FP.l2d (i3 % (64 : Int32)).toInt64))), .second, .unset, .unset]) rfl (XS.aload X141.here hx rfl (hb hby at_70) rfl rfl (XS.dload X141.here hx rfl (hb hby at_72) rfl (XS.dload X141.here hx rfl (hb hby at_74) rfl k)))) ?_
  show Go p e below _ T141 (mkF m 76 #[.val (.int i0), .val (.int i1), .val (.int i2), .val (.int i3), .val (.double (FP.l2d ((1 : Int32) + (i0 &&& (1023 : Int32))).toInt64)), .second, .val (.double (FP.l2d (i1 &&& (4095 : Int32)).toInt64)), .second, .val (.double (FP.l2d ((1 : Int32) + (i2 &&& (4095 : Int32))).toInt64)), .second, .val (.double (FP.l2d (i3 % (64 : Int32)).toInt64)), .second, .val (.ref bo_135), .val (.ref b137), .val (.double (scoreV (4608083138725491507 : UInt64) (4604930618986332160 : UInt64) (FP.l2d ((1 : Int32) + (i0 &&& (1023 : Int32))).toInt64) (FP.l2d (i1 &&& (4095 : Int32)).toInt64) (FP.l2d ((1 : Int32) + (i2 &&& (4095 : Int32))).toInt64) (FP.l2d (i3 % (64 : Int32)).toInt64))), .second, .unset, .unset] [(.double (FP.l2d (i1 &&& (4095 : Int32)).toInt64)), (.double (FP.l2d ((1 : Int32) + (i0 &&& (1023 : Int32))).toInt64)), (.ref b137)])
  refine Go.by (fun t k => XS.dload X141.here hx rfl (hb hby at_76) rfl (XS.dload X141.here hx rfl (hb hby at_78) rfl k)) ?_
  show Go p e below _ T141 (mkF m 80 #[.val (.int i0), .val (.int i1), .val (.int i2), .val (.int i3), .val (.double (FP.l2d ((1 : Int32) + (i0 &&& (1023 : Int32))).toInt64)), .second, .val (.double (FP.l2d (i1 &&& (4095 : Int32)).toInt64)), .second, .val (.double (FP.l2d ((1 : Int32) + (i2 &&& (4095 : Int32))).toInt64)), .second, .val (.double (FP.l2d (i3 % (64 : Int32)).toInt64)), .second, .val (.ref bo_135), .val (.ref b137), .val (.double (scoreV (4608083138725491507 : UInt64) (4604930618986332160 : UInt64) (FP.l2d ((1 : Int32) + (i0 &&& (1023 : Int32))).toInt64) (FP.l2d (i1 &&& (4095 : Int32)).toInt64) (FP.l2d ((1 : Int32) + (i2 &&& (4095 : Int32))).toInt64) (FP.l2d (i3 % (64 : Int32)).toInt64))), .second, .unset, .unset] [(.double (FP.l2d (i3 % (64 : Int32)).toInt64)), (.double (FP.l2d ((1 : Int32) + (i2 &&& (4095 : Int32))).toInt64)), (.double (FP.l2d (i1 &&& (4095 : Int32)).toInt64)), (.double (FP.l2d ((1 : Int32) + (i0 &&& (1023 : Int32))).toInt64)), (.ref b137)])
  obtain ⟨cq145, kq145, q145a, q145b, q145c⟩ := isOf hZ e141 P139_0
  obtain ⟨_, _, ⟨T145, L145, k145, n145⟩, -, X145, ⟨Lc145, hQ145, l145, y145, z145⟩, st145⟩ := X141.virtualBack hx (y := (⟨"com/example/antecedent/antecedent/Bm25", "score", "(DDDD)D"⟩ : MethodName)) (z := (⟨"com/example/antecedent/antecedent/Bm25", "score", "(DDDD)D"⟩ : MethodName)) hown (mvT hZ (ow23 hw)) (mvT hZ (ow24 hw)) (notFace_of_selects (args := #[]) (mvT hZ (ow26 hw))) (mvT hZ (ow26 hw)) (mvT hZ (ow25 hw)) (by decide) (backOf (W := 0) (rm_score l Z a0 hw [] b137 (4608083138725491507 : UInt64) (4604930618986332160 : UInt64) (FP.l2d ((1 : Int32) + (i0 &&& (1023 : Int32))).toInt64) (FP.l2d (i1 &&& (4095 : Int32)).toInt64) (FP.l2d ((1 : Int32) + (i2 &&& (4095 : Int32))).toInt64) (FP.l2d (i3 % (64 : Int32)).toInt64) T139.heap n0 (Nat.le_trans Z0 (Nat.le_trans (Nat.le_trans K135q.1 E137.1) K139q.1)) P139_1 P139_2 (hok)) hZ (ow27 hw) (ow2 hw) (by decide) (by decide)) q145a q145c (g := (mkF m 80 #[.val (.int i0), .val (.int i1), .val (.int i2), .val (.int i3), .val (.double (FP.l2d ((1 : Int32) + (i0 &&& (1023 : Int32))).toInt64)), .second, .val (.double (FP.l2d (i1 &&& (4095 : Int32)).toInt64)), .second, .val (.double (FP.l2d ((1 : Int32) + (i2 &&& (4095 : Int32))).toInt64)), .second, .val (.double (FP.l2d (i3 % (64 : Int32)).toInt64)), .second, .val (.ref bo_135), .val (.ref b137), .val (.double (scoreV (4608083138725491507 : UInt64) (4604930618986332160 : UInt64) (FP.l2d ((1 : Int32) + (i0 &&& (1023 : Int32))).toInt64) (FP.l2d (i1 &&& (4095 : Int32)).toInt64) (FP.l2d ((1 : Int32) + (i2 &&& (4095 : Int32))).toInt64) (FP.l2d (i3 % (64 : Int32)).toInt64))), .second, .unset, .unset] [(.double (FP.l2d (i3 % (64 : Int32)).toInt64)), (.double (FP.l2d ((1 : Int32) + (i2 &&& (4095 : Int32))).toInt64)), (.double (FP.l2d (i1 &&& (4095 : Int32)).toInt64)), (.double (FP.l2d ((1 : Int32) + (i0 &&& (1023 : Int32))).toInt64)), (.ref b137)])) rfl (by rw [hml]; rfl) (Steps.refl _) (argsL := [(.double (FP.l2d ((1 : Int32) + (i0 &&& (1023 : Int32))).toInt64)), (.double (FP.l2d (i1 &&& (4095 : Int32)).toInt64)), (.double (FP.l2d ((1 : Int32) + (i2 &&& (4095 : Int32))).toInt64)), (.double (FP.l2d (i3 % (64 : Int32)).toInt64))]) (rest := []) (lenOf opd_2 rfl) rfl (by show 2 * 0 + _ ≤ _; exact Nat.le_of_eq rfl) (hb hby at_80) (fun _ _ => ⟨rfl, e141, (by decide : 2 + 0 ≤ _), (by decide : 4 + 0 ≤ _)⟩)
  dsimp only [Pt.U, Pt.locs, Pt.cells, Pt.slots] at X145 l145 y145 z145 st145 hQ145
  subst l145 y145 z145
  obtain ⟨rfl, N145q, e145⟩ := hQ145
  have N145 := Fr.app N141 N145q
  refine Go.tr st145 ?_
  show Go p e below _ T145 (mkF m 83 #[.val (.int i0), .val (.int i1), .val (.int i2), .val (.int i3), .val (.double (FP.l2d ((1 : Int32) + (i0 &&& (1023 : Int32))).toInt64)), .second, .val (.double (FP.l2d (i1 &&& (4095 : Int32)).toInt64)), .second, .val (.double (FP.l2d ((1 : Int32) + (i2 &&& (4095 : Int32))).toInt64)), .second, .val (.double (FP.l2d (i3 % (64 : Int32)).toInt64)), .second, .val (.ref bo_135), .val (.ref b137), .val (.double (scoreV (4608083138725491507 : UInt64) (4604930618986332160 : UInt64) (FP.l2d ((1 : Int32) + (i0 &&& (1023 : Int32))).toInt64) (FP.l2d (i1 &&& (4095 : Int32)).toInt64) (FP.l2d ((1 : Int32) + (i2 &&& (4095 : Int32))).toInt64) (FP.l2d (i3 % (64 : Int32)).toInt64))), .second, .unset, .unset] [(.double (scoreV (4608083138725491507 : UInt64) (4604930618986332160 : UInt64) (FP.l2d ((1 : Int32) + (i0 &&& (1023 : Int32))).toInt64) (FP.l2d (i1 &&& (4095 : Int32)).toInt64) (FP.l2d ((1 : Int32) + (i2 &&& (4095 : Int32))).toInt64) (FP.l2d (i3 % (64 : Int32)).toInt64)))])
  refine Go.by (fun t k => XS.dstore X145.here hx rfl (hb hby at_83) rfl (l' := #[.val (.int i0), .val (.int i1), .val (.int i2), .val (.int i3), .val (.double (FP.l2d ((1 : Int32) + (i0 &&& (1023 : Int32))).toInt64)), .second, .val (.double (FP.l2d (i1 &&& (4095 : Int32)).toInt64)), .second, .val (.double (FP.l2d ((1 : Int32) + (i2 &&& (4095 : Int32))).toInt64)), .second, .val (.double (FP.l2d (i3 % (64 : Int32)).toInt64)), .second, .val (.ref bo_135), .val (.ref b137), .val (.double (scoreV (4608083138725491507 : UInt64) (4604930618986332160 : UInt64) (FP.l2d ((1 : Int32) + (i0 &&& (1023 : Int32))).toInt64) (FP.l2d (i1 &&& (4095 : Int32)).toInt64) (FP.l2d ((1 : Int32) + (i2 &&& (4095 : Int32))).toInt64) (FP.l2d (i3 % (64 : Int32)).toInt64))), .second, .val (.double (scoreV (4608083138725491507 : UInt64) (4604930618986332160 : UInt64) (FP.l2d ((1 : Int32) + (i0 &&& (1023 : Int32))).toInt64) (FP.l2d (i1 &&& (4095 : Int32)).toInt64) (FP.l2d ((1 : Int32) + (i2 &&& (4095 : Int32))).toInt64) (FP.l2d (i3 % (64 : Int32)).toInt64))), .second]) rfl (XS.dload X145.here hx rfl (hb hby at_85) rfl (XS.dload X145.here hx rfl (hb hby at_87) rfl k))) ?_
  show Go p e below _ T145 (mkF m 89 #[.val (.int i0), .val (.int i1), .val (.int i2), .val (.int i3), .val (.double (FP.l2d ((1 : Int32) + (i0 &&& (1023 : Int32))).toInt64)), .second, .val (.double (FP.l2d (i1 &&& (4095 : Int32)).toInt64)), .second, .val (.double (FP.l2d ((1 : Int32) + (i2 &&& (4095 : Int32))).toInt64)), .second, .val (.double (FP.l2d (i3 % (64 : Int32)).toInt64)), .second, .val (.ref bo_135), .val (.ref b137), .val (.double (scoreV (4608083138725491507 : UInt64) (4604930618986332160 : UInt64) (FP.l2d ((1 : Int32) + (i0 &&& (1023 : Int32))).toInt64) (FP.l2d (i1 &&& (4095 : Int32)).toInt64) (FP.l2d ((1 : Int32) + (i2 &&& (4095 : Int32))).toInt64) (FP.l2d (i3 % (64 : Int32)).toInt64))), .second, .val (.double (scoreV (4608083138725491507 : UInt64) (4604930618986332160 : UInt64) (FP.l2d ((1 : Int32) + (i0 &&& (1023 : Int32))).toInt64) (FP.l2d (i1 &&& (4095 : Int32)).toInt64) (FP.l2d ((1 : Int32) + (i2 &&& (4095 : Int32))).toInt64) (FP.l2d (i3 % (64 : Int32)).toInt64))), .second] [(.double (scoreV (4608083138725491507 : UInt64) (4604930618986332160 : UInt64) (FP.l2d ((1 : Int32) + (i0 &&& (1023 : Int32))).toInt64) (FP.l2d (i1 &&& (4095 : Int32)).toInt64) (FP.l2d ((1 : Int32) + (i2 &&& (4095 : Int32))).toInt64) (FP.l2d (i3 % (64 : Int32)).toInt64))), (.double (scoreV (4608083138725491507 : UInt64) (4604930618986332160 : UInt64) (FP.l2d ((1 : Int32) + (i0 &&& (1023 : Int32))).toInt64) (FP.l2d (i1 &&& (4095 : Int32)).toInt64) (FP.l2d ((1 : Int32) + (i2 &&& (4095 : Int32))).toInt64) (FP.l2d (i3 % (64 : Int32)).toInt64)))])
  have q146 : cmpValue (FP.dcmp (scoreV (4608083138725491507 : UInt64) (4604930618986332160 : UInt64) (FP.l2d ((1 : Int32) + (i0 &&& (1023 : Int32))).toInt64) (FP.l2d (i1 &&& (4095 : Int32)).toInt64) (FP.l2d ((1 : Int32) + (i2 &&& (4095 : Int32))).toInt64) (FP.l2d (i3 % (64 : Int32)).toInt64)) (scoreV (4608083138725491507 : UInt64) (4604930618986332160 : UInt64) (FP.l2d ((1 : Int32) + (i0 &&& (1023 : Int32))).toInt64) (FP.l2d (i1 &&& (4095 : Int32)).toInt64) (FP.l2d ((1 : Int32) + (i2 &&& (4095 : Int32))).toInt64) (FP.l2d (i3 % (64 : Int32)).toInt64))) .l = (0 : Int32) := dcmpV_self hok.2.2.2.2.2.2.2.2.2.2 _
  refine Go.by (fun t k => XS.dcmpS X145.here hx rfl (hb hby at_89) rfl q146 k) ?_
  show Go p e below _ T145 (mkF m 90 #[.val (.int i0), .val (.int i1), .val (.int i2), .val (.int i3), .val (.double (FP.l2d ((1 : Int32) + (i0 &&& (1023 : Int32))).toInt64)), .second, .val (.double (FP.l2d (i1 &&& (4095 : Int32)).toInt64)), .second, .val (.double (FP.l2d ((1 : Int32) + (i2 &&& (4095 : Int32))).toInt64)), .second, .val (.double (FP.l2d (i3 % (64 : Int32)).toInt64)), .second, .val (.ref bo_135), .val (.ref b137), .val (.double (scoreV (4608083138725491507 : UInt64) (4604930618986332160 : UInt64) (FP.l2d ((1 : Int32) + (i0 &&& (1023 : Int32))).toInt64) (FP.l2d (i1 &&& (4095 : Int32)).toInt64) (FP.l2d ((1 : Int32) + (i2 &&& (4095 : Int32))).toInt64) (FP.l2d (i3 % (64 : Int32)).toInt64))), .second, .val (.double (scoreV (4608083138725491507 : UInt64) (4604930618986332160 : UInt64) (FP.l2d ((1 : Int32) + (i0 &&& (1023 : Int32))).toInt64) (FP.l2d (i1 &&& (4095 : Int32)).toInt64) (FP.l2d ((1 : Int32) + (i2 &&& (4095 : Int32))).toInt64) (FP.l2d (i3 % (64 : Int32)).toInt64))), .second] [(.int (0 : Int32))])
  refine Go.by (fun t k => XS.ifNo X145.here hx rfl (hb hby at_90) rfl ((if0 _ _).trans (teq (show (0 : Int32) = (0 : Int32) from (by decide))).2) k) ?_
  show Go p e below _ T145 (mkF m 93 #[.val (.int i0), .val (.int i1), .val (.int i2), .val (.int i3), .val (.double (FP.l2d ((1 : Int32) + (i0 &&& (1023 : Int32))).toInt64)), .second, .val (.double (FP.l2d (i1 &&& (4095 : Int32)).toInt64)), .second, .val (.double (FP.l2d ((1 : Int32) + (i2 &&& (4095 : Int32))).toInt64)), .second, .val (.double (FP.l2d (i3 % (64 : Int32)).toInt64)), .second, .val (.ref bo_135), .val (.ref b137), .val (.double (scoreV (4608083138725491507 : UInt64) (4604930618986332160 : UInt64) (FP.l2d ((1 : Int32) + (i0 &&& (1023 : Int32))).toInt64) (FP.l2d (i1 &&& (4095 : Int32)).toInt64) (FP.l2d ((1 : Int32) + (i2 &&& (4095 : Int32))).toInt64) (FP.l2d (i3 % (64 : Int32)).toInt64))), .second, .val (.double (scoreV (4608083138725491507 : UInt64) (4604930618986332160 : UInt64) (FP.l2d ((1 : Int32) + (i0 &&& (1023 : Int32))).toInt64) (FP.l2d (i1 &&& (4095 : Int32)).toInt64) (FP.l2d ((1 : Int32) + (i2 &&& (4095 : Int32))).toInt64) (FP.l2d (i3 % (64 : Int32)).toInt64))), .second] [])
  refine Go.by (fun t k => XS.iconst X145.here hx rfl (hb hby at_93) (XS.goto X145.here hx rfl (pc0 := 94) (pc' := 98) rfl (hb hby at_94) (by decide) (by decide) k)) ?_
  show Go p e below _ T145 (mkF m 98 #[.val (.int i0), .val (.int i1), .val (.int i2), .val (.int i3), .val (.double (FP.l2d ((1 : Int32) + (i0 &&& (1023 : Int32))).toInt64)), .second, .val (.double (FP.l2d (i1 &&& (4095 : Int32)).toInt64)), .second, .val (.double (FP.l2d ((1 : Int32) + (i2 &&& (4095 : Int32))).toInt64)), .second, .val (.double (FP.l2d (i3 % (64 : Int32)).toInt64)), .second, .val (.ref bo_135), .val (.ref b137), .val (.double (scoreV (4608083138725491507 : UInt64) (4604930618986332160 : UInt64) (FP.l2d ((1 : Int32) + (i0 &&& (1023 : Int32))).toInt64) (FP.l2d (i1 &&& (4095 : Int32)).toInt64) (FP.l2d ((1 : Int32) + (i2 &&& (4095 : Int32))).toInt64) (FP.l2d (i3 % (64 : Int32)).toInt64))), .second, .val (.double (scoreV (4608083138725491507 : UInt64) (4604930618986332160 : UInt64) (FP.l2d ((1 : Int32) + (i0 &&& (1023 : Int32))).toInt64) (FP.l2d (i1 &&& (4095 : Int32)).toInt64) (FP.l2d ((1 : Int32) + (i2 &&& (4095 : Int32))).toInt64) (FP.l2d (i3 % (64 : Int32)).toInt64))), .second] [(.int (1 : Int32))])
  exact Go.retN X145 hx (t := .boolean) hret (by simp) hlk (hb hby at_98) (by first | (rw [e145]; exact ⟨rfl, N145, K140⟩) | exact ⟨rfl, N145, K140⟩) (by decide) (by decide)
set_option maxRecDepth 65536 in
set_option maxHeartbeats 40000000 in
theorem comes_1 {Post : Tables → Env → Array Value → State → Outcome → State → Prop} (hpost : ∀ tb e args s v u, (limb_1_1.after args s (.returned v) u = true ∧ limb_1_2.after args s (.returned v) u = true ∧ True) → FrameEnd s (.returned v) u (Jvm.fieldLocs frame_1_writes args s ++ Jvm.arrayLocs frame_1_arrays args s ++ Jvm.staticLocs frame_1_statics s) 16 128 → Post tb e args s (.returned v) u) :
    ArmFor flags0 classFile x code maxLocals ret World_1 tables_1 room_1 Calls_1 rest_1 Pre_1 Post := by
  intro l hfl _ _ p e ha hc hk s m args below hf hA hF happ hP
  obtain ⟨hcalls, hrest, hpre⟩ := hP
  obtain ⟨-, -, -, hnamed, -, -, -, hat⟩ := (Spec.applies_iff hf).mp happ
  obtain ⟨hg, hn⟩ := and_e (Cond.before_iff.mp (show (Jvm.Cond.and given_1 narrow_1).before args s = true from hpre))
  obtain ⟨hcount, r0⟩ := and_e hg
  obtain ⟨k0, r1⟩ := and_e r0
  obtain ⟨k1, r2⟩ := and_e r1
  obtain ⟨k2, r3⟩ := and_e r2
  obtain ⟨w0, w1, w2, w3, rfl⟩ : ∃ w0 w1 w2 w3 : Value, args = #[w0, w1, w2, w3] := by
    have hs : args.size = 4 := by simpa [Cond.value, given_1] using hcount
    obtain ⟨L⟩ := args
    match L, hs with
    | [w0, w1, w2, w3], _ => exact ⟨w0, w1, w2, w3, rfl⟩
  have hw := fun d (hd : d ∈ tables_1) => atoms_spec (ws := Jvm.Cond.code x code maxLocals ret :: tables_1) hat d (List.mem_cons_of_mem _ hd)
  obtain ⟨i0, e0⟩ := is_v k0
  obtain rfl : w0 = (.int i0) := Option.some.inj e0
  obtain ⟨i1, e1⟩ := is_v k1
  obtain rfl : w1 = (.int i1) := Option.some.inj e1
  obtain ⟨i2, e2⟩ := is_v k2
  obtain rfl : w2 = (.int i2) := Option.some.inj e2
  obtain ⟨i3, e3⟩ := is_v r3
  obtain rfl : w3 = (.int i3) := Option.some.inj e3
  obtain ⟨n, o, h1, h2, h3, _, L, rfl, ⟨rfl, N, -⟩, hq⟩ := rm_law l s _ hw tables_1 i0 i1 i2 i3  s.heap s.heap.size (Nat.le_refl _)  p e ha hc hk s m _ below hf ((Spec.applies_iff_loose hf).mp happ).1 ⟨rfl, State.Warmed39.refl s, rfl⟩ trivial
  refine ⟨n, _, h1, h2, h3, hpost _ _ _ _ _ _ ⟨Cond.after_iff.mpr rfl, Cond.after_iff.mpr (eq_i res_at (Term.int_eval (1)) rfl), trivial⟩ ⟨hq.1, hq.2.1, (hq.2.2.sift fun y hy => Or.inr (N y hy)).mono (by decide) (by decide)⟩⟩
theorem main_1_1 : Claimed_1_1 := comes_1 fun _ _ _ _ _ _ h hF => ⟨h.1, hF⟩
theorem main_1_2 : Claimed_1_2 := comes_1 fun _ _ _ _ _ _ h hF => ⟨h.2.1, hF⟩
end Jvm.Pilot.@@N@@
namespace Jvm.Pilot.@@N@@
open Jvm Jvm.ClassFile Sem Op Lib Jvm.Free Jvm.Stand Jvm.Pilot.@@N@@.Jvm.D
/-! MADE BY PROGRAM (witnessworld.py) out of the Statement's table words and the real class files: 9 classes; the members and pool entries that the words name. The judged class is class 1, her method 1. -/
namespace start1
open Jvm.ClassFile
def u (s : String) : CpInfo := .utf8 (stringToUtf16 s)
/-- a pool by its gaps: so many unusable entries, then the entry; so many at the end -/
def gap : Nat → List CpInfo → List CpInfo
  | 0, r => r
  | n + 1, r => .unusable :: gap n r
def poolList (es : List (Nat × CpInfo)) (last : Nat) : List CpInfo := es.foldr (fun e r => gap e.1 (e.2 :: r)) (gap last [])
def pool (es : List (Nat × CpInfo)) (last : Nat) : Array CpInfo := ⟨poolList es last⟩
def fileOf (pool : Array CpInfo) (this : Nat) (attrs : Array Attribute := #[]) (ms : Array MethodInfo := #[]) (fl : Nat := 33) (sup : Nat := 0) (ifs : Array Nat := #[]) (fds : Array FieldInfo := #[]) : ClassFile where
  minorVersion := 0
  majorVersion := 65
  constantPool := pool
  accessFlags := fl
  thisClass := this
  superClass := sup
  interfaces := ifs
  fields := fds
  methods := ms
  attributes := attrs
def plain (name : String) (sup : Option ClassId) : Class where
  name := name
  kind := .ordinary
  loader := none
  accessFlags := 33
  super := sup
  interfaces := #[]
  cf := none
  fields := #[]
  methods := #[]
  instanceTypes := #[]
  staticTypes := #[]
  resolved := #[]
  callSites := []
  init := .initialized
  statics := none
  mirror := none

def pool0 : Array CpInfo := pool [(5, u "<init>"), (0, u "()V"), (1, .class_ 10), (1, u "java/lang/Object")] 113

def k0c0 : Code := { maxStack := 0, maxLocals := 1, code := object_method_1_code, exceptionTable := #[], attributes := #[] }
def k0m0 : Method := { name := "<init>", desc := "()V", sig := { parameters := [], returnType := none }, accessFlags := 1, code := some k0c0 }
/-- java/lang/Object -/
def k0 : Class := { plain "java/lang/Object" none with
  accessFlags := 33
  interfaces := #[]
  cf := some (fileOf pool0 8 #[] #[{ accessFlags := 1, nameIndex := 5, descriptorIndex := 6, attributes := #[] }] 33 0 #[] #[])
  fields := #[]
  methods := #[k0m0]
  instanceTypes := #[]
  staticTypes := #[]
  resolved := Array.replicate 124 none
  statics := none }

def pool1 : Array CpInfo := pool [(2, .class_ 4), (1, u "java/lang/Object"), (0, u "<init>"), (0, u "()V"), (0, .methodref 8 9), (0, .class_ 10), (0, .nameAndType 11 12), (0, u "com/example/antecedent/antecedent/Bm25"), (0, u "withDefaults"), (0, u "()Lcom/example/antecedent/antecedent/Bm25;"), (0, .double 4608083138725491507), (1, .double 4604930618986332160), (1, .methodref 8 18), (0, .nameAndType 5 19), (0, u "(DD)V"), (0, .methodref 8 21), (0, .nameAndType 22 23), (0, u "score"), (0, u "(DDDD)D"), (0, .class_ 25), (0, u "com/example/antecedent/antecedent/Bm25WithDefaultsPinLaw"), (2, u "law"), (0, u "(IIII)Z")] 3

def k1m0 : Method := { name := "<init>", desc := "()V", sig := { parameters := [], returnType := none }, accessFlags := 1, code := none }
def k1c1 : Code := { maxStack := 9, maxLocals := 18, code := code, exceptionTable := #[], attributes := #[] }
def k1m1 : Method := { name := "law", desc := "(IIII)Z", sig := { parameters := [.int, .int, .int, .int], returnType := some .boolean }, accessFlags := 9, code := some k1c1 }
/-- com/example/antecedent/antecedent/Bm25WithDefaultsPinLaw -/
def k1 : Class := { plain "com/example/antecedent/antecedent/Bm25WithDefaultsPinLaw" (some 0) with
  accessFlags := 49
  interfaces := #[]
  cf := some (fileOf pool1 24 #[] #[{ accessFlags := 1, nameIndex := 5, descriptorIndex := 6, attributes := #[] }, { accessFlags := 9, nameIndex := 28, descriptorIndex := 29, attributes := #[] }] 49 2 #[] #[])
  fields := #[]
  methods := #[k1m0, k1m1]
  instanceTypes := #[]
  staticTypes := #[]
  resolved := Array.replicate 33 none
  statics := none }

def pool2 : Array CpInfo := pool [(1, .methodref 2 3), (0, .class_ 4), (0, .nameAndType 5 6), (0, u "java/lang/Object"), (0, u "<init>"), (0, u "()V"), (2, .double 9218868437227405312), (11, .fieldref 22 23), (0, .class_ 24), (0, .nameAndType 25 26), (0, u "com/example/antecedent/antecedent/Bm25"), (0, u "k1"), (0, u "D"), (0, .fieldref 22 28), (0, .nameAndType 29 26), (0, u "b"), (0, .double 4608083138725491507), (1, .double 4604930618986332160), (1, .methodref 22 35), (0, .nameAndType 5 36), (0, u "(DD)V"), (8, u "DEFAULT_K1"), (1, u "DEFAULT_B"), (3, u "withDefaults"), (0, u "()Lcom/example/antecedent/antecedent/Bm25;"), (2, u "score"), (0, u "(DDDD)D")] 19

def k2c0 : Code := { maxStack := 4, maxLocals := 5, code := prog_2_method_1_code, exceptionTable := #[], attributes := #[] }
def k2m0 : Method := { name := "<init>", desc := "(DD)V", sig := { parameters := [.double, .double], returnType := none }, accessFlags := 1, code := some k2c0 }
def k2c1 : Code := { maxStack := 6, maxLocals := 0, code := prog_2_method_2_code, exceptionTable := #[], attributes := #[] }
def k2m1 : Method := { name := "withDefaults", desc := "()Lcom/example/antecedent/antecedent/Bm25;", sig := { parameters := [], returnType := some (.object "com/example/antecedent/antecedent/Bm25") }, accessFlags := 9, code := some k2c1 }
def k2c2 : Code := { maxStack := 10, maxLocals := 11, code := prog_2_method_4_code, exceptionTable := #[], attributes := #[] }
def k2m2 : Method := { name := "score", desc := "(DDDD)D", sig := { parameters := [.double, .double, .double, .double], returnType := some .double }, accessFlags := 1, code := some k2c2 }
/-- com/example/antecedent/antecedent/Bm25 -/
def k2 : Class := { plain "com/example/antecedent/antecedent/Bm25" (some 0) with
  accessFlags := 49
  interfaces := #[]
  cf := some (fileOf pool2 22 #[] #[{ accessFlags := 1, nameIndex := 5, descriptorIndex := 36, attributes := #[] }, { accessFlags := 9, nameIndex := 51, descriptorIndex := 52, attributes := #[] }, { accessFlags := 1, nameIndex := 55, descriptorIndex := 56, attributes := #[] }] 49 2 #[] #[{ accessFlags := 25, nameIndex := 45, descriptorIndex := 26, attributes := #[] }, { accessFlags := 25, nameIndex := 47, descriptorIndex := 26, attributes := #[] }, { accessFlags := 18, nameIndex := 25, descriptorIndex := 26, attributes := #[] }, { accessFlags := 18, nameIndex := 29, descriptorIndex := 26, attributes := #[] }])
  fields := #[{ name := "DEFAULT_K1", type := .double, accessFlags := 25, slot := 0, constantValue := 0 }, { name := "DEFAULT_B", type := .double, accessFlags := 25, slot := 1, constantValue := 0 }, { name := "k1", type := .double, accessFlags := 18, slot := 0, constantValue := 0 }, { name := "b", type := .double, accessFlags := 18, slot := 1, constantValue := 0 }]
  methods := #[k2m0, k2m1, k2m2]
  instanceTypes := #[.double, .double]
  staticTypes := #[.double, .double]
  resolved := Array.replicate 76 none
  statics := none }

def pool3 : Array CpInfo := pool [(1, u "java/lang/Cloneable"), (0, .class_ 1), (0, u "java/lang/Object"), (0, .class_ 3)] 3

/-- java/lang/Cloneable -/
def k3 : Class := { plain "java/lang/Cloneable" (some 0) with
  accessFlags := 1537
  interfaces := #[]
  cf := some (fileOf pool3 2 #[] #[] 1537 4 #[] #[])
  fields := #[]
  methods := #[]
  instanceTypes := #[]
  staticTypes := #[]
  resolved := Array.replicate 8 none
  statics := none }

def pool4 : Array CpInfo := pool [(1, u "java/io/Serializable"), (0, .class_ 1), (0, u "java/lang/Object"), (0, .class_ 3)] 3

/-- java/io/Serializable -/
def k4 : Class := { plain "java/io/Serializable" (some 0) with
  accessFlags := 1537
  interfaces := #[]
  cf := some (fileOf pool4 2 #[] #[] 1537 4 #[] #[])
  fields := #[]
  methods := #[]
  instanceTypes := #[]
  staticTypes := #[]
  resolved := Array.replicate 8 none
  statics := none }

/-- the primitive byte -/
def k5 : Class := { plain "byte" none with kind := .primitive 'B', accessFlags := 0x411 }
/-- [B -/
def k6 : Class := { plain "[B" (some 0) with kind := .array 5 .byte, interfaces := #[3, 4], accessFlags := 1041 }

/-- the primitive int -/
def k7 : Class := { plain "int" none with kind := .primitive 'I', accessFlags := 0x411 }
/-- [I -/
def k8 : Class := { plain "[I" (some 0) with kind := .array 7 .int, interfaces := #[3, 4], accessFlags := 1041 }

def heap : Heap := #[]
def classes : Array Class := #[k0, k1, k2, k3, k4, k5, k6, k7, k8]
def interned : List (Array UInt16 × Addr) := []
def slotsUsed : Nat := 0
def theMethod : MethodId := ⟨1, 1⟩
def args0 : Array Value := #[.int 5, .int 3, .int 7, .int 9]
def aboutOver (below : List Frame) : State where
  vm := { classes := classes, interned := interned.toArray }
  heap := heap
  slotsUsed := slotsUsed
  threads := #[{ frames := .invoking theMethod args0 :: below }]
def below0 : List Frame := [.native { method := ⟨0, 0⟩, args := #[] }]
def about1 : State := aboutOver below0
def p0 : Program := .bare "" "" ""
def e0 : Env := launch0.env 0 0 0
theorem w_frames : about1.frames = Frame.invoking theMethod args0 :: below0 := rfl
set_option maxRecDepth 65536 in
theorem w_args : argsFit about1.vm theMethod args0 = true := by decide +kernel
set_option maxRecDepth 65536 in
theorem w_heap : heapFits about1 = true := by decide +kernel
set_option maxRecDepth 65536 in
theorem w_runnable : about1.curStatus? = some .runnable := by decide +kernel
set_option maxRecDepth 65536 in
theorem w_alone : about1.alone = true := by decide +kernel
set_option maxRecDepth 65536 in
theorem w_named : about1.methodNamed? x = some theMethod := by decide +kernel
set_option maxRecDepth 65536 in
theorem w_hears : about1.hears theMethod below0 = true := by decide +kernel
set_option maxRecDepth 65536 in
theorem w_ripe : about1.ripe theMethod args0 below0 = true := by decide +kernel
theorem w_running : about1.status = .running := rfl
set_option maxRecDepth 65536 in
theorem w_room : about1.hasRoom e0.platform room_1 = true :=
  launch0.hasRoom_least _ room_1 (by decide +kernel) (by decide +kernel) (by decide +kernel) (by decide +kernel) (by decide +kernel) (by decide +kernel)
theorem allAtoms_all (ts : List Jvm.Cond) (a : Array Jvm.Value) (st : Jvm.State) : (allAtoms ts).before a st = ts.all (fun c => c.before a st) := by
  induction ts with
  | nil => rfl
  | cons c t ih =>
    show (Jvm.Cond.and c (allAtoms t)).before a st = _
    rw [Jvm.Cond.before_and, ih, List.all_cons]
def words1 : List Jvm.Cond := Jvm.Cond.code x code maxLocals ret :: tables_1
/-- a 'code' word, met by the world's own term for the bytes: nothing is compared byte by byte -/
theorem code_word {y : MethodName} {bytes : ByteArray} {mx : Nat} {rt : Option FieldType} {a : Array Value} {s : State} {m : MethodId} {meth : Method} {c : Code} (h1 : s.methodNamed? y = some m) (h2 : s.vm.method? m = some meth) (h3 : meth.code = some c) (h4 : c.code = bytes)
    (h5 : (c.maxLocals == mx && c.exceptionTable.isEmpty && decide (c.maxStack ≤ mostOperands) && decide (meth.sig.returnType = rt) && !meth.locks && decide (parseMethodDescriptor y.desc = some meth.sig)) = true) : (Jvm.Cond.code y bytes mx rt).before a s = true := by
  simp only [Bool.and_eq_true, beq_iff_eq, Bool.not_eq_true', decide_eq_true_eq] at h5
  obtain ⟨⟨⟨⟨⟨g1, g2⟩, g3⟩, g4⟩, g5⟩, g6⟩ := h5
  simp [Cond.before, Cond.holds, Cond.value, h1, h2, h3, h4, g1, g2, g3, g4, g5, g6]
def isCode : Jvm.Cond → Bool
  | .code _ _ _ _ => true
  | _ => false
theorem all_split {L : List Jvm.Cond} {P : Jvm.Cond → Bool} (h1 : L.all (fun c => isCode c || P c) = true) (h2 : ∀ c ∈ L.filter isCode, P c = true) : L.all P = true := by
  refine List.all_eq_true.mpr fun c hc => ?_
  have h := List.all_eq_true.mp h1 c hc
  rcases Bool.eq_false_or_eq_true (isCode c) with hi | hi
  · exact h2 c (List.mem_filter.mpr ⟨hc, hi⟩)
  · simpa [hi] using h
set_option maxRecDepth 65536 in
theorem w_c0 : (Jvm.Cond.code x code maxLocals ret).before args0 about1 = true := code_word (m := ⟨1, 1⟩) (meth := k1m1) (c := k1c1) (by decide +kernel) rfl rfl rfl (by decide +kernel)
set_option maxRecDepth 65536 in
theorem w_c1 : (Jvm.Cond.code ({ cls := "com/example/antecedent/antecedent/Bm25", name := "withDefaults", desc := "()Lcom/example/antecedent/antecedent/Bm25;" } : Jvm.MethodName) prog_2_method_2_code (0 : Nat) (Option.some (Jvm.ClassFile.FieldType.object "com/example/antecedent/antecedent/Bm25"))).before args0 about1 = true := code_word (m := ⟨2, 1⟩) (meth := k2m1) (c := k2c1) (by decide +kernel) rfl rfl rfl (by decide +kernel)
set_option maxRecDepth 65536 in
theorem w_c2 : (Jvm.Cond.code ({ cls := "com/example/antecedent/antecedent/Bm25", name := "<init>", desc := "(DD)V" } : Jvm.MethodName) prog_2_method_1_code (5 : Nat) (Option.none : Option Jvm.ClassFile.FieldType)).before args0 about1 = true := code_word (m := ⟨2, 0⟩) (meth := k2m0) (c := k2c0) (by decide +kernel) rfl rfl rfl (by decide +kernel)
set_option maxRecDepth 65536 in
theorem w_c3 : (Jvm.Cond.code ({ cls := "java/lang/Object", name := "<init>", desc := "()V" } : Jvm.MethodName) object_method_1_code (1 : Nat) (Option.none : Option Jvm.ClassFile.FieldType)).before args0 about1 = true := code_word (m := ⟨0, 0⟩) (meth := k0m0) (c := k0c0) (by decide +kernel) rfl rfl rfl (by decide +kernel)
set_option maxRecDepth 65536 in
theorem w_c4 : (Jvm.Cond.code ({ cls := "com/example/antecedent/antecedent/Bm25", name := "score", desc := "(DDDD)D" } : Jvm.MethodName) prog_2_method_4_code (11 : Nat) (Option.some Jvm.ClassFile.FieldType.double)).before args0 about1 = true := code_word (m := ⟨2, 2⟩) (meth := k2m2) (c := k2c2) (by decide +kernel) rfl rfl rfl (by decide +kernel)
def codes1 : List Jvm.Cond := [Jvm.Cond.code x code maxLocals ret, Jvm.Cond.code ({ cls := "com/example/antecedent/antecedent/Bm25", name := "withDefaults", desc := "()Lcom/example/antecedent/antecedent/Bm25;" } : Jvm.MethodName) prog_2_method_2_code (0 : Nat) (Option.some (Jvm.ClassFile.FieldType.object "com/example/antecedent/antecedent/Bm25")), Jvm.Cond.code ({ cls := "com/example/antecedent/antecedent/Bm25", name := "<init>", desc := "(DD)V" } : Jvm.MethodName) prog_2_method_1_code (5 : Nat) (Option.none : Option Jvm.ClassFile.FieldType), Jvm.Cond.code ({ cls := "java/lang/Object", name := "<init>", desc := "()V" } : Jvm.MethodName) object_method_1_code (1 : Nat) (Option.none : Option Jvm.ClassFile.FieldType), Jvm.Cond.code ({ cls := "com/example/antecedent/antecedent/Bm25", name := "score", desc := "(DDDD)D" } : Jvm.MethodName) prog_2_method_4_code (11 : Nat) (Option.some Jvm.ClassFile.FieldType.double)]
set_option maxRecDepth 65536 in
theorem codes_eq : words1.filter isCode = codes1 := rfl
theorem w_codes : ∀ c ∈ words1.filter isCode, c.before args0 about1 = true := by
  rw [codes_eq]
  intro c hc
  simp only [codes1, List.mem_cons, List.not_mem_nil, or_false] at hc
  rcases hc with rfl | rfl | rfl | rfl | rfl
  · exact w_c0
  · exact w_c1
  · exact w_c2
  · exact w_c3
  · exact w_c4
set_option maxRecDepth 65536 in
theorem w_t1 : (words1.take 24).all (fun c => isCode c || c.before args0 about1) = true := by decide +kernel
set_option maxRecDepth 65536 in
theorem w_t2 : (words1.drop 24).all (fun c => isCode c || c.before args0 about1) = true := by decide +kernel
theorem w_tables : (allAtoms (Jvm.Cond.code x code maxLocals ret :: tables_1)).before args0 about1 = true := by
  rw [allAtoms_all]
  show words1.all (fun c => c.before args0 about1) = true
  refine all_split ?_ w_codes
  rw [← List.take_append_drop 24 words1, List.all_append, w_t1, w_t2]
  rfl
set_option maxRecDepth 65536 in
theorem w_case : (Jvm.Cond.and given_1 narrow_1).before args0 about1 = true := by decide +kernel
theorem w_applies : (headSpec (Jvm.Cond.code x code maxLocals ret :: tables_1) room_1).applies x e0.platform about1 = true :=
  (Spec.applies_iff w_frames).mpr ⟨w_running, w_runnable, w_alone, w_named, w_hears, w_ripe, w_room, w_tables⟩
theorem atStart : AtStart classFile x code maxLocals ret World_1 tables_1 room_1 Calls_1 rest_1 Pre_1 launch0 p0 e0 about1 theMethod args0 below0 :=
  ⟨lists_1, trivial, launch0.admits_env _ _ _, launch0.least_env, fairChoices_fair.cas, fairChoices_fair.clock, w_frames, w_args, w_heap, w_applies, trivial, trivial, w_case⟩
end start1
theorem witness_1 : WitnessClaimed_1 := ⟨start1.p0, start1.e0, start1.about1, start1.theMethod, start1.args0, start1.below0, start1.atStart⟩
end Jvm.Pilot.@@N@@
