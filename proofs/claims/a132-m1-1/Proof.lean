import JvmDerived
import JvmDerived.Pilot.@@N@@Statement
import JvmDerived.Pilot.@@N@@Code
set_option linter.unusedVariables false
set_option linter.unusedSimpArgs false
namespace Jvm.Pilot.@@N@@
open Jvm Jvm.ClassFile Sem Op Lib Jvm.Free Jvm.Stand Jvm.LawKit Jvm.RoadKit Bundle Jvm.Pilot.@@N@@.Jvm.D
/-- the road from here on ends, and G holds of its end -/
def Go (p : Program) (e : Env) (below : List Frame) (G : Outcome → State → Prop) (T : State) (g : JFrame) : Prop :=
  ∃ U o, Steps p.tables e below (T.setTop g) U ∧ U.status = .running ∧ Ended U below o ∧ G o U
/-- what a body leaves: it returned v, Q holds, the frame is kept -/
def Out (s : State) (Q : Option Value → Heap → List Loc → Prop) (C S : Nat) (o : Outcome) (U : State) : Prop :=
  ∃ v L, o = .returned v ∧ Q v U.heap L ∧ FrameEnd s o U L C S
section GoLaws
variable {p : Program} {l : Launch} {e : Env} {R : Room} {s : State} {m : MethodId} {args : Array Value} {below : List Frame} {meth : Method} {c : Code} {T T' : State} {locs : List Loc} {cells slots : Nat} {g g' : JFrame} {G : Outcome → State → Prop} {Q : Option Value → Heap → List Loc → Prop} {C S : Nat}
theorem Go.by (st : ∀ t, Steps p.tables e below (T'.setTop g') t → Steps p.tables e below (T.setTop g) t) (k : Go p e below G T' g') : Go p e below G T g := by
  obtain ⟨U, o, h, r⟩ := k
  exact ⟨U, o, st _ h, r⟩
theorem Go.tr (st : Steps p.tables e below (T.setTop g) (T'.setTop g')) (k : Go p e below G T' g') : Go p e below G T g := by
  obtain ⟨U, o, h, r⟩ := k
  exact ⟨U, o, st.trans h, r⟩
theorem Go.cast (q : g = g') (k : Go p e below G T g') : Go p e below G T g := by subst q; exact k
theorem Go.ends (X : Stand p l e R s m args below meth c T locs cells slots) {v : Option Value} (hlk : meth.locks = false) (hv : meth.sig.returnType = none → v = none)
    (st : ∀ fs, (∀ (f : JFrame) (acts : List Action), f.method = m → f.locked = none → f.entered = [] → (doReturn e (T.setTop f) acts v).1 = T.setFrames fs) → Steps p.tables e below (T.setTop g) (T.setFrames fs))
    (hQ : Q v T.heap locs) (hc : cells ≤ C) (hs : slots ≤ S) : Go p e below (Out s Q C S) T g := by
  obtain ⟨fs, hr, hrun, hended, hW, hsame⟩ := X.leave (v := v) hv hlk
  exact ⟨_, _, st fs hr, hrun, hended, _, _, rfl, hQ, ⟨_, rfl⟩, hW, hsame.mono hc hs⟩
theorem Go.ret0 (X : Stand p l e R s m args below meth c T locs cells slots) (hx : p.tables.exec = Jvm.exec) (hret : meth.sig.returnType = none) (hlk : meth.locks = false) {pc : Nat} {Ls : Array Slot} (hd : decode c.code pc = .ok (.return_, 1))
    (hQ : Q none T.heap locs) (hc : cells ≤ C) (hs : slots ≤ S) : Go p e below (Out s Q C S) T (mkF m pc Ls []) :=
  Go.ends X hlk (fun _ => rfl) (fun fs hr => X.returnOut hx hret hd hr) hQ hc hs
theorem Go.retN (X : Stand p l e R s m args below meth c T locs cells slots) (hx : p.tables.exec = Jvm.exec) {t : FieldType} (hret : meth.sig.returnType = some t) (ht : t = .boolean ∨ t = .byte ∨ t = .char ∨ t = .short) (hlk : meth.locks = false) {pc : Nat} {Ls : Array Slot} {z : Int32} {rest : List Value} (hd : decode c.code pc = .ok (.ireturn, 1))
    (hQ : Q (some (.int (nar t z))) T.heap locs) (hc : cells ≤ C) (hs : slots ≤ S) : Go p e below (Out s Q C S) T (mkF m pc Ls (.int z :: rest)) :=
  Go.ends X hlk (fun h => by rw [hret] at h; cases h) (fun fs hr => RoadKit.retN X hx hret ht hd hr) hQ hc hs
theorem Go.retI (X : Stand p l e R s m args below meth c T locs cells slots) (hx : p.tables.exec = Jvm.exec) (hret : meth.sig.returnType = some .int) (hlk : meth.locks = false) {pc : Nat} {Ls : Array Slot} {z : Int32} {rest : List Value} (hd : decode c.code pc = .ok (.ireturn, 1))
    (hQ : Q (some (.int z)) T.heap locs) (hc : cells ≤ C) (hs : slots ≤ S) : Go p e below (Out s Q C S) T (mkF m pc Ls (.int z :: rest)) :=
  Go.ends X hlk (fun h => by rw [hret] at h; cases h) (fun fs hr => retOut X hx hret rfl (Or.inl ⟨rfl, Or.inl rfl, z, rfl⟩) hd hr) hQ hc hs
theorem Go.retL (X : Stand p l e R s m args below meth c T locs cells slots) (hx : p.tables.exec = Jvm.exec) (hret : meth.sig.returnType = some .long) (hlk : meth.locks = false) {pc : Nat} {Ls : Array Slot} {z : Int64} {rest : List Value} (hd : decode c.code pc = .ok (.lreturn, 1))
    (hQ : Q (some (.long z)) T.heap locs) (hc : cells ≤ C) (hs : slots ≤ S) : Go p e below (Out s Q C S) T (mkF m pc Ls (.long z :: rest)) :=
  Go.ends X hlk (fun h => by rw [hret] at h; cases h) (fun fs hr => retOut X hx hret rfl (Or.inr (Or.inl ⟨rfl, rfl, z, rfl⟩)) hd hr) hQ hc hs
theorem Go.retD (X : Stand p l e R s m args below meth c T locs cells slots) (hx : p.tables.exec = Jvm.exec) (hret : meth.sig.returnType = some .double) (hlk : meth.locks = false) {pc : Nat} {Ls : Array Slot} {z : UInt64} {rest : List Value} (hd : decode c.code pc = .ok (.dreturn, 1))
    (hQ : Q (some (.double z)) T.heap locs) (hc : cells ≤ C) (hs : slots ≤ S) : Go p e below (Out s Q C S) T (mkF m pc Ls (.double z :: rest)) :=
  Go.ends X hlk (fun h => by rw [hret] at h; cases h) (fun fs hr => retOut X hx hret rfl (Or.inr (Or.inr (Or.inl ⟨rfl, rfl, z, rfl⟩))) hd hr) hQ hc hs
theorem Go.retR (X : Stand p l e R s m args below meth c T locs cells slots) (hx : p.tables.exec = Jvm.exec) {t : FieldType} {w : Value} (hret : meth.sig.returnType = some t) (hn : narrow t w = w) (ht : t.isReference = true) (hw : w.isRef = true) (hlk : meth.locks = false) {pc : Nat} {Ls : Array Slot} {rest : List Value} (hd : decode c.code pc = .ok (.areturn, 1))
    (hQ : Q (some w) T.heap locs) (hc : cells ≤ C) (hs : slots ≤ S) : Go p e below (Out s Q C S) T (mkF m pc Ls (w :: rest)) :=
  Go.ends X hlk (fun h => by rw [hret] at h; cases h) (fun fs hr => retOut X hx hret hn (Or.inr (Or.inr (Or.inr (Or.inr ⟨rfl, ht, hw⟩)))) hd hr) hQ hc hs
theorem Stand_grow {cells' slots' : Nat} (X : Stand p l e R s m args below meth c T locs cells slots) (hc : cells ≤ cells') (hs : slots ≤ slots') : Stand p l e R s m args below meth c T locs cells' slots' :=
  { X with same := X.same.mono hc hs }
end GoLaws
theorem ne_arv {Z : State} {h : Heap} {a b : Addr} {C : String} {a0 : Array Value} {k : Nat} {kc : ClassId} {ty : FieldType} {z : Int32} {vs : List Value} {dv : Value} (F : Exa Z h a C) (wi : (Jvm.Cond.instantiable C k).before a0 Z = true) (G : Arv Z h b kc ty z vs dv) : a ≠ b := by
  obtain ⟨c, A, -⟩ := G
  exact ne_arr F wi A
theorem chars_lo (x : Int32) : ¬ nar .char ((x &&& (255 : Int32)).toUInt32.toUInt16.toUInt32.toInt32) < 0 ∧ ¬ (255 : Int32) < nar .char ((x &&& (255 : Int32)).toUInt32.toUInt16.toUInt32.toInt32) := by
  have t : ∀ k : Fin 256, ¬ nar .char ((Int32.ofNat k.val).toUInt32.toUInt16.toUInt32.toInt32) < 0 ∧ ¬ (255 : Int32) < nar .char ((Int32.ofNat k.val).toUInt32.toUInt16.toUInt32.toInt32) := by decide +kernel
  have h : (x &&& 255).toBitVec.toNat < 256 := by
    simp only [Int32.toBitVec_and, BitVec.toNat_and]
    exact Nat.lt_succ_of_le Nat.and_le_right
  have e : (x &&& 255) = Int32.ofNat (x &&& 255).toBitVec.toNat := by
    apply Int32.toBitVec_inj.mp
    show _ = BitVec.ofNat 32 _
    rw [BitVec.ofNat_toNat]; simp
  rw [e]
  exact t ⟨_, h⟩

def In (K : Int) (a : Int64) : Prop := 0 ≤ a.toInt ∧ a.toInt ≤ K
theorem In.b {K : Int} {a : Int64} (h : In K a) (hK : K < 9007199254740992) : B53 a := ⟨by have := h.1; omega, Int.lt_of_le_of_lt h.2 hK⟩
theorem In.add {A B : Int} {a b : Int64} (ha : In A a) (hb : In B b) (hA : A < 9007199254740992) (hB : B < 9007199254740992) : In (A + B) (a + b) := by
  have q := add64 (ha.b hA) (hb.b hB)
  exact ⟨by rw [q]; exact Int.add_nonneg ha.1 hb.1, by rw [q]; exact Int.add_le_add ha.2 hb.2⟩
theorem in_zero : In 0 (0 : Int64) := ⟨by decide, by decide⟩
def Sm (K : Int) (x : Int32) : Prop := 0 ≤ x.toInt ∧ x.toInt ≤ K
theorem Sm.l {K : Int} {x : Int32} (h : Sm K x) : In K x.toInt64 := ⟨by rw [c_i2l]; exact h.1, by rw [c_i2l]; exact h.2⟩
def okZ (w s k : Int) : Prop := 0 < s ∧ k * w ≤ s
instance (w s k : Int) : Decidable (okZ w s k) := by unfold okZ; exact inferInstance
def lhZ (w0 w1 w2 w3 k : Int) : Int32 := if k ≤ 4 ∧ okZ w0 (w3 + w2 + w1 + w0) k then 0 else if k ≤ 3 ∧ okZ w1 (w3 + w2 + w1) k then 1 else if k ≤ 2 ∧ okZ w2 (w3 + w2) k then 2 else if k ≤ 1 ∧ okZ w3 w3 k then 3 else -1
theorem sub4 {k : Int32} (hk : 1 ≤ k.toInt ∧ k.toInt ≤ 8) : ((4 : Int32) - k).toInt = 4 - k.toInt := by
  have h := c_isub (4 : Int32) k; have e4 : (4 : Int32).toInt = 4 := by decide
  have r := rng32 ((4 : Int32) - k); rw [e4] at h; omega
theorem lt4 {k h : Int32} (hk : 1 ≤ k.toInt ∧ k.toInt ≤ 8) : ((4 : Int32) - k) < h ↔ 4 - k.toInt < h.toInt := by rw [Int32.lt_iff_toInt_lt, sub4 hk]
theorem pos64 (s : Int64) : (0 : Int32) < lcmpW s (0 : Int64) ↔ 0 < s.toInt := by rw [lw_gt, Int64.lt_iff_toInt_lt]; rfl
theorem gt64 (a s : Int64) : (0 : Int32) < lcmpW a s ↔ s.toInt < a.toInt := by rw [lw_gt, Int64.lt_iff_toInt_lt]
theorem mul64 {k w : Int32} (hk : 1 ≤ k.toInt ∧ k.toInt ≤ 8) (hw : Sm 15 w) : (k.toInt64 * w.toInt64).toInt = k.toInt * w.toInt := by
  have h := c_lmul k.toInt64 w.toInt64; rw [c_i2l, c_i2l] at h
  have r := rng64 (k.toInt64 * w.toInt64)
  have m1 : 0 ≤ k.toInt * w.toInt := Int.mul_nonneg (by omega) hw.1
  have m2 : k.toInt * w.toInt ≤ 8 * 15 := Int.mul_le_mul hk.2 hw.2 hw.1 (by decide)
  omega
theorem dm {k w : Int32} (hk : 1 ≤ k.toInt ∧ k.toInt ≤ 8) (hw : Sm 15 w) : FP.dmul (FP.l2d k.toInt64) (FP.l2d w.toInt64) = FP.l2d (k.toInt64 * w.toInt64) :=
  dmul_k (A := 8) (B := 15) (by rw [c_i2l]; omega) (by rw [c_i2l]; exact hk.2) (by rw [c_i2l]; have := hw.1; omega) (by rw [c_i2l]; exact hw.2) (by decide) (by decide) (by decide)
    (fun q => by have h1 := hk.1; have h2 := c_i2l k; rw [q.1] at h2; have e : (0 : Int64).toInt = 0 := by decide
                 omega) (fun q => by have h1 := q.2; rw [Int64.lt_iff_toInt_lt, c_i2l] at h1; have e : (0 : Int64).toInt = 0 := by decide
                                     omega)
theorem inm {k w : Int32} (hk : 1 ≤ k.toInt ∧ k.toInt ≤ 8) (hw : Sm 15 w) : In 120 (k.toInt64 * w.toInt64) := by
  have h := mul64 hk hw
  exact ⟨by rw [h]; exact Int.mul_nonneg (by omega) hw.1, by rw [h]; exact Int.mul_le_mul hk.2 hw.2 hw.1 (by decide)⟩
theorem ladd {a b : Int64} {A B : Int} (ha : In A a) (hb : In B b) (hA : A < 9007199254740992) (hB : B < 9007199254740992) : (a + b).toInt = a.toInt + b.toInt := add64 (ha.b hA) (hb.b hB)
theorem Sm.add {A B : Int} {x y : Int32} (hx : Sm A x) (hy : Sm B y) (hAB : A + B < 2147483648) : (x + y).toInt = x.toInt + y.toInt := by
  have h := c_iadd x y; have r := rng32 (x + y); have := hx.1; have := hx.2; have := hy.1; have := hy.2; omega
theorem Sm.mul {w k : Int32} (hk : 1 ≤ k.toInt ∧ k.toInt ≤ 8) (hw : Sm 15 w) : (k * w).toInt = k.toInt * w.toInt := by
  have h := c_imul k w; have r := rng32 (k * w)
  have m1 : 0 ≤ k.toInt * w.toInt := Int.mul_nonneg (by omega) hw.1
  have m2 : k.toInt * w.toInt ≤ 8 * 15 := Int.mul_le_mul hk.2 hw.2 hw.1 (by decide)
  omega
theorem sm_mask (x : Int32) : Sm 15 (x &&& (15 : Int32)) := c_and x (15 : Int32) (by decide)
theorem k_mask (x : Int32) : 1 ≤ ((x &&& (7 : Int32)) + (1 : Int32)).toInt ∧ ((x &&& (7 : Int32)) + (1 : Int32)).toInt ≤ 8 := by
  have h := c_and x (7 : Int32) (by decide); have e7 : (7 : Int32).toInt = 7 := by decide
  have e1 : (1 : Int32).toInt = 1 := by decide
  have q := c_iadd (x &&& (7 : Int32)) (1 : Int32); have r := rng32 ((x &&& (7 : Int32)) + (1 : Int32)); rw [e7] at h; rw [e1] at q; omega
abbrev HW (a0 : Array Value) (Z : State) : Prop := ∀ d ∈ tables_1, d.before a0 Z = true
theorem ow0 {a0 : Array Value} {Z : State} (hw : HW a0 Z) : (Jvm.Cond.arrayClass Jvm.ClassFile.FieldType.double).before a0 Z = true := hw _ (List.mem_of_getElem? (i := 0) rfl)
theorem ow1 {a0 : Array Value} {Z : State} (hw : HW a0 Z) : (Jvm.Cond.methodLink "com/example/shardpick/shardpick/generate/TopicModelLargestHeadPinLaw" (7 : Nat) ({ cls := "com/example/shardpick/shardpick/generate/TopicModel", name := "largestHead", desc := "([DI)I" } : Jvm.MethodName)).before a0 Z = true := hw _ (List.mem_of_getElem? (i := 1) rfl)
theorem ow2 {a0 : Array Value} {Z : State} (hw : HW a0 Z) : (Jvm.Cond.static ({ cls := "com/example/shardpick/shardpick/generate/TopicModel", name := "largestHead", desc := "([DI)I" } : Jvm.MethodName)).before a0 Z = true := hw _ (List.mem_of_getElem? (i := 2) rfl)
theorem ow3 {a0 : Array Value} {Z : State} (hw : HW a0 Z) : (Jvm.Cond.initialized "com/example/shardpick/shardpick/generate/TopicModel").before a0 Z = true := hw _ (List.mem_of_getElem? (i := 3) rfl)
theorem ow4 {a0 : Array Value} {Z : State} (hw : HW a0 Z) : (Jvm.Cond.code ({ cls := "com/example/shardpick/shardpick/generate/TopicModel", name := "largestHead", desc := "([DI)I" } : Jvm.MethodName) prog_21_method_2_code (4 : Nat) (Option.some Jvm.ClassFile.FieldType.int)).before a0 Z = true := hw _ (List.mem_of_getElem? (i := 4) rfl)
theorem ow5 {a0 : Array Value} {Z : State} (hw : HW a0 Z) : (Jvm.Cond.methodLink "com/example/shardpick/shardpick/generate/TopicModelLargestHeadPinLaw" (13 : Nat) ({ cls := "com/example/shardpick/shardpick/generate/TopicModelLargestHeadPinLaw", name := "ok", desc := "(III)Z" } : Jvm.MethodName)).before a0 Z = true := hw _ (List.mem_of_getElem? (i := 5) rfl)
theorem ow6 {a0 : Array Value} {Z : State} (hw : HW a0 Z) : (Jvm.Cond.static ({ cls := "com/example/shardpick/shardpick/generate/TopicModelLargestHeadPinLaw", name := "ok", desc := "(III)Z" } : Jvm.MethodName)).before a0 Z = true := hw _ (List.mem_of_getElem? (i := 6) rfl)
theorem ow7 {a0 : Array Value} {Z : State} (hw : HW a0 Z) : (Jvm.Cond.initialized "com/example/shardpick/shardpick/generate/TopicModelLargestHeadPinLaw").before a0 Z = true := hw _ (List.mem_of_getElem? (i := 7) rfl)
theorem ow8 {a0 : Array Value} {Z : State} (hw : HW a0 Z) : (Jvm.Cond.code ({ cls := "com/example/shardpick/shardpick/generate/TopicModelLargestHeadPinLaw", name := "ok", desc := "(III)Z" } : Jvm.MethodName) method_3_code (3 : Nat) (Option.some Jvm.ClassFile.FieldType.boolean)).before a0 Z = true := hw _ (List.mem_of_getElem? (i := 8) rfl)
theorem od_m_3_0 : decode method_3_code 0 = .ok (.iload_n 1, 1) := by decide +kernel
theorem od_m_3_1 : decode method_3_code 1 = .ok (.ifCond .le 14, 3) := by decide +kernel
theorem od_m_3_4 : decode method_3_code 4 = .ok (.iload_n 2, 1) := by decide +kernel
theorem od_m_3_5 : decode method_3_code 5 = .ok (.iload_n 0, 1) := by decide +kernel
theorem od_m_3_6 : decode method_3_code 6 = .ok (.imul, 1) := by decide +kernel
theorem od_m_3_7 : decode method_3_code 7 = .ok (.iload_n 1, 1) := by decide +kernel
theorem od_m_3_8 : decode method_3_code 8 = .ok (.if_icmp .gt 7, 3) := by decide +kernel
theorem od_m_3_11 : decode method_3_code 11 = .ok (.iconst 1, 1) := by decide +kernel
theorem od_m_3_12 : decode method_3_code 12 = .ok (.goto 4, 3) := by decide +kernel
theorem od_m_3_15 : decode method_3_code 15 = .ok (.iconst 0, 1) := by decide +kernel
theorem od_m_3_16 : decode method_3_code 16 = .ok (.ireturn, 1) := by decide +kernel
theorem od_prog_21_m_2_0 : decode prog_21_method_2_code 0 = .ok (.aload_n 0, 1) := by decide +kernel
theorem od_prog_21_m_2_1 : decode prog_21_method_2_code 1 = .ok (.arraylength, 1) := by decide +kernel
theorem od_prog_21_m_2_2 : decode prog_21_method_2_code 2 = .ok (.iconst 1, 1) := by decide +kernel
theorem od_prog_21_m_2_3 : decode prog_21_method_2_code 3 = .ok (.iadd, 1) := by decide +kernel
theorem od_prog_21_m_2_4 : decode prog_21_method_2_code 4 = .ok (.newarray .double, 2) := by decide +kernel
theorem od_prog_21_m_2_6 : decode prog_21_method_2_code 6 = .ok (.astore_n 2, 1) := by decide +kernel
theorem od_prog_21_m_2_7 : decode prog_21_method_2_code 7 = .ok (.aload_n 0, 1) := by decide +kernel
theorem od_prog_21_m_2_8 : decode prog_21_method_2_code 8 = .ok (.arraylength, 1) := by decide +kernel
theorem od_prog_21_m_2_9 : decode prog_21_method_2_code 9 = .ok (.iconst 1, 1) := by decide +kernel
theorem od_prog_21_m_2_10 : decode prog_21_method_2_code 10 = .ok (.isub, 1) := by decide +kernel
theorem od_prog_21_m_2_11 : decode prog_21_method_2_code 11 = .ok (.istore_n 3, 1) := by decide +kernel
theorem od_prog_21_m_2_12 : decode prog_21_method_2_code 12 = .ok (.iload_n 3, 1) := by decide +kernel
theorem od_prog_21_m_2_13 : decode prog_21_method_2_code 13 = .ok (.ifCond .lt 21, 3) := by decide +kernel
theorem od_prog_21_m_2_16 : decode prog_21_method_2_code 16 = .ok (.aload_n 2, 1) := by decide +kernel
theorem od_prog_21_m_2_17 : decode prog_21_method_2_code 17 = .ok (.iload_n 3, 1) := by decide +kernel
theorem od_prog_21_m_2_18 : decode prog_21_method_2_code 18 = .ok (.aload_n 2, 1) := by decide +kernel
theorem od_prog_21_m_2_19 : decode prog_21_method_2_code 19 = .ok (.iload_n 3, 1) := by decide +kernel
theorem od_prog_21_m_2_20 : decode prog_21_method_2_code 20 = .ok (.iconst 1, 1) := by decide +kernel
theorem od_prog_21_m_2_21 : decode prog_21_method_2_code 21 = .ok (.iadd, 1) := by decide +kernel
theorem od_prog_21_m_2_22 : decode prog_21_method_2_code 22 = .ok (.daload, 1) := by decide +kernel
theorem od_prog_21_m_2_23 : decode prog_21_method_2_code 23 = .ok (.aload_n 0, 1) := by decide +kernel
theorem od_prog_21_m_2_24 : decode prog_21_method_2_code 24 = .ok (.iload_n 3, 1) := by decide +kernel
theorem od_prog_21_m_2_25 : decode prog_21_method_2_code 25 = .ok (.daload, 1) := by decide +kernel
theorem od_prog_21_m_2_26 : decode prog_21_method_2_code 26 = .ok (.dadd, 1) := by decide +kernel
theorem od_prog_21_m_2_27 : decode prog_21_method_2_code 27 = .ok (.dastore, 1) := by decide +kernel
theorem od_prog_21_m_2_28 : decode prog_21_method_2_code 28 = .ok (.iinc 3 (-1), 3) := by decide +kernel
theorem od_prog_21_m_2_31 : decode prog_21_method_2_code 31 = .ok (.goto (-19), 3) := by decide +kernel
theorem od_prog_21_m_2_34 : decode prog_21_method_2_code 34 = .ok (.iconst 0, 1) := by decide +kernel
theorem od_prog_21_m_2_35 : decode prog_21_method_2_code 35 = .ok (.istore_n 3, 1) := by decide +kernel
theorem od_prog_21_m_2_36 : decode prog_21_method_2_code 36 = .ok (.iload_n 3, 1) := by decide +kernel
theorem od_prog_21_m_2_37 : decode prog_21_method_2_code 37 = .ok (.aload_n 0, 1) := by decide +kernel
theorem od_prog_21_m_2_38 : decode prog_21_method_2_code 38 = .ok (.arraylength, 1) := by decide +kernel
theorem od_prog_21_m_2_39 : decode prog_21_method_2_code 39 = .ok (.iload_n 1, 1) := by decide +kernel
theorem od_prog_21_m_2_40 : decode prog_21_method_2_code 40 = .ok (.isub, 1) := by decide +kernel
theorem od_prog_21_m_2_41 : decode prog_21_method_2_code 41 = .ok (.if_icmp .gt 32, 3) := by decide +kernel
theorem od_prog_21_m_2_44 : decode prog_21_method_2_code 44 = .ok (.aload_n 2, 1) := by decide +kernel
theorem od_prog_21_m_2_45 : decode prog_21_method_2_code 45 = .ok (.iload_n 3, 1) := by decide +kernel
theorem od_prog_21_m_2_46 : decode prog_21_method_2_code 46 = .ok (.daload, 1) := by decide +kernel
theorem od_prog_21_m_2_47 : decode prog_21_method_2_code 47 = .ok (.dconst 0, 1) := by decide +kernel
theorem od_prog_21_m_2_48 : decode prog_21_method_2_code 48 = .ok (.dcmp .l, 1) := by decide +kernel
theorem od_prog_21_m_2_49 : decode prog_21_method_2_code 49 = .ok (.ifCond .le 18, 3) := by decide +kernel
theorem od_prog_21_m_2_52 : decode prog_21_method_2_code 52 = .ok (.iload_n 1, 1) := by decide +kernel
theorem od_prog_21_m_2_53 : decode prog_21_method_2_code 53 = .ok (.i2d, 1) := by decide +kernel
theorem od_prog_21_m_2_54 : decode prog_21_method_2_code 54 = .ok (.aload_n 0, 1) := by decide +kernel
theorem od_prog_21_m_2_55 : decode prog_21_method_2_code 55 = .ok (.iload_n 3, 1) := by decide +kernel
theorem od_prog_21_m_2_56 : decode prog_21_method_2_code 56 = .ok (.daload, 1) := by decide +kernel
theorem od_prog_21_m_2_57 : decode prog_21_method_2_code 57 = .ok (.dmul, 1) := by decide +kernel
theorem od_prog_21_m_2_58 : decode prog_21_method_2_code 58 = .ok (.aload_n 2, 1) := by decide +kernel
theorem od_prog_21_m_2_59 : decode prog_21_method_2_code 59 = .ok (.iload_n 3, 1) := by decide +kernel
theorem od_prog_21_m_2_60 : decode prog_21_method_2_code 60 = .ok (.daload, 1) := by decide +kernel
theorem od_prog_21_m_2_61 : decode prog_21_method_2_code 61 = .ok (.dcmp .g, 1) := by decide +kernel
theorem od_prog_21_m_2_62 : decode prog_21_method_2_code 62 = .ok (.ifCond .gt 5, 3) := by decide +kernel
theorem od_prog_21_m_2_65 : decode prog_21_method_2_code 65 = .ok (.iload_n 3, 1) := by decide +kernel
theorem od_prog_21_m_2_66 : decode prog_21_method_2_code 66 = .ok (.ireturn, 1) := by decide +kernel
theorem od_prog_21_m_2_67 : decode prog_21_method_2_code 67 = .ok (.iinc 3 1, 3) := by decide +kernel
theorem od_prog_21_m_2_70 : decode prog_21_method_2_code 70 = .ok (.goto (-34), 3) := by decide +kernel
theorem od_prog_21_m_2_73 : decode prog_21_method_2_code 73 = .ok (.iconst (-1), 1) := by decide +kernel
theorem od_prog_21_m_2_74 : decode prog_21_method_2_code 74 = .ok (.ireturn, 1) := by decide +kernel
theorem opd_0 : parseMethodDescriptor "([DI)I" = some ⟨[(.array .double), .int], some .int⟩ := by decide +kernel
theorem opd_1 : parseMethodDescriptor "(III)Z" = some ⟨[.int, .int, .int], some .boolean⟩ := by decide +kernel
theorem opn_0 : plainName "com/example/shardpick/shardpick/generate/TopicModel" = true := by first | (simp [plainName, overriddenIn]; done) | decide +kernel
theorem opn_1 : plainName "com/example/shardpick/shardpick/generate/TopicModelLargestHeadPinLaw" = true := by first | (simp [plainName, overriddenIn]; done) | decide +kernel
theorem oef_lh (m : MethodId) (x0 : Addr) (x1 : Int32) : entryFrame m #[(.ref x0), (.int x1)] 4 = mkF m 0 #[.val (.ref x0), .val (.int x1), .unset, .unset] [] := by first | (simp [entryFrame, mkF, argsToLocals, Value.category, maxLocals]; done) | rfl
theorem oef_ok (m : MethodId) (x0 : Int32) (x1 : Int32) (x2 : Int32) : entryFrame m #[(.int x0), (.int x1), (.int x2)] 3 = mkF m 0 #[.val (.int x0), .val (.int x1), .val (.int x2)] [] := by first | (simp [entryFrame, mkF, argsToLocals, Value.category, maxLocals]; done) | rfl
theorem oef_law (m : MethodId) (x0 : Int32) (x1 : Int32) (x2 : Int32) (x3 : Int32) (x4 : Int32) : entryFrame m #[(.int x0), (.int x1), (.int x2), (.int x3), (.int x4)] maxLocals = mkF m 0 #[.val (.int x0), .val (.int x1), .val (.int x2), .val (.int x3), .val (.int x4), .unset, .unset, .unset, .unset, .unset, .unset, .unset, .unset, .unset, .unset, .unset, .unset, .unset] [] := by first | (simp [entryFrame, mkF, argsToLocals, Value.category, maxLocals]; done) | rfl
def Q_lh (Z : State) (a1 : Addr) (k1 : ClassId) (w0 : Int32) (w1 : Int32) (w2 : Int32) (w3 : Int32) (kk : Int32) (h0 : Heap) (n0 : Nat) (v : Option Value) (h : Heap) (L : List Loc) : Prop := ∃ r : Int32, v = some (.int r) ∧ Fr n0 L ∧ Keep h0 h [] ∧ (r = lhZ w0.toInt w1.toInt w2.toInt w3.toInt kk.toInt)
set_option maxRecDepth 65536 in
set_option maxHeartbeats 40000000 in
theorem rm_lh (l : Launch) (Z : State) (a0 : Array Value) (hw : HW a0 Z) (ws : List Jvm.Cond) (a1 : Addr) (k1 : ClassId) (w0 : Int32) (w1 : Int32) (w2 : Int32) (w3 : Int32) (kk : Int32) (h0 : Heap) (n0 : Nat) (Z0 : n0 ≤ h0.size) (V1 : Arv Z h0 a1 k1 .double (4 : Int32) ([(.double (FP.l2d w0.toInt64)), (.double (FP.l2d w1.toInt64)), (.double (FP.l2d w2.toInt64)), (.double (FP.l2d w3.toInt64))]) (.double (FP.l2d 0))) (B0 : Sm 15 w0) (B1 : Sm 15 w1) (B2 : Sm 15 w2) (B3 : Sm 15 w3) (BK : 1 ≤ kk.toInt ∧ kk.toInt ≤ 8) :
    MetFree l (⟨"com/example/shardpick/shardpick/generate/TopicModel", "largestHead", "([DI)I"⟩ : MethodName) (head1 (Jvm.Cond.code (⟨"com/example/shardpick/shardpick/generate/TopicModel", "largestHead", "([DI)I"⟩ : MethodName) prog_21_method_2_code 4 (Option.some Jvm.ClassFile.FieldType.int) :: ws) ({ frames := 0, cells := 1, slots := 5, locals := 0 } : Room)) (fun a U => a = #[(.ref a1), (.int kk)] ∧ Z.Warmed39 U.vm ∧ U.heap = h0) (fun _ _ _ _ _ => True) (fun _ U o U' => Out U (Q_lh Z a1 k1 w0 w1 w2 w3 kk h0 n0) ({ frames := 0, cells := 1, slots := 5, locals := 0 } : Room).cells ({ frames := 0, cells := 1, slots := 5, locals := 0 } : Room).slots o U') := by
  refine MetFree.of_bodySF (plainFor_of_name opn_0) hisR ?_
  intro p e s m args below meth c s₁ Bd hml0 hP hK
  obtain ⟨rfl, hZ, hh⟩ := hP
  have hx := Bd.exec
  have hby := Bd.bytes
  have hml : c.maxLocals = 4 := hml0
  have hret := Bd.returns
  have hlk : meth.locks = false := BodyLoose.notSynchronized Bd
  have hown : s.vm.findClass "com/example/shardpick/shardpick/generate/TopicModel" = some m.cls := findClass_of_methodNamed Bd.named
  have hnm := (name_of_methodNamed Bd.named Bd.method).1
  have X0 : Stand p l e ({ frames := 0, cells := 1, slots := 5, locals := 0 } : Room) s m #[(.ref a1), (.int kk)] below meth c s₁ [] 0 0 := Stand.of_body Bd
  have e0 : s₁.heap = h0 := by rw [← hh, Bd.state]; rfl
  have N0 := Fr.nil n0
  have K0 : Keep h0 h0 [] := Keep.refl h0 _
  show Go p e below (Out s (Q_lh Z a1 k1 w0 w1 w2 w3 kk h0 n0) ({ frames := 0, cells := 1, slots := 5, locals := 0 } : Room).cells ({ frames := 0, cells := 1, slots := 5, locals := 0 } : Room).slots) s₁ (entryFrame m #[(.ref a1), (.int kk)] 4)
  refine Go.cast (oef_lh m a1 kk) ?_
  show Go p e below _ s₁ (mkF m 0 #[.val (.ref a1), .val (.int kk), .unset, .unset] [])
  refine Go.by (fun t k => XS.aloadN X0.here hx rfl (hb hby od_prog_21_m_2_0) rfl rfl k) ?_
  show Go p e below _ s₁ (mkF m 1 #[.val (.ref a1), .val (.int kk), .unset, .unset] [(.ref a1)])
  obtain ⟨c101, A101, q101, S101, M101, G101, J101⟩ := id V1
  have l101 := len_of S101 M101
  refine Go.by (X0.arraylength hx (by rw [e0]; exact A101.1) (State.isArrayOf_alike hZ.alike A101.2.1) (g := (mkF m 1 #[.val (.ref a1), .val (.int kk), .unset, .unset] [(.ref a1)])) rfl rfl (hb hby od_prog_21_m_2_1)) ?_
  rw [l101]
  show Go p e below _ s₁ (mkF m 2 #[.val (.ref a1), .val (.int kk), .unset, .unset] [(.int (4 : Int32))])
  refine Go.by (fun t k => XS.iconst X0.here hx rfl (hb hby od_prog_21_m_2_2) (XS.iadd X0.here hx rfl (hb hby od_prog_21_m_2_3) rfl k)) ?_
  show Go p e below _ s₁ (mkF m 4 #[.val (.ref a1), .val (.int kk), .unset, .unset] [(.int (5 : Int32))])
  obtain ⟨T102, h102, k102, X102, e102, E102, A102, st102⟩ := newP X0 hx hZ (aty := .double) (ow0 hw) e0 (g := (mkF m 4 #[.val (.ref a1), .val (.int kk), .unset, .unset] [(.int (5 : Int32))])) rfl (hb hby od_prog_21_m_2_4) rfl (by decide) (cap := 5) (by decide) (by decide) (by decide) (by decide)
  obtain ⟨b102, g102⟩ : ∃ z, z = h0.size := ⟨_, rfl⟩
  rw [← g102] at A102 st102
  refine Go.by st102 ?_
  have K103 : Keep h0 h102 [] := K0.ext E102
  show Go p e below _ T102 (mkF m 6 #[.val (.ref a1), .val (.int kk), .unset, .unset] [(.ref b102)])
  have V102 : Arv Z h102 b102 k102 .double (5 : Int32) [(.double (FP.l2d 0)), (.double (FP.l2d 0)), (.double (FP.l2d 0)), (.double (FP.l2d 0)), (.double (FP.l2d 0))] (.double (FP.l2d 0)) := (Arv.newD A102 (by decide)).pad (pad_rep [] (.double (FP.l2d 0)) 5)
  refine Go.by (fun t k => XS.astoreN X102.here hx rfl (hb hby od_prog_21_m_2_6) rfl rfl (l' := #[.val (.ref a1), .val (.int kk), .val (.ref b102), .unset]) rfl (XS.aloadN X102.here hx rfl (hb hby od_prog_21_m_2_7) rfl rfl k)) ?_
  show Go p e below _ T102 (mkF m 8 #[.val (.ref a1), .val (.int kk), .val (.ref b102), .unset] [(.ref a1)])
  have F105 : Arv Z h102 a1 k1 .double (4 : Int32) ([(.double (FP.l2d w0.toInt64)), (.double (FP.l2d w1.toInt64)), (.double (FP.l2d w2.toInt64)), (.double (FP.l2d w3.toInt64))]) (.double (FP.l2d 0)) := (V1.ext E102)
  obtain ⟨c104, A104, q104, S104, M104, G104, J104⟩ := id F105
  have l104 := len_of S104 M104
  refine Go.by (X102.arraylength hx (by rw [e102]; exact A104.1) (State.isArrayOf_alike hZ.alike A104.2.1) (g := (mkF m 8 #[.val (.ref a1), .val (.int kk), .val (.ref b102), .unset] [(.ref a1)])) rfl rfl (hb hby od_prog_21_m_2_8)) ?_
  rw [l104]
  show Go p e below _ T102 (mkF m 9 #[.val (.ref a1), .val (.int kk), .val (.ref b102), .unset] [(.int (4 : Int32))])
  refine Go.by (fun t k => XS.iconst X102.here hx rfl (hb hby od_prog_21_m_2_9) (XS.isub X102.here hx rfl (hb hby od_prog_21_m_2_10) rfl (XS.istoreN X102.here hx rfl (hb hby od_prog_21_m_2_11) rfl (l' := #[.val (.ref a1), .val (.int kk), .val (.ref b102), .val (.int (3 : Int32))]) rfl (XS.iloadN X102.here hx rfl (hb hby od_prog_21_m_2_12) rfl k)))) ?_
  show Go p e below _ T102 (mkF m 13 #[.val (.ref a1), .val (.int kk), .val (.ref b102), .val (.int (3 : Int32))] [(.int (3 : Int32))])
  refine Go.by (fun t k => XS.ifNo X102.here hx rfl (hb hby od_prog_21_m_2_13) rfl ((if0 _ _).trans (flt (show ¬ ((3 : Int32) < (0 : Int32)) from (by decide))).1) k) ?_
  show Go p e below _ T102 (mkF m 16 #[.val (.ref a1), .val (.int kk), .val (.ref b102), .val (.int (3 : Int32))] [])
  refine Go.by (fun t k => XS.aloadN X102.here hx rfl (hb hby od_prog_21_m_2_16) rfl rfl (XS.iloadN X102.here hx rfl (hb hby od_prog_21_m_2_17) rfl (XS.aloadN X102.here hx rfl (hb hby od_prog_21_m_2_18) rfl rfl (XS.iloadN X102.here hx rfl (hb hby od_prog_21_m_2_19) rfl k)))) ?_
  show Go p e below _ T102 (mkF m 20 #[.val (.ref a1), .val (.int kk), .val (.ref b102), .val (.int (3 : Int32))] [(.int (3 : Int32)), (.ref b102), (.int (3 : Int32)), (.ref b102)])
  refine Go.by (fun t k => XS.iconst X102.here hx rfl (hb hby od_prog_21_m_2_20) (XS.iadd X102.here hx rfl (hb hby od_prog_21_m_2_21) rfl k)) ?_
  show Go p e below _ T102 (mkF m 22 #[.val (.ref a1), .val (.int kk), .val (.ref b102), .val (.int (3 : Int32))] [(.int (4 : Int32)), (.ref b102), (.int (3 : Int32)), (.ref b102)])
  have J4 : In 0 (0 : Int64) := in_zero
  obtain ⟨c106, A106, q106, S106, M106, G106, J106⟩ := id V102
  have i106 := inb_of S106 (j := (4 : Int32)) ⟨by decide, by decide⟩
  refine Go.by (X102.daload hx (j := (4 : Int32)) (v := (.double (FP.l2d 0))) (by rw [e102]; exact A106.1) (State.isArrayOf_alike hZ.alike A106.2.1) A106.2.2 i106 (G106.at i106 rfl) (g := (mkF m 22 #[.val (.ref a1), .val (.int kk), .val (.ref b102), .val (.int (3 : Int32))] [(.int (4 : Int32)), (.ref b102), (.int (3 : Int32)), (.ref b102)])) rfl rfl (hb hby od_prog_21_m_2_22)) ?_
  show Go p e below _ T102 (mkF m 23 #[.val (.ref a1), .val (.int kk), .val (.ref b102), .val (.int (3 : Int32))] [(.double (FP.l2d 0)), (.int (3 : Int32)), (.ref b102)])
  refine Go.by (fun t k => XS.aloadN X102.here hx rfl (hb hby od_prog_21_m_2_23) rfl rfl (XS.iloadN X102.here hx rfl (hb hby od_prog_21_m_2_24) rfl k)) ?_
  show Go p e below _ T102 (mkF m 25 #[.val (.ref a1), .val (.int kk), .val (.ref b102), .val (.int (3 : Int32))] [(.int (3 : Int32)), (.ref a1), (.double (FP.l2d 0)), (.int (3 : Int32)), (.ref b102)])
  obtain ⟨c107, A107, q107, S107, M107, G107, J107⟩ := id F105
  have i107 := inb_of S107 (j := (3 : Int32)) ⟨by decide, by decide⟩
  refine Go.by (X102.daload hx (j := (3 : Int32)) (v := (.double (FP.l2d w3.toInt64))) (by rw [e102]; exact A107.1) (State.isArrayOf_alike hZ.alike A107.2.1) A107.2.2 i107 (G107.at i107 rfl) (g := (mkF m 25 #[.val (.ref a1), .val (.int kk), .val (.ref b102), .val (.int (3 : Int32))] [(.int (3 : Int32)), (.ref a1), (.double (FP.l2d 0)), (.int (3 : Int32)), (.ref b102)])) rfl rfl (hb hby od_prog_21_m_2_25)) ?_
  show Go p e below _ T102 (mkF m 26 #[.val (.ref a1), .val (.int kk), .val (.ref b102), .val (.int (3 : Int32))] [(.double (FP.l2d w3.toInt64)), (.double (FP.l2d 0)), (.int (3 : Int32)), (.ref b102)])
  have q108 : FP.dadd (FP.l2d 0) (FP.l2d w3.toInt64) = (FP.l2d ((0 : Int64) + w3.toInt64)) := dadd_w (J4.b (by decide)) (B3.l.b (by decide))
  refine Go.by (fun t k => XS.daddS X102.here hx rfl (hb hby od_prog_21_m_2_26) rfl (nn_w q108) q108 k) ?_
  show Go p e below _ T102 (mkF m 27 #[.val (.ref a1), .val (.int kk), .val (.ref b102), .val (.int (3 : Int32))] [(.double (FP.l2d ((0 : Int64) + w3.toInt64))), (.int (3 : Int32)), (.ref b102)])
  have J3 : In 15 ((0 : Int64) + w3.toInt64) := J4.add B3.l (by decide) (by decide)
  have S3 : ((0 : Int64) + w3.toInt64).toInt = w3.toInt := by rw [ladd J4 B3.l (by decide) (by decide), c_i2l]; show (0 : Int) + _ = _; omega
  obtain ⟨c109, A109, q109, S109, M109, G109, J109⟩ := id V102
  obtain ⟨T109, h109, X109, e109, W109, st109⟩ := stD X102 hx hZ e102 A109 (j := (3 : Int32)) (inb_of S109 ⟨by decide, by decide⟩) (g := (mkF m 27 #[.val (.ref a1), .val (.int kk), .val (.ref b102), .val (.int (3 : Int32))] [(.double (FP.l2d ((0 : Int64) + w3.toInt64))), (.int (3 : Int32)), (.ref b102)])) rfl rfl (hb hby od_prog_21_m_2_27)
  refine Go.by st109 ?_
  have N109 := Fr.snoc X109 N0 (Nat.le_trans (Nat.le_trans Z0 (Nat.le_refl _)) (Nat.le_of_eq g102.symm))
  have K110 : Keep h0 h109 [] := K103.wr W109 (Or.inr (Nat.le_trans (Nat.le_refl _) (Nat.le_of_eq g102.symm)))
  show Go p e below _ T109 (mkF m 28 #[.val (.ref a1), .val (.int kk), .val (.ref b102), .val (.int (3 : Int32))] [])
  have V109 : Arv Z h109 b102 k102 .double (5 : Int32) ([(.double (FP.l2d 0)), (.double (FP.l2d 0)), (.double (FP.l2d 0)), (.double (FP.l2d ((0 : Int64) + w3.toInt64))), (.double (FP.l2d 0))]) (.double (FP.l2d 0)) := Arv.set A109 q109 S109 M109 G109 J109 rfl W109 3 rfl (Nat.le_of_ble_eq_true rfl)
  refine Go.by (fun t k => XS.iinc X109.here hx rfl (hb hby od_prog_21_m_2_28) rfl (l' := #[.val (.ref a1), .val (.int kk), .val (.ref b102), .val (.int (2 : Int32))]) rfl (XS.goto X109.here hx rfl (pc0 := 31) (pc' := 12) rfl (hb hby od_prog_21_m_2_31) (by decide) (by decide) (XS.iloadN X109.here hx rfl (hb hby od_prog_21_m_2_12) rfl (XS.ifNo X109.here hx rfl (hb hby od_prog_21_m_2_13) rfl ((if0 _ _).trans (flt (show ¬ ((2 : Int32) < (0 : Int32)) from (by decide))).1) k)))) ?_
  show Go p e below _ T109 (mkF m 16 #[.val (.ref a1), .val (.int kk), .val (.ref b102), .val (.int (2 : Int32))] [])
  refine Go.by (fun t k => XS.aloadN X109.here hx rfl (hb hby od_prog_21_m_2_16) rfl rfl (XS.iloadN X109.here hx rfl (hb hby od_prog_21_m_2_17) rfl (XS.aloadN X109.here hx rfl (hb hby od_prog_21_m_2_18) rfl rfl (XS.iloadN X109.here hx rfl (hb hby od_prog_21_m_2_19) rfl k)))) ?_
  show Go p e below _ T109 (mkF m 20 #[.val (.ref a1), .val (.int kk), .val (.ref b102), .val (.int (2 : Int32))] [(.int (2 : Int32)), (.ref b102), (.int (2 : Int32)), (.ref b102)])
  refine Go.by (fun t k => XS.iconst X109.here hx rfl (hb hby od_prog_21_m_2_20) (XS.iadd X109.here hx rfl (hb hby od_prog_21_m_2_21) rfl k)) ?_
  show Go p e below _ T109 (mkF m 22 #[.val (.ref a1), .val (.int kk), .val (.ref b102), .val (.int (2 : Int32))] [(.int (3 : Int32)), (.ref b102), (.int (2 : Int32)), (.ref b102)])
  obtain ⟨c111, A111, q111, S111, M111, G111, J111⟩ := id V109
  have i111 := inb_of S111 (j := (3 : Int32)) ⟨by decide, by decide⟩
  refine Go.by (X109.daload hx (j := (3 : Int32)) (v := (.double (FP.l2d ((0 : Int64) + w3.toInt64)))) (by rw [e109]; exact A111.1) (State.isArrayOf_alike hZ.alike A111.2.1) A111.2.2 i111 (G111.at i111 rfl) (g := (mkF m 22 #[.val (.ref a1), .val (.int kk), .val (.ref b102), .val (.int (2 : Int32))] [(.int (3 : Int32)), (.ref b102), (.int (2 : Int32)), (.ref b102)])) rfl rfl (hb hby od_prog_21_m_2_22)) ?_
  show Go p e below _ T109 (mkF m 23 #[.val (.ref a1), .val (.int kk), .val (.ref b102), .val (.int (2 : Int32))] [(.double (FP.l2d ((0 : Int64) + w3.toInt64))), (.int (2 : Int32)), (.ref b102)])
  refine Go.by (fun t k => XS.aloadN X109.here hx rfl (hb hby od_prog_21_m_2_23) rfl rfl (XS.iloadN X109.here hx rfl (hb hby od_prog_21_m_2_24) rfl k)) ?_
  show Go p e below _ T109 (mkF m 25 #[.val (.ref a1), .val (.int kk), .val (.ref b102), .val (.int (2 : Int32))] [(.int (2 : Int32)), (.ref a1), (.double (FP.l2d ((0 : Int64) + w3.toInt64))), (.int (2 : Int32)), (.ref b102)])
  have F113 : Arv Z h109 a1 k1 .double (4 : Int32) ([(.double (FP.l2d w0.toInt64)), (.double (FP.l2d w1.toInt64)), (.double (FP.l2d w2.toInt64)), (.double (FP.l2d w3.toInt64))]) (.double (FP.l2d 0)) := (F105.other W109 (Nat.ne_of_lt (Nat.lt_of_lt_of_le V1.lt (Nat.le_of_eq g102.symm))))
  obtain ⟨c112, A112, q112, S112, M112, G112, J112⟩ := id F113
  have i112 := inb_of S112 (j := (2 : Int32)) ⟨by decide, by decide⟩
  refine Go.by (X109.daload hx (j := (2 : Int32)) (v := (.double (FP.l2d w2.toInt64))) (by rw [e109]; exact A112.1) (State.isArrayOf_alike hZ.alike A112.2.1) A112.2.2 i112 (G112.at i112 rfl) (g := (mkF m 25 #[.val (.ref a1), .val (.int kk), .val (.ref b102), .val (.int (2 : Int32))] [(.int (2 : Int32)), (.ref a1), (.double (FP.l2d ((0 : Int64) + w3.toInt64))), (.int (2 : Int32)), (.ref b102)])) rfl rfl (hb hby od_prog_21_m_2_25)) ?_
  show Go p e below _ T109 (mkF m 26 #[.val (.ref a1), .val (.int kk), .val (.ref b102), .val (.int (2 : Int32))] [(.double (FP.l2d w2.toInt64)), (.double (FP.l2d ((0 : Int64) + w3.toInt64))), (.int (2 : Int32)), (.ref b102)])
  have q114 : FP.dadd (FP.l2d ((0 : Int64) + w3.toInt64)) (FP.l2d w2.toInt64) = (FP.l2d (((0 : Int64) + w3.toInt64) + w2.toInt64)) := dadd_w (J3.b (by decide)) (B2.l.b (by decide))
  refine Go.by (fun t k => XS.daddS X109.here hx rfl (hb hby od_prog_21_m_2_26) rfl (nn_w q114) q114 k) ?_
  show Go p e below _ T109 (mkF m 27 #[.val (.ref a1), .val (.int kk), .val (.ref b102), .val (.int (2 : Int32))] [(.double (FP.l2d (((0 : Int64) + w3.toInt64) + w2.toInt64))), (.int (2 : Int32)), (.ref b102)])
  have J2 : In 30 (((0 : Int64) + w3.toInt64) + w2.toInt64) := J3.add B2.l (by decide) (by decide)
  have S2 : (((0 : Int64) + w3.toInt64) + w2.toInt64).toInt = (w3.toInt + w2.toInt) := by rw [ladd J3 B2.l (by decide) (by decide), c_i2l]; rw [S3]
  obtain ⟨c115, A115, q115, S115, M115, G115, J115⟩ := id V109
  obtain ⟨T115, h115, X115, e115, W115, st115⟩ := stD X109 hx hZ e109 A115 (j := (2 : Int32)) (inb_of S115 ⟨by decide, by decide⟩) (g := (mkF m 27 #[.val (.ref a1), .val (.int kk), .val (.ref b102), .val (.int (2 : Int32))] [(.double (FP.l2d (((0 : Int64) + w3.toInt64) + w2.toInt64))), (.int (2 : Int32)), (.ref b102)])) rfl rfl (hb hby od_prog_21_m_2_27)
  refine Go.by st115 ?_
  have N115 := Fr.snoc X115 N109 (Nat.le_trans (Nat.le_trans Z0 (Nat.le_refl _)) (Nat.le_of_eq g102.symm))
  have K116 : Keep h0 h115 [] := K110.wr W115 (Or.inr (Nat.le_trans (Nat.le_refl _) (Nat.le_of_eq g102.symm)))
  show Go p e below _ T115 (mkF m 28 #[.val (.ref a1), .val (.int kk), .val (.ref b102), .val (.int (2 : Int32))] [])
  have V115 : Arv Z h115 b102 k102 .double (5 : Int32) ([(.double (FP.l2d 0)), (.double (FP.l2d 0)), (.double (FP.l2d (((0 : Int64) + w3.toInt64) + w2.toInt64))), (.double (FP.l2d ((0 : Int64) + w3.toInt64))), (.double (FP.l2d 0))]) (.double (FP.l2d 0)) := Arv.set A115 q115 S115 M115 G115 J115 rfl W115 2 rfl (Nat.le_of_ble_eq_true rfl)
  refine Go.by (fun t k => XS.iinc X115.here hx rfl (hb hby od_prog_21_m_2_28) rfl (l' := #[.val (.ref a1), .val (.int kk), .val (.ref b102), .val (.int (1 : Int32))]) rfl (XS.goto X115.here hx rfl (pc0 := 31) (pc' := 12) rfl (hb hby od_prog_21_m_2_31) (by decide) (by decide) (XS.iloadN X115.here hx rfl (hb hby od_prog_21_m_2_12) rfl (XS.ifNo X115.here hx rfl (hb hby od_prog_21_m_2_13) rfl ((if0 _ _).trans (flt (show ¬ ((1 : Int32) < (0 : Int32)) from (by decide))).1) k)))) ?_
  show Go p e below _ T115 (mkF m 16 #[.val (.ref a1), .val (.int kk), .val (.ref b102), .val (.int (1 : Int32))] [])
  refine Go.by (fun t k => XS.aloadN X115.here hx rfl (hb hby od_prog_21_m_2_16) rfl rfl (XS.iloadN X115.here hx rfl (hb hby od_prog_21_m_2_17) rfl (XS.aloadN X115.here hx rfl (hb hby od_prog_21_m_2_18) rfl rfl (XS.iloadN X115.here hx rfl (hb hby od_prog_21_m_2_19) rfl k)))) ?_
  show Go p e below _ T115 (mkF m 20 #[.val (.ref a1), .val (.int kk), .val (.ref b102), .val (.int (1 : Int32))] [(.int (1 : Int32)), (.ref b102), (.int (1 : Int32)), (.ref b102)])
  refine Go.by (fun t k => XS.iconst X115.here hx rfl (hb hby od_prog_21_m_2_20) (XS.iadd X115.here hx rfl (hb hby od_prog_21_m_2_21) rfl k)) ?_
  show Go p e below _ T115 (mkF m 22 #[.val (.ref a1), .val (.int kk), .val (.ref b102), .val (.int (1 : Int32))] [(.int (2 : Int32)), (.ref b102), (.int (1 : Int32)), (.ref b102)])
  obtain ⟨c117, A117, q117, S117, M117, G117, J117⟩ := id V115
  have i117 := inb_of S117 (j := (2 : Int32)) ⟨by decide, by decide⟩
  refine Go.by (X115.daload hx (j := (2 : Int32)) (v := (.double (FP.l2d (((0 : Int64) + w3.toInt64) + w2.toInt64)))) (by rw [e115]; exact A117.1) (State.isArrayOf_alike hZ.alike A117.2.1) A117.2.2 i117 (G117.at i117 rfl) (g := (mkF m 22 #[.val (.ref a1), .val (.int kk), .val (.ref b102), .val (.int (1 : Int32))] [(.int (2 : Int32)), (.ref b102), (.int (1 : Int32)), (.ref b102)])) rfl rfl (hb hby od_prog_21_m_2_22)) ?_
  show Go p e below _ T115 (mkF m 23 #[.val (.ref a1), .val (.int kk), .val (.ref b102), .val (.int (1 : Int32))] [(.double (FP.l2d (((0 : Int64) + w3.toInt64) + w2.toInt64))), (.int (1 : Int32)), (.ref b102)])
  refine Go.by (fun t k => XS.aloadN X115.here hx rfl (hb hby od_prog_21_m_2_23) rfl rfl (XS.iloadN X115.here hx rfl (hb hby od_prog_21_m_2_24) rfl k)) ?_
  show Go p e below _ T115 (mkF m 25 #[.val (.ref a1), .val (.int kk), .val (.ref b102), .val (.int (1 : Int32))] [(.int (1 : Int32)), (.ref a1), (.double (FP.l2d (((0 : Int64) + w3.toInt64) + w2.toInt64))), (.int (1 : Int32)), (.ref b102)])
  have F119 : Arv Z h115 a1 k1 .double (4 : Int32) ([(.double (FP.l2d w0.toInt64)), (.double (FP.l2d w1.toInt64)), (.double (FP.l2d w2.toInt64)), (.double (FP.l2d w3.toInt64))]) (.double (FP.l2d 0)) := (F113.other W115 (Nat.ne_of_lt (Nat.lt_of_lt_of_le V1.lt (Nat.le_of_eq g102.symm))))
  obtain ⟨c118, A118, q118, S118, M118, G118, J118⟩ := id F119
  have i118 := inb_of S118 (j := (1 : Int32)) ⟨by decide, by decide⟩
  refine Go.by (X115.daload hx (j := (1 : Int32)) (v := (.double (FP.l2d w1.toInt64))) (by rw [e115]; exact A118.1) (State.isArrayOf_alike hZ.alike A118.2.1) A118.2.2 i118 (G118.at i118 rfl) (g := (mkF m 25 #[.val (.ref a1), .val (.int kk), .val (.ref b102), .val (.int (1 : Int32))] [(.int (1 : Int32)), (.ref a1), (.double (FP.l2d (((0 : Int64) + w3.toInt64) + w2.toInt64))), (.int (1 : Int32)), (.ref b102)])) rfl rfl (hb hby od_prog_21_m_2_25)) ?_
  show Go p e below _ T115 (mkF m 26 #[.val (.ref a1), .val (.int kk), .val (.ref b102), .val (.int (1 : Int32))] [(.double (FP.l2d w1.toInt64)), (.double (FP.l2d (((0 : Int64) + w3.toInt64) + w2.toInt64))), (.int (1 : Int32)), (.ref b102)])
  have q120 : FP.dadd (FP.l2d (((0 : Int64) + w3.toInt64) + w2.toInt64)) (FP.l2d w1.toInt64) = (FP.l2d ((((0 : Int64) + w3.toInt64) + w2.toInt64) + w1.toInt64)) := dadd_w (J2.b (by decide)) (B1.l.b (by decide))
  refine Go.by (fun t k => XS.daddS X115.here hx rfl (hb hby od_prog_21_m_2_26) rfl (nn_w q120) q120 k) ?_
  show Go p e below _ T115 (mkF m 27 #[.val (.ref a1), .val (.int kk), .val (.ref b102), .val (.int (1 : Int32))] [(.double (FP.l2d ((((0 : Int64) + w3.toInt64) + w2.toInt64) + w1.toInt64))), (.int (1 : Int32)), (.ref b102)])
  have J1 : In 45 ((((0 : Int64) + w3.toInt64) + w2.toInt64) + w1.toInt64) := J2.add B1.l (by decide) (by decide)
  have S1 : ((((0 : Int64) + w3.toInt64) + w2.toInt64) + w1.toInt64).toInt = (w3.toInt + w2.toInt + w1.toInt) := by rw [ladd J2 B1.l (by decide) (by decide), c_i2l]; rw [S2]
  obtain ⟨c121, A121, q121, S121, M121, G121, J121⟩ := id V115
  obtain ⟨T121, h121, X121, e121, W121, st121⟩ := stD X115 hx hZ e115 A121 (j := (1 : Int32)) (inb_of S121 ⟨by decide, by decide⟩) (g := (mkF m 27 #[.val (.ref a1), .val (.int kk), .val (.ref b102), .val (.int (1 : Int32))] [(.double (FP.l2d ((((0 : Int64) + w3.toInt64) + w2.toInt64) + w1.toInt64))), (.int (1 : Int32)), (.ref b102)])) rfl rfl (hb hby od_prog_21_m_2_27)
  refine Go.by st121 ?_
  have N121 := Fr.snoc X121 N115 (Nat.le_trans (Nat.le_trans Z0 (Nat.le_refl _)) (Nat.le_of_eq g102.symm))
  have K122 : Keep h0 h121 [] := K116.wr W121 (Or.inr (Nat.le_trans (Nat.le_refl _) (Nat.le_of_eq g102.symm)))
  show Go p e below _ T121 (mkF m 28 #[.val (.ref a1), .val (.int kk), .val (.ref b102), .val (.int (1 : Int32))] [])
  have V121 : Arv Z h121 b102 k102 .double (5 : Int32) ([(.double (FP.l2d 0)), (.double (FP.l2d ((((0 : Int64) + w3.toInt64) + w2.toInt64) + w1.toInt64))), (.double (FP.l2d (((0 : Int64) + w3.toInt64) + w2.toInt64))), (.double (FP.l2d ((0 : Int64) + w3.toInt64))), (.double (FP.l2d 0))]) (.double (FP.l2d 0)) := Arv.set A121 q121 S121 M121 G121 J121 rfl W121 1 rfl (Nat.le_of_ble_eq_true rfl)
  refine Go.by (fun t k => XS.iinc X121.here hx rfl (hb hby od_prog_21_m_2_28) rfl (l' := #[.val (.ref a1), .val (.int kk), .val (.ref b102), .val (.int (0 : Int32))]) rfl (XS.goto X121.here hx rfl (pc0 := 31) (pc' := 12) rfl (hb hby od_prog_21_m_2_31) (by decide) (by decide) (XS.iloadN X121.here hx rfl (hb hby od_prog_21_m_2_12) rfl (XS.ifNo X121.here hx rfl (hb hby od_prog_21_m_2_13) rfl ((if0 _ _).trans (flt (show ¬ ((0 : Int32) < (0 : Int32)) from (by decide))).1) k)))) ?_
  show Go p e below _ T121 (mkF m 16 #[.val (.ref a1), .val (.int kk), .val (.ref b102), .val (.int (0 : Int32))] [])
  refine Go.by (fun t k => XS.aloadN X121.here hx rfl (hb hby od_prog_21_m_2_16) rfl rfl (XS.iloadN X121.here hx rfl (hb hby od_prog_21_m_2_17) rfl (XS.aloadN X121.here hx rfl (hb hby od_prog_21_m_2_18) rfl rfl (XS.iloadN X121.here hx rfl (hb hby od_prog_21_m_2_19) rfl k)))) ?_
  show Go p e below _ T121 (mkF m 20 #[.val (.ref a1), .val (.int kk), .val (.ref b102), .val (.int (0 : Int32))] [(.int (0 : Int32)), (.ref b102), (.int (0 : Int32)), (.ref b102)])
  refine Go.by (fun t k => XS.iconst X121.here hx rfl (hb hby od_prog_21_m_2_20) (XS.iadd X121.here hx rfl (hb hby od_prog_21_m_2_21) rfl k)) ?_
  show Go p e below _ T121 (mkF m 22 #[.val (.ref a1), .val (.int kk), .val (.ref b102), .val (.int (0 : Int32))] [(.int (1 : Int32)), (.ref b102), (.int (0 : Int32)), (.ref b102)])
  obtain ⟨c123, A123, q123, S123, M123, G123, J123⟩ := id V121
  have i123 := inb_of S123 (j := (1 : Int32)) ⟨by decide, by decide⟩
  refine Go.by (X121.daload hx (j := (1 : Int32)) (v := (.double (FP.l2d ((((0 : Int64) + w3.toInt64) + w2.toInt64) + w1.toInt64)))) (by rw [e121]; exact A123.1) (State.isArrayOf_alike hZ.alike A123.2.1) A123.2.2 i123 (G123.at i123 rfl) (g := (mkF m 22 #[.val (.ref a1), .val (.int kk), .val (.ref b102), .val (.int (0 : Int32))] [(.int (1 : Int32)), (.ref b102), (.int (0 : Int32)), (.ref b102)])) rfl rfl (hb hby od_prog_21_m_2_22)) ?_
  show Go p e below _ T121 (mkF m 23 #[.val (.ref a1), .val (.int kk), .val (.ref b102), .val (.int (0 : Int32))] [(.double (FP.l2d ((((0 : Int64) + w3.toInt64) + w2.toInt64) + w1.toInt64))), (.int (0 : Int32)), (.ref b102)])
  refine Go.by (fun t k => XS.aloadN X121.here hx rfl (hb hby od_prog_21_m_2_23) rfl rfl (XS.iloadN X121.here hx rfl (hb hby od_prog_21_m_2_24) rfl k)) ?_
  show Go p e below _ T121 (mkF m 25 #[.val (.ref a1), .val (.int kk), .val (.ref b102), .val (.int (0 : Int32))] [(.int (0 : Int32)), (.ref a1), (.double (FP.l2d ((((0 : Int64) + w3.toInt64) + w2.toInt64) + w1.toInt64))), (.int (0 : Int32)), (.ref b102)])
  have F125 : Arv Z h121 a1 k1 .double (4 : Int32) ([(.double (FP.l2d w0.toInt64)), (.double (FP.l2d w1.toInt64)), (.double (FP.l2d w2.toInt64)), (.double (FP.l2d w3.toInt64))]) (.double (FP.l2d 0)) := (F119.other W121 (Nat.ne_of_lt (Nat.lt_of_lt_of_le V1.lt (Nat.le_of_eq g102.symm))))
  obtain ⟨c124, A124, q124, S124, M124, G124, J124⟩ := id F125
  have i124 := inb_of S124 (j := (0 : Int32)) ⟨by decide, by decide⟩
  refine Go.by (X121.daload hx (j := (0 : Int32)) (v := (.double (FP.l2d w0.toInt64))) (by rw [e121]; exact A124.1) (State.isArrayOf_alike hZ.alike A124.2.1) A124.2.2 i124 (G124.at i124 rfl) (g := (mkF m 25 #[.val (.ref a1), .val (.int kk), .val (.ref b102), .val (.int (0 : Int32))] [(.int (0 : Int32)), (.ref a1), (.double (FP.l2d ((((0 : Int64) + w3.toInt64) + w2.toInt64) + w1.toInt64))), (.int (0 : Int32)), (.ref b102)])) rfl rfl (hb hby od_prog_21_m_2_25)) ?_
  show Go p e below _ T121 (mkF m 26 #[.val (.ref a1), .val (.int kk), .val (.ref b102), .val (.int (0 : Int32))] [(.double (FP.l2d w0.toInt64)), (.double (FP.l2d ((((0 : Int64) + w3.toInt64) + w2.toInt64) + w1.toInt64))), (.int (0 : Int32)), (.ref b102)])
  have q126 : FP.dadd (FP.l2d ((((0 : Int64) + w3.toInt64) + w2.toInt64) + w1.toInt64)) (FP.l2d w0.toInt64) = (FP.l2d (((((0 : Int64) + w3.toInt64) + w2.toInt64) + w1.toInt64) + w0.toInt64)) := dadd_w (J1.b (by decide)) (B0.l.b (by decide))
  refine Go.by (fun t k => XS.daddS X121.here hx rfl (hb hby od_prog_21_m_2_26) rfl (nn_w q126) q126 k) ?_
  show Go p e below _ T121 (mkF m 27 #[.val (.ref a1), .val (.int kk), .val (.ref b102), .val (.int (0 : Int32))] [(.double (FP.l2d (((((0 : Int64) + w3.toInt64) + w2.toInt64) + w1.toInt64) + w0.toInt64))), (.int (0 : Int32)), (.ref b102)])
  have J0 : In 60 (((((0 : Int64) + w3.toInt64) + w2.toInt64) + w1.toInt64) + w0.toInt64) := J1.add B0.l (by decide) (by decide)
  have S0 : (((((0 : Int64) + w3.toInt64) + w2.toInt64) + w1.toInt64) + w0.toInt64).toInt = (w3.toInt + w2.toInt + w1.toInt + w0.toInt) := by rw [ladd J1 B0.l (by decide) (by decide), c_i2l]; rw [S1]
  obtain ⟨c127, A127, q127, S127, M127, G127, J127⟩ := id V121
  obtain ⟨T127, h127, X127, e127, W127, st127⟩ := stD X121 hx hZ e121 A127 (j := (0 : Int32)) (inb_of S127 ⟨by decide, by decide⟩) (g := (mkF m 27 #[.val (.ref a1), .val (.int kk), .val (.ref b102), .val (.int (0 : Int32))] [(.double (FP.l2d (((((0 : Int64) + w3.toInt64) + w2.toInt64) + w1.toInt64) + w0.toInt64))), (.int (0 : Int32)), (.ref b102)])) rfl rfl (hb hby od_prog_21_m_2_27)
  refine Go.by st127 ?_
  have N127 := Fr.snoc X127 N121 (Nat.le_trans (Nat.le_trans Z0 (Nat.le_refl _)) (Nat.le_of_eq g102.symm))
  have K128 : Keep h0 h127 [] := K122.wr W127 (Or.inr (Nat.le_trans (Nat.le_refl _) (Nat.le_of_eq g102.symm)))
  show Go p e below _ T127 (mkF m 28 #[.val (.ref a1), .val (.int kk), .val (.ref b102), .val (.int (0 : Int32))] [])
  have V127 : Arv Z h127 b102 k102 .double (5 : Int32) ([(.double (FP.l2d (((((0 : Int64) + w3.toInt64) + w2.toInt64) + w1.toInt64) + w0.toInt64))), (.double (FP.l2d ((((0 : Int64) + w3.toInt64) + w2.toInt64) + w1.toInt64))), (.double (FP.l2d (((0 : Int64) + w3.toInt64) + w2.toInt64))), (.double (FP.l2d ((0 : Int64) + w3.toInt64))), (.double (FP.l2d 0))]) (.double (FP.l2d 0)) := Arv.set A127 q127 S127 M127 G127 J127 rfl W127 0 rfl (Nat.le_of_ble_eq_true rfl)
  refine Go.by (fun t k => XS.iinc X127.here hx rfl (hb hby od_prog_21_m_2_28) rfl (l' := #[.val (.ref a1), .val (.int kk), .val (.ref b102), .val (.int (-1 : Int32))]) rfl (XS.goto X127.here hx rfl (pc0 := 31) (pc' := 12) rfl (hb hby od_prog_21_m_2_31) (by decide) (by decide) (XS.iloadN X127.here hx rfl (hb hby od_prog_21_m_2_12) rfl (XS.ifYes X127.here hx rfl (pc0 := 13) (pc' := 34) rfl (hb hby od_prog_21_m_2_13) rfl ((if0 _ _).trans (tlt (show (-1 : Int32) < (0 : Int32) from (by decide))).1) (by decide) (by decide) k)))) ?_
  show Go p e below _ T127 (mkF m 34 #[.val (.ref a1), .val (.int kk), .val (.ref b102), .val (.int (-1 : Int32))] [])
  refine Go.by (fun t k => XS.iconst X127.here hx rfl (hb hby od_prog_21_m_2_34) (XS.istoreN X127.here hx rfl (hb hby od_prog_21_m_2_35) rfl (l' := #[.val (.ref a1), .val (.int kk), .val (.ref b102), .val (.int (0 : Int32))]) rfl (XS.iloadN X127.here hx rfl (hb hby od_prog_21_m_2_36) rfl (XS.aloadN X127.here hx rfl (hb hby od_prog_21_m_2_37) rfl rfl k)))) ?_
  show Go p e below _ T127 (mkF m 38 #[.val (.ref a1), .val (.int kk), .val (.ref b102), .val (.int (0 : Int32))] [(.ref a1), (.int (0 : Int32))])
  have F130 : Arv Z h127 a1 k1 .double (4 : Int32) ([(.double (FP.l2d w0.toInt64)), (.double (FP.l2d w1.toInt64)), (.double (FP.l2d w2.toInt64)), (.double (FP.l2d w3.toInt64))]) (.double (FP.l2d 0)) := (F125.other W127 (Nat.ne_of_lt (Nat.lt_of_lt_of_le V1.lt (Nat.le_of_eq g102.symm))))
  obtain ⟨c129, A129, q129, S129, M129, G129, J129⟩ := id F130
  have l129 := len_of S129 M129
  refine Go.by (X127.arraylength hx (by rw [e127]; exact A129.1) (State.isArrayOf_alike hZ.alike A129.2.1) (g := (mkF m 38 #[.val (.ref a1), .val (.int kk), .val (.ref b102), .val (.int (0 : Int32))] [(.ref a1), (.int (0 : Int32))])) rfl rfl (hb hby od_prog_21_m_2_38)) ?_
  rw [l129]
  show Go p e below _ T127 (mkF m 39 #[.val (.ref a1), .val (.int kk), .val (.ref b102), .val (.int (0 : Int32))] [(.int (4 : Int32)), (.int (0 : Int32))])
  refine Go.by (fun t k => XS.iloadN X127.here hx rfl (hb hby od_prog_21_m_2_39) rfl (XS.isub X127.here hx rfl (hb hby od_prog_21_m_2_40) rfl k)) ?_
  show Go p e below _ T127 (mkF m 41 #[.val (.ref a1), .val (.int kk), .val (.ref b102), .val (.int (0 : Int32))] [(.int ((4 : Int32) - kk)), (.int (0 : Int32))])
  by_cases hA0 : ((4 : Int32) - kk) < (0 : Int32)
  · refine Go.by (fun t k => XS.icmpYes X127.here hx rfl (pc0 := 41) (pc' := 73) rfl (hb hby od_prog_21_m_2_41) rfl (tlt (show ((4 : Int32) - kk) < (0 : Int32) from hA0)).2.2.1 (by decide) (by decide) k) ?_
    show Go p e below _ T127 (mkF m 73 #[.val (.ref a1), .val (.int kk), .val (.ref b102), .val (.int (0 : Int32))] [])
    refine Go.by (fun t k => XS.iconst X127.here hx rfl (hb hby od_prog_21_m_2_73) k) ?_
    show Go p e below _ T127 (mkF m 74 #[.val (.ref a1), .val (.int kk), .val (.ref b102), .val (.int (0 : Int32))] [(.int (-1 : Int32))])
    have hz := (lt4 BK).mp hA0
    have e : (0 : Int32).toInt = 0 := by decide
    rw [e] at hz
    exact Go.retI X127 hx hret hlk (hb hby od_prog_21_m_2_74) (by first | (rw [e127]; exact ⟨(-1 : Int32), rfl, N127, K128, (by unfold lhZ; rw [if_neg (fun q => absurd q.1 (by omega)), if_neg (fun q => absurd q.1 (by omega)), if_neg (fun q => absurd q.1 (by omega)), if_neg (fun q => absurd q.1 (by omega))])⟩) | exact ⟨(-1 : Int32), rfl, N127, K128, (by unfold lhZ; rw [if_neg (fun q => absurd q.1 (by omega)), if_neg (fun q => absurd q.1 (by omega)), if_neg (fun q => absurd q.1 (by omega)), if_neg (fun q => absurd q.1 (by omega))])⟩) (by decide) (by decide)
  · skip
    refine Go.by (fun t k => XS.icmpNo X127.here hx rfl (hb hby od_prog_21_m_2_41) rfl (flt (show ¬ (((4 : Int32) - kk) < (0 : Int32)) from hA0)).2.2.1 k) ?_
    show Go p e below _ T127 (mkF m 44 #[.val (.ref a1), .val (.int kk), .val (.ref b102), .val (.int (0 : Int32))] [])
    have kA0 : kk.toInt ≤ 4 := by
      have q : ¬ 4 - kk.toInt < (0 : Int32).toInt := fun q => hA0 ((lt4 BK).mpr q)
      have e : (0 : Int32).toInt = 0 := by decide
      rw [e] at q; omega
    have nx0 : ∀ (T131 : State) (LL131 : List Loc), Stand p l e ({ frames := 0, cells := 1, slots := 5, locals := 0 } : Room) s m #[(.ref a1), (.int kk)] below meth c T131 LL131 1 5 → T131.heap = h127 → Fr n0 LL131 → (¬ okZ w0.toInt (w3.toInt + w2.toInt + w1.toInt + w0.toInt) kk.toInt) → Go p e below (Out s (Q_lh Z a1 k1 w0 w1 w2 w3 kk h0 n0) ({ frames := 0, cells := 1, slots := 5, locals := 0 } : Room).cells ({ frames := 0, cells := 1, slots := 5, locals := 0 } : Room).slots) T131 (mkF m 67 #[.val (.ref a1), .val (.int kk), .val (.ref b102), .val (.int (0 : Int32))] []) := by
      intro T131 LL131 X131 e131 N131 no0
      refine Go.by (fun t k => XS.iinc X131.here hx rfl (hb hby od_prog_21_m_2_67) rfl (l' := #[.val (.ref a1), .val (.int kk), .val (.ref b102), .val (.int (1 : Int32))]) rfl (XS.goto X131.here hx rfl (pc0 := 70) (pc' := 36) rfl (hb hby od_prog_21_m_2_70) (by decide) (by decide) k)) ?_
      show Go p e below _ T131 (mkF m 36 #[.val (.ref a1), .val (.int kk), .val (.ref b102), .val (.int (1 : Int32))] [])
      refine Go.by (fun t k => XS.iloadN X131.here hx rfl (hb hby od_prog_21_m_2_36) rfl (XS.aloadN X131.here hx rfl (hb hby od_prog_21_m_2_37) rfl rfl k)) ?_
      show Go p e below _ T131 (mkF m 38 #[.val (.ref a1), .val (.int kk), .val (.ref b102), .val (.int (1 : Int32))] [(.ref a1), (.int (1 : Int32))])
      obtain ⟨c132, A132, q132, S132, M132, G132, J132⟩ := id F130
      have l132 := len_of S132 M132
      refine Go.by (X131.arraylength hx (by rw [e131]; exact A132.1) (State.isArrayOf_alike hZ.alike A132.2.1) (g := (mkF m 38 #[.val (.ref a1), .val (.int kk), .val (.ref b102), .val (.int (1 : Int32))] [(.ref a1), (.int (1 : Int32))])) rfl rfl (hb hby od_prog_21_m_2_38)) ?_
      rw [l132]
      show Go p e below _ T131 (mkF m 39 #[.val (.ref a1), .val (.int kk), .val (.ref b102), .val (.int (1 : Int32))] [(.int (4 : Int32)), (.int (1 : Int32))])
      refine Go.by (fun t k => XS.iloadN X131.here hx rfl (hb hby od_prog_21_m_2_39) rfl (XS.isub X131.here hx rfl (hb hby od_prog_21_m_2_40) rfl k)) ?_
      show Go p e below _ T131 (mkF m 41 #[.val (.ref a1), .val (.int kk), .val (.ref b102), .val (.int (1 : Int32))] [(.int ((4 : Int32) - kk)), (.int (1 : Int32))])
      by_cases hA1 : ((4 : Int32) - kk) < (1 : Int32)
      · refine Go.by (fun t k => XS.icmpYes X131.here hx rfl (pc0 := 41) (pc' := 73) rfl (hb hby od_prog_21_m_2_41) rfl (tlt (show ((4 : Int32) - kk) < (1 : Int32) from hA1)).2.2.1 (by decide) (by decide) k) ?_
        show Go p e below _ T131 (mkF m 73 #[.val (.ref a1), .val (.int kk), .val (.ref b102), .val (.int (1 : Int32))] [])
        refine Go.by (fun t k => XS.iconst X131.here hx rfl (hb hby od_prog_21_m_2_73) k) ?_
        show Go p e below _ T131 (mkF m 74 #[.val (.ref a1), .val (.int kk), .val (.ref b102), .val (.int (1 : Int32))] [(.int (-1 : Int32))])
        have hz := (lt4 BK).mp hA1
        have e : (1 : Int32).toInt = 1 := by decide
        rw [e] at hz
        exact Go.retI X131 hx hret hlk (hb hby od_prog_21_m_2_74) (by first | (rw [e131]; exact ⟨(-1 : Int32), rfl, N131, K128, (by unfold lhZ; rw [if_neg (fun q => no0 q.2), if_neg (fun q => absurd q.1 (by omega)), if_neg (fun q => absurd q.1 (by omega)), if_neg (fun q => absurd q.1 (by omega))])⟩) | exact ⟨(-1 : Int32), rfl, N131, K128, (by unfold lhZ; rw [if_neg (fun q => no0 q.2), if_neg (fun q => absurd q.1 (by omega)), if_neg (fun q => absurd q.1 (by omega)), if_neg (fun q => absurd q.1 (by omega))])⟩) (by decide) (by decide)
      · skip
        refine Go.by (fun t k => XS.icmpNo X131.here hx rfl (hb hby od_prog_21_m_2_41) rfl (flt (show ¬ (((4 : Int32) - kk) < (1 : Int32)) from hA1)).2.2.1 k) ?_
        show Go p e below _ T131 (mkF m 44 #[.val (.ref a1), .val (.int kk), .val (.ref b102), .val (.int (1 : Int32))] [])
        have kA1 : kk.toInt ≤ 3 := by
          have q : ¬ 4 - kk.toInt < (1 : Int32).toInt := fun q => hA1 ((lt4 BK).mpr q)
          have e : (1 : Int32).toInt = 1 := by decide
          rw [e] at q; omega
        have nx1 : ∀ (T133 : State) (LL133 : List Loc), Stand p l e ({ frames := 0, cells := 1, slots := 5, locals := 0 } : Room) s m #[(.ref a1), (.int kk)] below meth c T133 LL133 1 5 → T133.heap = h127 → Fr n0 LL133 → (¬ okZ w1.toInt (w3.toInt + w2.toInt + w1.toInt) kk.toInt) → Go p e below (Out s (Q_lh Z a1 k1 w0 w1 w2 w3 kk h0 n0) ({ frames := 0, cells := 1, slots := 5, locals := 0 } : Room).cells ({ frames := 0, cells := 1, slots := 5, locals := 0 } : Room).slots) T133 (mkF m 67 #[.val (.ref a1), .val (.int kk), .val (.ref b102), .val (.int (1 : Int32))] []) := by
          intro T133 LL133 X133 e133 N133 no1
          refine Go.by (fun t k => XS.iinc X133.here hx rfl (hb hby od_prog_21_m_2_67) rfl (l' := #[.val (.ref a1), .val (.int kk), .val (.ref b102), .val (.int (2 : Int32))]) rfl (XS.goto X133.here hx rfl (pc0 := 70) (pc' := 36) rfl (hb hby od_prog_21_m_2_70) (by decide) (by decide) k)) ?_
          show Go p e below _ T133 (mkF m 36 #[.val (.ref a1), .val (.int kk), .val (.ref b102), .val (.int (2 : Int32))] [])
          refine Go.by (fun t k => XS.iloadN X133.here hx rfl (hb hby od_prog_21_m_2_36) rfl (XS.aloadN X133.here hx rfl (hb hby od_prog_21_m_2_37) rfl rfl k)) ?_
          show Go p e below _ T133 (mkF m 38 #[.val (.ref a1), .val (.int kk), .val (.ref b102), .val (.int (2 : Int32))] [(.ref a1), (.int (2 : Int32))])
          obtain ⟨c134, A134, q134, S134, M134, G134, J134⟩ := id F130
          have l134 := len_of S134 M134
          refine Go.by (X133.arraylength hx (by rw [e133]; exact A134.1) (State.isArrayOf_alike hZ.alike A134.2.1) (g := (mkF m 38 #[.val (.ref a1), .val (.int kk), .val (.ref b102), .val (.int (2 : Int32))] [(.ref a1), (.int (2 : Int32))])) rfl rfl (hb hby od_prog_21_m_2_38)) ?_
          rw [l134]
          show Go p e below _ T133 (mkF m 39 #[.val (.ref a1), .val (.int kk), .val (.ref b102), .val (.int (2 : Int32))] [(.int (4 : Int32)), (.int (2 : Int32))])
          refine Go.by (fun t k => XS.iloadN X133.here hx rfl (hb hby od_prog_21_m_2_39) rfl (XS.isub X133.here hx rfl (hb hby od_prog_21_m_2_40) rfl k)) ?_
          show Go p e below _ T133 (mkF m 41 #[.val (.ref a1), .val (.int kk), .val (.ref b102), .val (.int (2 : Int32))] [(.int ((4 : Int32) - kk)), (.int (2 : Int32))])
          by_cases hA2 : ((4 : Int32) - kk) < (2 : Int32)
          · refine Go.by (fun t k => XS.icmpYes X133.here hx rfl (pc0 := 41) (pc' := 73) rfl (hb hby od_prog_21_m_2_41) rfl (tlt (show ((4 : Int32) - kk) < (2 : Int32) from hA2)).2.2.1 (by decide) (by decide) k) ?_
            show Go p e below _ T133 (mkF m 73 #[.val (.ref a1), .val (.int kk), .val (.ref b102), .val (.int (2 : Int32))] [])
            refine Go.by (fun t k => XS.iconst X133.here hx rfl (hb hby od_prog_21_m_2_73) k) ?_
            show Go p e below _ T133 (mkF m 74 #[.val (.ref a1), .val (.int kk), .val (.ref b102), .val (.int (2 : Int32))] [(.int (-1 : Int32))])
            have hz := (lt4 BK).mp hA2
            have e : (2 : Int32).toInt = 2 := by decide
            rw [e] at hz
            exact Go.retI X133 hx hret hlk (hb hby od_prog_21_m_2_74) (by first | (rw [e133]; exact ⟨(-1 : Int32), rfl, N133, K128, (by unfold lhZ; rw [if_neg (fun q => no0 q.2), if_neg (fun q => no1 q.2), if_neg (fun q => absurd q.1 (by omega)), if_neg (fun q => absurd q.1 (by omega))])⟩) | exact ⟨(-1 : Int32), rfl, N133, K128, (by unfold lhZ; rw [if_neg (fun q => no0 q.2), if_neg (fun q => no1 q.2), if_neg (fun q => absurd q.1 (by omega)), if_neg (fun q => absurd q.1 (by omega))])⟩) (by decide) (by decide)
          · skip
            refine Go.by (fun t k => XS.icmpNo X133.here hx rfl (hb hby od_prog_21_m_2_41) rfl (flt (show ¬ (((4 : Int32) - kk) < (2 : Int32)) from hA2)).2.2.1 k) ?_
            show Go p e below _ T133 (mkF m 44 #[.val (.ref a1), .val (.int kk), .val (.ref b102), .val (.int (2 : Int32))] [])
            have kA2 : kk.toInt ≤ 2 := by
              have q : ¬ 4 - kk.toInt < (2 : Int32).toInt := fun q => hA2 ((lt4 BK).mpr q)
              have e : (2 : Int32).toInt = 2 := by decide
              rw [e] at q; omega
            have nx2 : ∀ (T135 : State) (LL135 : List Loc), Stand p l e ({ frames := 0, cells := 1, slots := 5, locals := 0 } : Room) s m #[(.ref a1), (.int kk)] below meth c T135 LL135 1 5 → T135.heap = h127 → Fr n0 LL135 → (¬ okZ w2.toInt (w3.toInt + w2.toInt) kk.toInt) → Go p e below (Out s (Q_lh Z a1 k1 w0 w1 w2 w3 kk h0 n0) ({ frames := 0, cells := 1, slots := 5, locals := 0 } : Room).cells ({ frames := 0, cells := 1, slots := 5, locals := 0 } : Room).slots) T135 (mkF m 67 #[.val (.ref a1), .val (.int kk), .val (.ref b102), .val (.int (2 : Int32))] []) := by
              intro T135 LL135 X135 e135 N135 no2
              refine Go.by (fun t k => XS.iinc X135.here hx rfl (hb hby od_prog_21_m_2_67) rfl (l' := #[.val (.ref a1), .val (.int kk), .val (.ref b102), .val (.int (3 : Int32))]) rfl (XS.goto X135.here hx rfl (pc0 := 70) (pc' := 36) rfl (hb hby od_prog_21_m_2_70) (by decide) (by decide) k)) ?_
              show Go p e below _ T135 (mkF m 36 #[.val (.ref a1), .val (.int kk), .val (.ref b102), .val (.int (3 : Int32))] [])
              refine Go.by (fun t k => XS.iloadN X135.here hx rfl (hb hby od_prog_21_m_2_36) rfl (XS.aloadN X135.here hx rfl (hb hby od_prog_21_m_2_37) rfl rfl k)) ?_
              show Go p e below _ T135 (mkF m 38 #[.val (.ref a1), .val (.int kk), .val (.ref b102), .val (.int (3 : Int32))] [(.ref a1), (.int (3 : Int32))])
              obtain ⟨c136, A136, q136, S136, M136, G136, J136⟩ := id F130
              have l136 := len_of S136 M136
              refine Go.by (X135.arraylength hx (by rw [e135]; exact A136.1) (State.isArrayOf_alike hZ.alike A136.2.1) (g := (mkF m 38 #[.val (.ref a1), .val (.int kk), .val (.ref b102), .val (.int (3 : Int32))] [(.ref a1), (.int (3 : Int32))])) rfl rfl (hb hby od_prog_21_m_2_38)) ?_
              rw [l136]
              show Go p e below _ T135 (mkF m 39 #[.val (.ref a1), .val (.int kk), .val (.ref b102), .val (.int (3 : Int32))] [(.int (4 : Int32)), (.int (3 : Int32))])
              refine Go.by (fun t k => XS.iloadN X135.here hx rfl (hb hby od_prog_21_m_2_39) rfl (XS.isub X135.here hx rfl (hb hby od_prog_21_m_2_40) rfl k)) ?_
              show Go p e below _ T135 (mkF m 41 #[.val (.ref a1), .val (.int kk), .val (.ref b102), .val (.int (3 : Int32))] [(.int ((4 : Int32) - kk)), (.int (3 : Int32))])
              by_cases hA3 : ((4 : Int32) - kk) < (3 : Int32)
              · refine Go.by (fun t k => XS.icmpYes X135.here hx rfl (pc0 := 41) (pc' := 73) rfl (hb hby od_prog_21_m_2_41) rfl (tlt (show ((4 : Int32) - kk) < (3 : Int32) from hA3)).2.2.1 (by decide) (by decide) k) ?_
                show Go p e below _ T135 (mkF m 73 #[.val (.ref a1), .val (.int kk), .val (.ref b102), .val (.int (3 : Int32))] [])
                refine Go.by (fun t k => XS.iconst X135.here hx rfl (hb hby od_prog_21_m_2_73) k) ?_
                show Go p e below _ T135 (mkF m 74 #[.val (.ref a1), .val (.int kk), .val (.ref b102), .val (.int (3 : Int32))] [(.int (-1 : Int32))])
                have hz := (lt4 BK).mp hA3
                have e : (3 : Int32).toInt = 3 := by decide
                rw [e] at hz
                exact Go.retI X135 hx hret hlk (hb hby od_prog_21_m_2_74) (by first | (rw [e135]; exact ⟨(-1 : Int32), rfl, N135, K128, (by unfold lhZ; rw [if_neg (fun q => no0 q.2), if_neg (fun q => no1 q.2), if_neg (fun q => no2 q.2), if_neg (fun q => absurd q.1 (by omega))])⟩) | exact ⟨(-1 : Int32), rfl, N135, K128, (by unfold lhZ; rw [if_neg (fun q => no0 q.2), if_neg (fun q => no1 q.2), if_neg (fun q => no2 q.2), if_neg (fun q => absurd q.1 (by omega))])⟩) (by decide) (by decide)
              · skip
                refine Go.by (fun t k => XS.icmpNo X135.here hx rfl (hb hby od_prog_21_m_2_41) rfl (flt (show ¬ (((4 : Int32) - kk) < (3 : Int32)) from hA3)).2.2.1 k) ?_
                show Go p e below _ T135 (mkF m 44 #[.val (.ref a1), .val (.int kk), .val (.ref b102), .val (.int (3 : Int32))] [])
                have kA3 : kk.toInt ≤ 1 := by
                  have q : ¬ 4 - kk.toInt < (3 : Int32).toInt := fun q => hA3 ((lt4 BK).mpr q)
                  have e : (3 : Int32).toInt = 3 := by decide
                  rw [e] at q; omega
                have nx3 : ∀ (T137 : State) (LL137 : List Loc), Stand p l e ({ frames := 0, cells := 1, slots := 5, locals := 0 } : Room) s m #[(.ref a1), (.int kk)] below meth c T137 LL137 1 5 → T137.heap = h127 → Fr n0 LL137 → (¬ okZ w3.toInt w3.toInt kk.toInt) → Go p e below (Out s (Q_lh Z a1 k1 w0 w1 w2 w3 kk h0 n0) ({ frames := 0, cells := 1, slots := 5, locals := 0 } : Room).cells ({ frames := 0, cells := 1, slots := 5, locals := 0 } : Room).slots) T137 (mkF m 67 #[.val (.ref a1), .val (.int kk), .val (.ref b102), .val (.int (3 : Int32))] []) := by
                  intro T137 LL137 X137 e137 N137 no3
                  refine Go.by (fun t k => XS.iinc X137.here hx rfl (hb hby od_prog_21_m_2_67) rfl (l' := #[.val (.ref a1), .val (.int kk), .val (.ref b102), .val (.int (4 : Int32))]) rfl (XS.goto X137.here hx rfl (pc0 := 70) (pc' := 36) rfl (hb hby od_prog_21_m_2_70) (by decide) (by decide) k)) ?_
                  show Go p e below _ T137 (mkF m 36 #[.val (.ref a1), .val (.int kk), .val (.ref b102), .val (.int (4 : Int32))] [])
                  refine Go.by (fun t k => XS.iloadN X137.here hx rfl (hb hby od_prog_21_m_2_36) rfl (XS.aloadN X137.here hx rfl (hb hby od_prog_21_m_2_37) rfl rfl k)) ?_
                  show Go p e below _ T137 (mkF m 38 #[.val (.ref a1), .val (.int kk), .val (.ref b102), .val (.int (4 : Int32))] [(.ref a1), (.int (4 : Int32))])
                  obtain ⟨c138, A138, q138, S138, M138, G138, J138⟩ := id F130
                  have l138 := len_of S138 M138
                  refine Go.by (X137.arraylength hx (by rw [e137]; exact A138.1) (State.isArrayOf_alike hZ.alike A138.2.1) (g := (mkF m 38 #[.val (.ref a1), .val (.int kk), .val (.ref b102), .val (.int (4 : Int32))] [(.ref a1), (.int (4 : Int32))])) rfl rfl (hb hby od_prog_21_m_2_38)) ?_
                  rw [l138]
                  show Go p e below _ T137 (mkF m 39 #[.val (.ref a1), .val (.int kk), .val (.ref b102), .val (.int (4 : Int32))] [(.int (4 : Int32)), (.int (4 : Int32))])
                  refine Go.by (fun t k => XS.iloadN X137.here hx rfl (hb hby od_prog_21_m_2_39) rfl (XS.isub X137.here hx rfl (hb hby od_prog_21_m_2_40) rfl k)) ?_
                  show Go p e below _ T137 (mkF m 41 #[.val (.ref a1), .val (.int kk), .val (.ref b102), .val (.int (4 : Int32))] [(.int ((4 : Int32) - kk)), (.int (4 : Int32))])
                  by_cases hA4 : ((4 : Int32) - kk) < (4 : Int32)
                  · refine Go.by (fun t k => XS.icmpYes X137.here hx rfl (pc0 := 41) (pc' := 73) rfl (hb hby od_prog_21_m_2_41) rfl (tlt (show ((4 : Int32) - kk) < (4 : Int32) from hA4)).2.2.1 (by decide) (by decide) k) ?_
                    show Go p e below _ T137 (mkF m 73 #[.val (.ref a1), .val (.int kk), .val (.ref b102), .val (.int (4 : Int32))] [])
                    refine Go.by (fun t k => XS.iconst X137.here hx rfl (hb hby od_prog_21_m_2_73) k) ?_
                    show Go p e below _ T137 (mkF m 74 #[.val (.ref a1), .val (.int kk), .val (.ref b102), .val (.int (4 : Int32))] [(.int (-1 : Int32))])
                    have hz := (lt4 BK).mp hA4
                    have e : (4 : Int32).toInt = 4 := by decide
                    rw [e] at hz
                    exact Go.retI X137 hx hret hlk (hb hby od_prog_21_m_2_74) (by first | (rw [e137]; exact ⟨(-1 : Int32), rfl, N137, K128, (by unfold lhZ; rw [if_neg (fun q => no0 q.2), if_neg (fun q => no1 q.2), if_neg (fun q => no2 q.2), if_neg (fun q => no3 q.2)])⟩) | exact ⟨(-1 : Int32), rfl, N137, K128, (by unfold lhZ; rw [if_neg (fun q => no0 q.2), if_neg (fun q => no1 q.2), if_neg (fun q => no2 q.2), if_neg (fun q => no3 q.2)])⟩) (by decide) (by decide)
                  · exact absurd ((lt4 BK).mpr (by have : (4 : Int32).toInt = 4 := (by decide); omega)) hA4
                refine Go.by (fun t k => XS.aloadN X135.here hx rfl (hb hby od_prog_21_m_2_44) rfl rfl (XS.iloadN X135.here hx rfl (hb hby od_prog_21_m_2_45) rfl k)) ?_
                show Go p e below _ T135 (mkF m 46 #[.val (.ref a1), .val (.int kk), .val (.ref b102), .val (.int (3 : Int32))] [(.int (3 : Int32)), (.ref b102)])
                obtain ⟨c139, A139, q139, S139, M139, G139, J139⟩ := id V127
                have i139 := inb_of S139 (j := (3 : Int32)) ⟨by decide, by decide⟩
                refine Go.by (X135.daload hx (j := (3 : Int32)) (v := (.double (FP.l2d ((0 : Int64) + w3.toInt64)))) (by rw [e135]; exact A139.1) (State.isArrayOf_alike hZ.alike A139.2.1) A139.2.2 i139 (G139.at i139 rfl) (g := (mkF m 46 #[.val (.ref a1), .val (.int kk), .val (.ref b102), .val (.int (3 : Int32))] [(.int (3 : Int32)), (.ref b102)])) rfl rfl (hb hby od_prog_21_m_2_46)) ?_
                show Go p e below _ T135 (mkF m 47 #[.val (.ref a1), .val (.int kk), .val (.ref b102), .val (.int (3 : Int32))] [(.double (FP.l2d ((0 : Int64) + w3.toInt64)))])
                refine Go.by (fun t k => XS.dconst0 X135.here hx rfl (hb hby od_prog_21_m_2_47) (v := (FP.l2d 0)) (by decide +kernel) k) ?_
                show Go p e below _ T135 (mkF m 48 #[.val (.ref a1), .val (.int kk), .val (.ref b102), .val (.int (3 : Int32))] [(.double (FP.l2d 0)), (.double (FP.l2d ((0 : Int64) + w3.toInt64)))])
                have q140 : cmpValue (FP.dcmp (FP.l2d ((0 : Int64) + w3.toInt64)) (FP.l2d 0)) .l = (lcmpW ((0 : Int64) + w3.toInt64) (0 : Int64)) := dcmpV_w (J3.b (by decide)) (in_zero.b (by decide)) _
                refine Go.by (fun t k => XS.dcmpS X135.here hx rfl (hb hby od_prog_21_m_2_48) rfl q140 k) ?_
                show Go p e below _ T135 (mkF m 49 #[.val (.ref a1), .val (.int kk), .val (.ref b102), .val (.int (3 : Int32))] [(.int (lcmpW ((0 : Int64) + w3.toInt64) (0 : Int64)))])
                by_cases hB3 : (0 : Int32) < (lcmpW ((0 : Int64) + w3.toInt64) (0 : Int64))
                · refine Go.by (fun t k => XS.ifNo X135.here hx rfl (hb hby od_prog_21_m_2_49) rfl ((if0 _ _).trans (tlt (show (0 : Int32) < (lcmpW ((0 : Int64) + w3.toInt64) (0 : Int64)) from hB3)).2.2.2) k) ?_
                  show Go p e below _ T135 (mkF m 52 #[.val (.ref a1), .val (.int kk), .val (.ref b102), .val (.int (3 : Int32))] [])
                  refine Go.by (fun t k => XS.iloadN X135.here hx rfl (hb hby od_prog_21_m_2_52) rfl (XS.i2dS X135.here hx rfl (hb hby od_prog_21_m_2_53) rfl (i2d_w _) (XS.aloadN X135.here hx rfl (hb hby od_prog_21_m_2_54) rfl rfl (XS.iloadN X135.here hx rfl (hb hby od_prog_21_m_2_55) rfl k)))) ?_
                  show Go p e below _ T135 (mkF m 56 #[.val (.ref a1), .val (.int kk), .val (.ref b102), .val (.int (3 : Int32))] [(.int (3 : Int32)), (.ref a1), (.double (FP.l2d kk.toInt64))])
                  obtain ⟨c141, A141, q141, S141, M141, G141, J141⟩ := id F130
                  have i141 := inb_of S141 (j := (3 : Int32)) ⟨by decide, by decide⟩
                  refine Go.by (X135.daload hx (j := (3 : Int32)) (v := (.double (FP.l2d w3.toInt64))) (by rw [e135]; exact A141.1) (State.isArrayOf_alike hZ.alike A141.2.1) A141.2.2 i141 (G141.at i141 rfl) (g := (mkF m 56 #[.val (.ref a1), .val (.int kk), .val (.ref b102), .val (.int (3 : Int32))] [(.int (3 : Int32)), (.ref a1), (.double (FP.l2d kk.toInt64))])) rfl rfl (hb hby od_prog_21_m_2_56)) ?_
                  show Go p e below _ T135 (mkF m 57 #[.val (.ref a1), .val (.int kk), .val (.ref b102), .val (.int (3 : Int32))] [(.double (FP.l2d w3.toInt64)), (.double (FP.l2d kk.toInt64))])
                  have q142 : FP.dmul (FP.l2d kk.toInt64) (FP.l2d w3.toInt64) = (FP.l2d (kk.toInt64 * w3.toInt64)) := dm BK B3
                  refine Go.by (fun t k => XS.dmulS X135.here hx rfl (hb hby od_prog_21_m_2_57) rfl (nn_w q142) q142 k) ?_
                  show Go p e below _ T135 (mkF m 58 #[.val (.ref a1), .val (.int kk), .val (.ref b102), .val (.int (3 : Int32))] [(.double (FP.l2d (kk.toInt64 * w3.toInt64)))])
                  refine Go.by (fun t k => XS.aloadN X135.here hx rfl (hb hby od_prog_21_m_2_58) rfl rfl (XS.iloadN X135.here hx rfl (hb hby od_prog_21_m_2_59) rfl k)) ?_
                  show Go p e below _ T135 (mkF m 60 #[.val (.ref a1), .val (.int kk), .val (.ref b102), .val (.int (3 : Int32))] [(.int (3 : Int32)), (.ref b102), (.double (FP.l2d (kk.toInt64 * w3.toInt64)))])
                  obtain ⟨c143, A143, q143, S143, M143, G143, J143⟩ := id V127
                  have i143 := inb_of S143 (j := (3 : Int32)) ⟨by decide, by decide⟩
                  refine Go.by (X135.daload hx (j := (3 : Int32)) (v := (.double (FP.l2d ((0 : Int64) + w3.toInt64)))) (by rw [e135]; exact A143.1) (State.isArrayOf_alike hZ.alike A143.2.1) A143.2.2 i143 (G143.at i143 rfl) (g := (mkF m 60 #[.val (.ref a1), .val (.int kk), .val (.ref b102), .val (.int (3 : Int32))] [(.int (3 : Int32)), (.ref b102), (.double (FP.l2d (kk.toInt64 * w3.toInt64)))])) rfl rfl (hb hby od_prog_21_m_2_60)) ?_
                  show Go p e below _ T135 (mkF m 61 #[.val (.ref a1), .val (.int kk), .val (.ref b102), .val (.int (3 : Int32))] [(.double (FP.l2d ((0 : Int64) + w3.toInt64))), (.double (FP.l2d (kk.toInt64 * w3.toInt64)))])
                  have q144 : cmpValue (FP.dcmp (FP.l2d (kk.toInt64 * w3.toInt64)) (FP.l2d ((0 : Int64) + w3.toInt64))) .g = (lcmpW (kk.toInt64 * w3.toInt64) ((0 : Int64) + w3.toInt64)) := dcmpV_w ((inm BK B3).b (by decide)) (J3.b (by decide)) _
                  refine Go.by (fun t k => XS.dcmpS X135.here hx rfl (hb hby od_prog_21_m_2_61) rfl q144 k) ?_
                  show Go p e below _ T135 (mkF m 62 #[.val (.ref a1), .val (.int kk), .val (.ref b102), .val (.int (3 : Int32))] [(.int (lcmpW (kk.toInt64 * w3.toInt64) ((0 : Int64) + w3.toInt64)))])
                  by_cases hC3 : (0 : Int32) < (lcmpW (kk.toInt64 * w3.toInt64) ((0 : Int64) + w3.toInt64))
                  · refine Go.by (fun t k => XS.ifYes X135.here hx rfl (pc0 := 62) (pc' := 67) rfl (hb hby od_prog_21_m_2_62) rfl ((if0 _ _).trans (tlt (show (0 : Int32) < (lcmpW (kk.toInt64 * w3.toInt64) ((0 : Int64) + w3.toInt64)) from hC3)).2.2.1) (by decide) (by decide) k) ?_
                    show Go p e below _ T135 (mkF m 67 #[.val (.ref a1), .val (.int kk), .val (.ref b102), .val (.int (3 : Int32))] [])
                    exact nx3 _ _ X135 e135 N135 (fun z => absurd z.2 (by have u := (gt64 _ _).mp hC3; rw [S3, mul64 BK B3] at u; omega))
                  · refine Go.by (fun t k => XS.ifNo X135.here hx rfl (hb hby od_prog_21_m_2_62) rfl ((if0 _ _).trans (flt (show ¬ ((0 : Int32) < (lcmpW (kk.toInt64 * w3.toInt64) ((0 : Int64) + w3.toInt64))) from hC3)).2.2.1) k) ?_
                    show Go p e below _ T135 (mkF m 65 #[.val (.ref a1), .val (.int kk), .val (.ref b102), .val (.int (3 : Int32))] [])
                    refine Go.by (fun t k => XS.iloadN X135.here hx rfl (hb hby od_prog_21_m_2_65) rfl k) ?_
                    show Go p e below _ T135 (mkF m 66 #[.val (.ref a1), .val (.int kk), .val (.ref b102), .val (.int (3 : Int32))] [(.int (3 : Int32))])
                    have ok : okZ w3.toInt w3.toInt kk.toInt := ⟨by have u := (pos64 _).mp hB3; rw [S3] at u; exact u, by have u : ¬ _ := fun u => hC3 ((gt64 _ _).mpr u); rw [S3, mul64 BK B3] at u; omega⟩
                    exact Go.retI X135 hx hret hlk (hb hby od_prog_21_m_2_66) (by first | (rw [e135]; exact ⟨(3 : Int32), rfl, N135, K128, (by unfold lhZ; rw [if_neg (fun q => no0 q.2), if_neg (fun q => no1 q.2), if_neg (fun q => no2 q.2), if_pos ⟨kA3, ok⟩])⟩) | exact ⟨(3 : Int32), rfl, N135, K128, (by unfold lhZ; rw [if_neg (fun q => no0 q.2), if_neg (fun q => no1 q.2), if_neg (fun q => no2 q.2), if_pos ⟨kA3, ok⟩])⟩) (by decide) (by decide)
                · refine Go.by (fun t k => XS.ifYes X135.here hx rfl (pc0 := 49) (pc' := 67) rfl (hb hby od_prog_21_m_2_49) rfl ((if0 _ _).trans (flt (show ¬ ((0 : Int32) < (lcmpW ((0 : Int64) + w3.toInt64) (0 : Int64))) from hB3)).2.2.2) (by decide) (by decide) k) ?_
                  show Go p e below _ T135 (mkF m 67 #[.val (.ref a1), .val (.int kk), .val (.ref b102), .val (.int (3 : Int32))] [])
                  exact nx3 _ _ X135 e135 N135 (fun z => hB3 ((pos64 _).mpr (by rw [S3]; exact z.1)))
            refine Go.by (fun t k => XS.aloadN X133.here hx rfl (hb hby od_prog_21_m_2_44) rfl rfl (XS.iloadN X133.here hx rfl (hb hby od_prog_21_m_2_45) rfl k)) ?_
            show Go p e below _ T133 (mkF m 46 #[.val (.ref a1), .val (.int kk), .val (.ref b102), .val (.int (2 : Int32))] [(.int (2 : Int32)), (.ref b102)])
            obtain ⟨c145, A145, q145, S145, M145, G145, J145⟩ := id V127
            have i145 := inb_of S145 (j := (2 : Int32)) ⟨by decide, by decide⟩
            refine Go.by (X133.daload hx (j := (2 : Int32)) (v := (.double (FP.l2d (((0 : Int64) + w3.toInt64) + w2.toInt64)))) (by rw [e133]; exact A145.1) (State.isArrayOf_alike hZ.alike A145.2.1) A145.2.2 i145 (G145.at i145 rfl) (g := (mkF m 46 #[.val (.ref a1), .val (.int kk), .val (.ref b102), .val (.int (2 : Int32))] [(.int (2 : Int32)), (.ref b102)])) rfl rfl (hb hby od_prog_21_m_2_46)) ?_
            show Go p e below _ T133 (mkF m 47 #[.val (.ref a1), .val (.int kk), .val (.ref b102), .val (.int (2 : Int32))] [(.double (FP.l2d (((0 : Int64) + w3.toInt64) + w2.toInt64)))])
            refine Go.by (fun t k => XS.dconst0 X133.here hx rfl (hb hby od_prog_21_m_2_47) (v := (FP.l2d 0)) (by decide +kernel) k) ?_
            show Go p e below _ T133 (mkF m 48 #[.val (.ref a1), .val (.int kk), .val (.ref b102), .val (.int (2 : Int32))] [(.double (FP.l2d 0)), (.double (FP.l2d (((0 : Int64) + w3.toInt64) + w2.toInt64)))])
            have q146 : cmpValue (FP.dcmp (FP.l2d (((0 : Int64) + w3.toInt64) + w2.toInt64)) (FP.l2d 0)) .l = (lcmpW (((0 : Int64) + w3.toInt64) + w2.toInt64) (0 : Int64)) := dcmpV_w (J2.b (by decide)) (in_zero.b (by decide)) _
            refine Go.by (fun t k => XS.dcmpS X133.here hx rfl (hb hby od_prog_21_m_2_48) rfl q146 k) ?_
            show Go p e below _ T133 (mkF m 49 #[.val (.ref a1), .val (.int kk), .val (.ref b102), .val (.int (2 : Int32))] [(.int (lcmpW (((0 : Int64) + w3.toInt64) + w2.toInt64) (0 : Int64)))])
            by_cases hB2 : (0 : Int32) < (lcmpW (((0 : Int64) + w3.toInt64) + w2.toInt64) (0 : Int64))
            · refine Go.by (fun t k => XS.ifNo X133.here hx rfl (hb hby od_prog_21_m_2_49) rfl ((if0 _ _).trans (tlt (show (0 : Int32) < (lcmpW (((0 : Int64) + w3.toInt64) + w2.toInt64) (0 : Int64)) from hB2)).2.2.2) k) ?_
              show Go p e below _ T133 (mkF m 52 #[.val (.ref a1), .val (.int kk), .val (.ref b102), .val (.int (2 : Int32))] [])
              refine Go.by (fun t k => XS.iloadN X133.here hx rfl (hb hby od_prog_21_m_2_52) rfl (XS.i2dS X133.here hx rfl (hb hby od_prog_21_m_2_53) rfl (i2d_w _) (XS.aloadN X133.here hx rfl (hb hby od_prog_21_m_2_54) rfl rfl (XS.iloadN X133.here hx rfl (hb hby od_prog_21_m_2_55) rfl k)))) ?_
              show Go p e below _ T133 (mkF m 56 #[.val (.ref a1), .val (.int kk), .val (.ref b102), .val (.int (2 : Int32))] [(.int (2 : Int32)), (.ref a1), (.double (FP.l2d kk.toInt64))])
              obtain ⟨c147, A147, q147, S147, M147, G147, J147⟩ := id F130
              have i147 := inb_of S147 (j := (2 : Int32)) ⟨by decide, by decide⟩
              refine Go.by (X133.daload hx (j := (2 : Int32)) (v := (.double (FP.l2d w2.toInt64))) (by rw [e133]; exact A147.1) (State.isArrayOf_alike hZ.alike A147.2.1) A147.2.2 i147 (G147.at i147 rfl) (g := (mkF m 56 #[.val (.ref a1), .val (.int kk), .val (.ref b102), .val (.int (2 : Int32))] [(.int (2 : Int32)), (.ref a1), (.double (FP.l2d kk.toInt64))])) rfl rfl (hb hby od_prog_21_m_2_56)) ?_
              show Go p e below _ T133 (mkF m 57 #[.val (.ref a1), .val (.int kk), .val (.ref b102), .val (.int (2 : Int32))] [(.double (FP.l2d w2.toInt64)), (.double (FP.l2d kk.toInt64))])
              have q148 : FP.dmul (FP.l2d kk.toInt64) (FP.l2d w2.toInt64) = (FP.l2d (kk.toInt64 * w2.toInt64)) := dm BK B2
              refine Go.by (fun t k => XS.dmulS X133.here hx rfl (hb hby od_prog_21_m_2_57) rfl (nn_w q148) q148 k) ?_
              show Go p e below _ T133 (mkF m 58 #[.val (.ref a1), .val (.int kk), .val (.ref b102), .val (.int (2 : Int32))] [(.double (FP.l2d (kk.toInt64 * w2.toInt64)))])
              refine Go.by (fun t k => XS.aloadN X133.here hx rfl (hb hby od_prog_21_m_2_58) rfl rfl (XS.iloadN X133.here hx rfl (hb hby od_prog_21_m_2_59) rfl k)) ?_
              show Go p e below _ T133 (mkF m 60 #[.val (.ref a1), .val (.int kk), .val (.ref b102), .val (.int (2 : Int32))] [(.int (2 : Int32)), (.ref b102), (.double (FP.l2d (kk.toInt64 * w2.toInt64)))])
              obtain ⟨c149, A149, q149, S149, M149, G149, J149⟩ := id V127
              have i149 := inb_of S149 (j := (2 : Int32)) ⟨by decide, by decide⟩
              refine Go.by (X133.daload hx (j := (2 : Int32)) (v := (.double (FP.l2d (((0 : Int64) + w3.toInt64) + w2.toInt64)))) (by rw [e133]; exact A149.1) (State.isArrayOf_alike hZ.alike A149.2.1) A149.2.2 i149 (G149.at i149 rfl) (g := (mkF m 60 #[.val (.ref a1), .val (.int kk), .val (.ref b102), .val (.int (2 : Int32))] [(.int (2 : Int32)), (.ref b102), (.double (FP.l2d (kk.toInt64 * w2.toInt64)))])) rfl rfl (hb hby od_prog_21_m_2_60)) ?_
              show Go p e below _ T133 (mkF m 61 #[.val (.ref a1), .val (.int kk), .val (.ref b102), .val (.int (2 : Int32))] [(.double (FP.l2d (((0 : Int64) + w3.toInt64) + w2.toInt64))), (.double (FP.l2d (kk.toInt64 * w2.toInt64)))])
              have q150 : cmpValue (FP.dcmp (FP.l2d (kk.toInt64 * w2.toInt64)) (FP.l2d (((0 : Int64) + w3.toInt64) + w2.toInt64))) .g = (lcmpW (kk.toInt64 * w2.toInt64) (((0 : Int64) + w3.toInt64) + w2.toInt64)) := dcmpV_w ((inm BK B2).b (by decide)) (J2.b (by decide)) _
              refine Go.by (fun t k => XS.dcmpS X133.here hx rfl (hb hby od_prog_21_m_2_61) rfl q150 k) ?_
              show Go p e below _ T133 (mkF m 62 #[.val (.ref a1), .val (.int kk), .val (.ref b102), .val (.int (2 : Int32))] [(.int (lcmpW (kk.toInt64 * w2.toInt64) (((0 : Int64) + w3.toInt64) + w2.toInt64)))])
              by_cases hC2 : (0 : Int32) < (lcmpW (kk.toInt64 * w2.toInt64) (((0 : Int64) + w3.toInt64) + w2.toInt64))
              · refine Go.by (fun t k => XS.ifYes X133.here hx rfl (pc0 := 62) (pc' := 67) rfl (hb hby od_prog_21_m_2_62) rfl ((if0 _ _).trans (tlt (show (0 : Int32) < (lcmpW (kk.toInt64 * w2.toInt64) (((0 : Int64) + w3.toInt64) + w2.toInt64)) from hC2)).2.2.1) (by decide) (by decide) k) ?_
                show Go p e below _ T133 (mkF m 67 #[.val (.ref a1), .val (.int kk), .val (.ref b102), .val (.int (2 : Int32))] [])
                exact nx2 _ _ X133 e133 N133 (fun z => absurd z.2 (by have u := (gt64 _ _).mp hC2; rw [S2, mul64 BK B2] at u; omega))
              · refine Go.by (fun t k => XS.ifNo X133.here hx rfl (hb hby od_prog_21_m_2_62) rfl ((if0 _ _).trans (flt (show ¬ ((0 : Int32) < (lcmpW (kk.toInt64 * w2.toInt64) (((0 : Int64) + w3.toInt64) + w2.toInt64))) from hC2)).2.2.1) k) ?_
                show Go p e below _ T133 (mkF m 65 #[.val (.ref a1), .val (.int kk), .val (.ref b102), .val (.int (2 : Int32))] [])
                refine Go.by (fun t k => XS.iloadN X133.here hx rfl (hb hby od_prog_21_m_2_65) rfl k) ?_
                show Go p e below _ T133 (mkF m 66 #[.val (.ref a1), .val (.int kk), .val (.ref b102), .val (.int (2 : Int32))] [(.int (2 : Int32))])
                have ok : okZ w2.toInt (w3.toInt + w2.toInt) kk.toInt := ⟨by have u := (pos64 _).mp hB2; rw [S2] at u; exact u, by have u : ¬ _ := fun u => hC2 ((gt64 _ _).mpr u); rw [S2, mul64 BK B2] at u; omega⟩
                exact Go.retI X133 hx hret hlk (hb hby od_prog_21_m_2_66) (by first | (rw [e133]; exact ⟨(2 : Int32), rfl, N133, K128, (by unfold lhZ; rw [if_neg (fun q => no0 q.2), if_neg (fun q => no1 q.2), if_pos ⟨kA2, ok⟩])⟩) | exact ⟨(2 : Int32), rfl, N133, K128, (by unfold lhZ; rw [if_neg (fun q => no0 q.2), if_neg (fun q => no1 q.2), if_pos ⟨kA2, ok⟩])⟩) (by decide) (by decide)
            · refine Go.by (fun t k => XS.ifYes X133.here hx rfl (pc0 := 49) (pc' := 67) rfl (hb hby od_prog_21_m_2_49) rfl ((if0 _ _).trans (flt (show ¬ ((0 : Int32) < (lcmpW (((0 : Int64) + w3.toInt64) + w2.toInt64) (0 : Int64))) from hB2)).2.2.2) (by decide) (by decide) k) ?_
              show Go p e below _ T133 (mkF m 67 #[.val (.ref a1), .val (.int kk), .val (.ref b102), .val (.int (2 : Int32))] [])
              exact nx2 _ _ X133 e133 N133 (fun z => hB2 ((pos64 _).mpr (by rw [S2]; exact z.1)))
        refine Go.by (fun t k => XS.aloadN X131.here hx rfl (hb hby od_prog_21_m_2_44) rfl rfl (XS.iloadN X131.here hx rfl (hb hby od_prog_21_m_2_45) rfl k)) ?_
        show Go p e below _ T131 (mkF m 46 #[.val (.ref a1), .val (.int kk), .val (.ref b102), .val (.int (1 : Int32))] [(.int (1 : Int32)), (.ref b102)])
        obtain ⟨c151, A151, q151, S151, M151, G151, J151⟩ := id V127
        have i151 := inb_of S151 (j := (1 : Int32)) ⟨by decide, by decide⟩
        refine Go.by (X131.daload hx (j := (1 : Int32)) (v := (.double (FP.l2d ((((0 : Int64) + w3.toInt64) + w2.toInt64) + w1.toInt64)))) (by rw [e131]; exact A151.1) (State.isArrayOf_alike hZ.alike A151.2.1) A151.2.2 i151 (G151.at i151 rfl) (g := (mkF m 46 #[.val (.ref a1), .val (.int kk), .val (.ref b102), .val (.int (1 : Int32))] [(.int (1 : Int32)), (.ref b102)])) rfl rfl (hb hby od_prog_21_m_2_46)) ?_
        show Go p e below _ T131 (mkF m 47 #[.val (.ref a1), .val (.int kk), .val (.ref b102), .val (.int (1 : Int32))] [(.double (FP.l2d ((((0 : Int64) + w3.toInt64) + w2.toInt64) + w1.toInt64)))])
        refine Go.by (fun t k => XS.dconst0 X131.here hx rfl (hb hby od_prog_21_m_2_47) (v := (FP.l2d 0)) (by decide +kernel) k) ?_
        show Go p e below _ T131 (mkF m 48 #[.val (.ref a1), .val (.int kk), .val (.ref b102), .val (.int (1 : Int32))] [(.double (FP.l2d 0)), (.double (FP.l2d ((((0 : Int64) + w3.toInt64) + w2.toInt64) + w1.toInt64)))])
        have q152 : cmpValue (FP.dcmp (FP.l2d ((((0 : Int64) + w3.toInt64) + w2.toInt64) + w1.toInt64)) (FP.l2d 0)) .l = (lcmpW ((((0 : Int64) + w3.toInt64) + w2.toInt64) + w1.toInt64) (0 : Int64)) := dcmpV_w (J1.b (by decide)) (in_zero.b (by decide)) _
        refine Go.by (fun t k => XS.dcmpS X131.here hx rfl (hb hby od_prog_21_m_2_48) rfl q152 k) ?_
        show Go p e below _ T131 (mkF m 49 #[.val (.ref a1), .val (.int kk), .val (.ref b102), .val (.int (1 : Int32))] [(.int (lcmpW ((((0 : Int64) + w3.toInt64) + w2.toInt64) + w1.toInt64) (0 : Int64)))])
        by_cases hB1 : (0 : Int32) < (lcmpW ((((0 : Int64) + w3.toInt64) + w2.toInt64) + w1.toInt64) (0 : Int64))
        · refine Go.by (fun t k => XS.ifNo X131.here hx rfl (hb hby od_prog_21_m_2_49) rfl ((if0 _ _).trans (tlt (show (0 : Int32) < (lcmpW ((((0 : Int64) + w3.toInt64) + w2.toInt64) + w1.toInt64) (0 : Int64)) from hB1)).2.2.2) k) ?_
          show Go p e below _ T131 (mkF m 52 #[.val (.ref a1), .val (.int kk), .val (.ref b102), .val (.int (1 : Int32))] [])
          refine Go.by (fun t k => XS.iloadN X131.here hx rfl (hb hby od_prog_21_m_2_52) rfl (XS.i2dS X131.here hx rfl (hb hby od_prog_21_m_2_53) rfl (i2d_w _) (XS.aloadN X131.here hx rfl (hb hby od_prog_21_m_2_54) rfl rfl (XS.iloadN X131.here hx rfl (hb hby od_prog_21_m_2_55) rfl k)))) ?_
          show Go p e below _ T131 (mkF m 56 #[.val (.ref a1), .val (.int kk), .val (.ref b102), .val (.int (1 : Int32))] [(.int (1 : Int32)), (.ref a1), (.double (FP.l2d kk.toInt64))])
          obtain ⟨c153, A153, q153, S153, M153, G153, J153⟩ := id F130
          have i153 := inb_of S153 (j := (1 : Int32)) ⟨by decide, by decide⟩
          refine Go.by (X131.daload hx (j := (1 : Int32)) (v := (.double (FP.l2d w1.toInt64))) (by rw [e131]; exact A153.1) (State.isArrayOf_alike hZ.alike A153.2.1) A153.2.2 i153 (G153.at i153 rfl) (g := (mkF m 56 #[.val (.ref a1), .val (.int kk), .val (.ref b102), .val (.int (1 : Int32))] [(.int (1 : Int32)), (.ref a1), (.double (FP.l2d kk.toInt64))])) rfl rfl (hb hby od_prog_21_m_2_56)) ?_
          show Go p e below _ T131 (mkF m 57 #[.val (.ref a1), .val (.int kk), .val (.ref b102), .val (.int (1 : Int32))] [(.double (FP.l2d w1.toInt64)), (.double (FP.l2d kk.toInt64))])
          have q154 : FP.dmul (FP.l2d kk.toInt64) (FP.l2d w1.toInt64) = (FP.l2d (kk.toInt64 * w1.toInt64)) := dm BK B1
          refine Go.by (fun t k => XS.dmulS X131.here hx rfl (hb hby od_prog_21_m_2_57) rfl (nn_w q154) q154 k) ?_
          show Go p e below _ T131 (mkF m 58 #[.val (.ref a1), .val (.int kk), .val (.ref b102), .val (.int (1 : Int32))] [(.double (FP.l2d (kk.toInt64 * w1.toInt64)))])
          refine Go.by (fun t k => XS.aloadN X131.here hx rfl (hb hby od_prog_21_m_2_58) rfl rfl (XS.iloadN X131.here hx rfl (hb hby od_prog_21_m_2_59) rfl k)) ?_
          show Go p e below _ T131 (mkF m 60 #[.val (.ref a1), .val (.int kk), .val (.ref b102), .val (.int (1 : Int32))] [(.int (1 : Int32)), (.ref b102), (.double (FP.l2d (kk.toInt64 * w1.toInt64)))])
          obtain ⟨c155, A155, q155, S155, M155, G155, J155⟩ := id V127
          have i155 := inb_of S155 (j := (1 : Int32)) ⟨by decide, by decide⟩
          refine Go.by (X131.daload hx (j := (1 : Int32)) (v := (.double (FP.l2d ((((0 : Int64) + w3.toInt64) + w2.toInt64) + w1.toInt64)))) (by rw [e131]; exact A155.1) (State.isArrayOf_alike hZ.alike A155.2.1) A155.2.2 i155 (G155.at i155 rfl) (g := (mkF m 60 #[.val (.ref a1), .val (.int kk), .val (.ref b102), .val (.int (1 : Int32))] [(.int (1 : Int32)), (.ref b102), (.double (FP.l2d (kk.toInt64 * w1.toInt64)))])) rfl rfl (hb hby od_prog_21_m_2_60)) ?_
          show Go p e below _ T131 (mkF m 61 #[.val (.ref a1), .val (.int kk), .val (.ref b102), .val (.int (1 : Int32))] [(.double (FP.l2d ((((0 : Int64) + w3.toInt64) + w2.toInt64) + w1.toInt64))), (.double (FP.l2d (kk.toInt64 * w1.toInt64)))])
          have q156 : cmpValue (FP.dcmp (FP.l2d (kk.toInt64 * w1.toInt64)) (FP.l2d ((((0 : Int64) + w3.toInt64) + w2.toInt64) + w1.toInt64))) .g = (lcmpW (kk.toInt64 * w1.toInt64) ((((0 : Int64) + w3.toInt64) + w2.toInt64) + w1.toInt64)) := dcmpV_w ((inm BK B1).b (by decide)) (J1.b (by decide)) _
          refine Go.by (fun t k => XS.dcmpS X131.here hx rfl (hb hby od_prog_21_m_2_61) rfl q156 k) ?_
          show Go p e below _ T131 (mkF m 62 #[.val (.ref a1), .val (.int kk), .val (.ref b102), .val (.int (1 : Int32))] [(.int (lcmpW (kk.toInt64 * w1.toInt64) ((((0 : Int64) + w3.toInt64) + w2.toInt64) + w1.toInt64)))])
          by_cases hC1 : (0 : Int32) < (lcmpW (kk.toInt64 * w1.toInt64) ((((0 : Int64) + w3.toInt64) + w2.toInt64) + w1.toInt64))
          · refine Go.by (fun t k => XS.ifYes X131.here hx rfl (pc0 := 62) (pc' := 67) rfl (hb hby od_prog_21_m_2_62) rfl ((if0 _ _).trans (tlt (show (0 : Int32) < (lcmpW (kk.toInt64 * w1.toInt64) ((((0 : Int64) + w3.toInt64) + w2.toInt64) + w1.toInt64)) from hC1)).2.2.1) (by decide) (by decide) k) ?_
            show Go p e below _ T131 (mkF m 67 #[.val (.ref a1), .val (.int kk), .val (.ref b102), .val (.int (1 : Int32))] [])
            exact nx1 _ _ X131 e131 N131 (fun z => absurd z.2 (by have u := (gt64 _ _).mp hC1; rw [S1, mul64 BK B1] at u; omega))
          · refine Go.by (fun t k => XS.ifNo X131.here hx rfl (hb hby od_prog_21_m_2_62) rfl ((if0 _ _).trans (flt (show ¬ ((0 : Int32) < (lcmpW (kk.toInt64 * w1.toInt64) ((((0 : Int64) + w3.toInt64) + w2.toInt64) + w1.toInt64))) from hC1)).2.2.1) k) ?_
            show Go p e below _ T131 (mkF m 65 #[.val (.ref a1), .val (.int kk), .val (.ref b102), .val (.int (1 : Int32))] [])
            refine Go.by (fun t k => XS.iloadN X131.here hx rfl (hb hby od_prog_21_m_2_65) rfl k) ?_
            show Go p e below _ T131 (mkF m 66 #[.val (.ref a1), .val (.int kk), .val (.ref b102), .val (.int (1 : Int32))] [(.int (1 : Int32))])
            have ok : okZ w1.toInt (w3.toInt + w2.toInt + w1.toInt) kk.toInt := ⟨by have u := (pos64 _).mp hB1; rw [S1] at u; exact u, by have u : ¬ _ := fun u => hC1 ((gt64 _ _).mpr u); rw [S1, mul64 BK B1] at u; omega⟩
            exact Go.retI X131 hx hret hlk (hb hby od_prog_21_m_2_66) (by first | (rw [e131]; exact ⟨(1 : Int32), rfl, N131, K128, (by unfold lhZ; rw [if_neg (fun q => no0 q.2), if_pos ⟨kA1, ok⟩])⟩) | exact ⟨(1 : Int32), rfl, N131, K128, (by unfold lhZ; rw [if_neg (fun q => no0 q.2), if_pos ⟨kA1, ok⟩])⟩) (by decide) (by decide)
        · refine Go.by (fun t k => XS.ifYes X131.here hx rfl (pc0 := 49) (pc' := 67) rfl (hb hby od_prog_21_m_2_49) rfl ((if0 _ _).trans (flt (show ¬ ((0 : Int32) < (lcmpW ((((0 : Int64) + w3.toInt64) + w2.toInt64) + w1.toInt64) (0 : Int64))) from hB1)).2.2.2) (by decide) (by decide) k) ?_
          show Go p e below _ T131 (mkF m 67 #[.val (.ref a1), .val (.int kk), .val (.ref b102), .val (.int (1 : Int32))] [])
          exact nx1 _ _ X131 e131 N131 (fun z => hB1 ((pos64 _).mpr (by rw [S1]; exact z.1)))
    refine Go.by (fun t k => XS.aloadN X127.here hx rfl (hb hby od_prog_21_m_2_44) rfl rfl (XS.iloadN X127.here hx rfl (hb hby od_prog_21_m_2_45) rfl k)) ?_
    show Go p e below _ T127 (mkF m 46 #[.val (.ref a1), .val (.int kk), .val (.ref b102), .val (.int (0 : Int32))] [(.int (0 : Int32)), (.ref b102)])
    obtain ⟨c157, A157, q157, S157, M157, G157, J157⟩ := id V127
    have i157 := inb_of S157 (j := (0 : Int32)) ⟨by decide, by decide⟩
    refine Go.by (X127.daload hx (j := (0 : Int32)) (v := (.double (FP.l2d (((((0 : Int64) + w3.toInt64) + w2.toInt64) + w1.toInt64) + w0.toInt64)))) (by rw [e127]; exact A157.1) (State.isArrayOf_alike hZ.alike A157.2.1) A157.2.2 i157 (G157.at i157 rfl) (g := (mkF m 46 #[.val (.ref a1), .val (.int kk), .val (.ref b102), .val (.int (0 : Int32))] [(.int (0 : Int32)), (.ref b102)])) rfl rfl (hb hby od_prog_21_m_2_46)) ?_
    show Go p e below _ T127 (mkF m 47 #[.val (.ref a1), .val (.int kk), .val (.ref b102), .val (.int (0 : Int32))] [(.double (FP.l2d (((((0 : Int64) + w3.toInt64) + w2.toInt64) + w1.toInt64) + w0.toInt64)))])
    refine Go.by (fun t k => XS.dconst0 X127.here hx rfl (hb hby od_prog_21_m_2_47) (v := (FP.l2d 0)) (by decide +kernel) k) ?_
    show Go p e below _ T127 (mkF m 48 #[.val (.ref a1), .val (.int kk), .val (.ref b102), .val (.int (0 : Int32))] [(.double (FP.l2d 0)), (.double (FP.l2d (((((0 : Int64) + w3.toInt64) + w2.toInt64) + w1.toInt64) + w0.toInt64)))])
    have q158 : cmpValue (FP.dcmp (FP.l2d (((((0 : Int64) + w3.toInt64) + w2.toInt64) + w1.toInt64) + w0.toInt64)) (FP.l2d 0)) .l = (lcmpW (((((0 : Int64) + w3.toInt64) + w2.toInt64) + w1.toInt64) + w0.toInt64) (0 : Int64)) := dcmpV_w (J0.b (by decide)) (in_zero.b (by decide)) _
    refine Go.by (fun t k => XS.dcmpS X127.here hx rfl (hb hby od_prog_21_m_2_48) rfl q158 k) ?_
    show Go p e below _ T127 (mkF m 49 #[.val (.ref a1), .val (.int kk), .val (.ref b102), .val (.int (0 : Int32))] [(.int (lcmpW (((((0 : Int64) + w3.toInt64) + w2.toInt64) + w1.toInt64) + w0.toInt64) (0 : Int64)))])
    by_cases hB0 : (0 : Int32) < (lcmpW (((((0 : Int64) + w3.toInt64) + w2.toInt64) + w1.toInt64) + w0.toInt64) (0 : Int64))
    · refine Go.by (fun t k => XS.ifNo X127.here hx rfl (hb hby od_prog_21_m_2_49) rfl ((if0 _ _).trans (tlt (show (0 : Int32) < (lcmpW (((((0 : Int64) + w3.toInt64) + w2.toInt64) + w1.toInt64) + w0.toInt64) (0 : Int64)) from hB0)).2.2.2) k) ?_
      show Go p e below _ T127 (mkF m 52 #[.val (.ref a1), .val (.int kk), .val (.ref b102), .val (.int (0 : Int32))] [])
      refine Go.by (fun t k => XS.iloadN X127.here hx rfl (hb hby od_prog_21_m_2_52) rfl (XS.i2dS X127.here hx rfl (hb hby od_prog_21_m_2_53) rfl (i2d_w _) (XS.aloadN X127.here hx rfl (hb hby od_prog_21_m_2_54) rfl rfl (XS.iloadN X127.here hx rfl (hb hby od_prog_21_m_2_55) rfl k)))) ?_
      show Go p e below _ T127 (mkF m 56 #[.val (.ref a1), .val (.int kk), .val (.ref b102), .val (.int (0 : Int32))] [(.int (0 : Int32)), (.ref a1), (.double (FP.l2d kk.toInt64))])
      obtain ⟨c159, A159, q159, S159, M159, G159, J159⟩ := id F130
      have i159 := inb_of S159 (j := (0 : Int32)) ⟨by decide, by decide⟩
      refine Go.by (X127.daload hx (j := (0 : Int32)) (v := (.double (FP.l2d w0.toInt64))) (by rw [e127]; exact A159.1) (State.isArrayOf_alike hZ.alike A159.2.1) A159.2.2 i159 (G159.at i159 rfl) (g := (mkF m 56 #[.val (.ref a1), .val (.int kk), .val (.ref b102), .val (.int (0 : Int32))] [(.int (0 : Int32)), (.ref a1), (.double (FP.l2d kk.toInt64))])) rfl rfl (hb hby od_prog_21_m_2_56)) ?_
      show Go p e below _ T127 (mkF m 57 #[.val (.ref a1), .val (.int kk), .val (.ref b102), .val (.int (0 : Int32))] [(.double (FP.l2d w0.toInt64)), (.double (FP.l2d kk.toInt64))])
      have q160 : FP.dmul (FP.l2d kk.toInt64) (FP.l2d w0.toInt64) = (FP.l2d (kk.toInt64 * w0.toInt64)) := dm BK B0
      refine Go.by (fun t k => XS.dmulS X127.here hx rfl (hb hby od_prog_21_m_2_57) rfl (nn_w q160) q160 k) ?_
      show Go p e below _ T127 (mkF m 58 #[.val (.ref a1), .val (.int kk), .val (.ref b102), .val (.int (0 : Int32))] [(.double (FP.l2d (kk.toInt64 * w0.toInt64)))])
      refine Go.by (fun t k => XS.aloadN X127.here hx rfl (hb hby od_prog_21_m_2_58) rfl rfl (XS.iloadN X127.here hx rfl (hb hby od_prog_21_m_2_59) rfl k)) ?_
      show Go p e below _ T127 (mkF m 60 #[.val (.ref a1), .val (.int kk), .val (.ref b102), .val (.int (0 : Int32))] [(.int (0 : Int32)), (.ref b102), (.double (FP.l2d (kk.toInt64 * w0.toInt64)))])
      obtain ⟨c161, A161, q161, S161, M161, G161, J161⟩ := id V127
      have i161 := inb_of S161 (j := (0 : Int32)) ⟨by decide, by decide⟩
      refine Go.by (X127.daload hx (j := (0 : Int32)) (v := (.double (FP.l2d (((((0 : Int64) + w3.toInt64) + w2.toInt64) + w1.toInt64) + w0.toInt64)))) (by rw [e127]; exact A161.1) (State.isArrayOf_alike hZ.alike A161.2.1) A161.2.2 i161 (G161.at i161 rfl) (g := (mkF m 60 #[.val (.ref a1), .val (.int kk), .val (.ref b102), .val (.int (0 : Int32))] [(.int (0 : Int32)), (.ref b102), (.double (FP.l2d (kk.toInt64 * w0.toInt64)))])) rfl rfl (hb hby od_prog_21_m_2_60)) ?_
      show Go p e below _ T127 (mkF m 61 #[.val (.ref a1), .val (.int kk), .val (.ref b102), .val (.int (0 : Int32))] [(.double (FP.l2d (((((0 : Int64) + w3.toInt64) + w2.toInt64) + w1.toInt64) + w0.toInt64))), (.double (FP.l2d (kk.toInt64 * w0.toInt64)))])
      have q162 : cmpValue (FP.dcmp (FP.l2d (kk.toInt64 * w0.toInt64)) (FP.l2d (((((0 : Int64) + w3.toInt64) + w2.toInt64) + w1.toInt64) + w0.toInt64))) .g = (lcmpW (kk.toInt64 * w0.toInt64) (((((0 : Int64) + w3.toInt64) + w2.toInt64) + w1.toInt64) + w0.toInt64)) := dcmpV_w ((inm BK B0).b (by decide)) (J0.b (by decide)) _
      refine Go.by (fun t k => XS.dcmpS X127.here hx rfl (hb hby od_prog_21_m_2_61) rfl q162 k) ?_
      show Go p e below _ T127 (mkF m 62 #[.val (.ref a1), .val (.int kk), .val (.ref b102), .val (.int (0 : Int32))] [(.int (lcmpW (kk.toInt64 * w0.toInt64) (((((0 : Int64) + w3.toInt64) + w2.toInt64) + w1.toInt64) + w0.toInt64)))])
      by_cases hC0 : (0 : Int32) < (lcmpW (kk.toInt64 * w0.toInt64) (((((0 : Int64) + w3.toInt64) + w2.toInt64) + w1.toInt64) + w0.toInt64))
      · refine Go.by (fun t k => XS.ifYes X127.here hx rfl (pc0 := 62) (pc' := 67) rfl (hb hby od_prog_21_m_2_62) rfl ((if0 _ _).trans (tlt (show (0 : Int32) < (lcmpW (kk.toInt64 * w0.toInt64) (((((0 : Int64) + w3.toInt64) + w2.toInt64) + w1.toInt64) + w0.toInt64)) from hC0)).2.2.1) (by decide) (by decide) k) ?_
        show Go p e below _ T127 (mkF m 67 #[.val (.ref a1), .val (.int kk), .val (.ref b102), .val (.int (0 : Int32))] [])
        exact nx0 _ _ X127 e127 N127 (fun z => absurd z.2 (by have u := (gt64 _ _).mp hC0; rw [S0, mul64 BK B0] at u; omega))
      · refine Go.by (fun t k => XS.ifNo X127.here hx rfl (hb hby od_prog_21_m_2_62) rfl ((if0 _ _).trans (flt (show ¬ ((0 : Int32) < (lcmpW (kk.toInt64 * w0.toInt64) (((((0 : Int64) + w3.toInt64) + w2.toInt64) + w1.toInt64) + w0.toInt64))) from hC0)).2.2.1) k) ?_
        show Go p e below _ T127 (mkF m 65 #[.val (.ref a1), .val (.int kk), .val (.ref b102), .val (.int (0 : Int32))] [])
        refine Go.by (fun t k => XS.iloadN X127.here hx rfl (hb hby od_prog_21_m_2_65) rfl k) ?_
        show Go p e below _ T127 (mkF m 66 #[.val (.ref a1), .val (.int kk), .val (.ref b102), .val (.int (0 : Int32))] [(.int (0 : Int32))])
        have ok : okZ w0.toInt (w3.toInt + w2.toInt + w1.toInt + w0.toInt) kk.toInt := ⟨by have u := (pos64 _).mp hB0; rw [S0] at u; exact u, by have u : ¬ _ := fun u => hC0 ((gt64 _ _).mpr u); rw [S0, mul64 BK B0] at u; omega⟩
        exact Go.retI X127 hx hret hlk (hb hby od_prog_21_m_2_66) (by first | (rw [e127]; exact ⟨(0 : Int32), rfl, N127, K128, (by unfold lhZ; rw [if_pos ⟨kA0, ok⟩])⟩) | exact ⟨(0 : Int32), rfl, N127, K128, (by unfold lhZ; rw [if_pos ⟨kA0, ok⟩])⟩) (by decide) (by decide)
    · refine Go.by (fun t k => XS.ifYes X127.here hx rfl (pc0 := 49) (pc' := 67) rfl (hb hby od_prog_21_m_2_49) rfl ((if0 _ _).trans (flt (show ¬ ((0 : Int32) < (lcmpW (((((0 : Int64) + w3.toInt64) + w2.toInt64) + w1.toInt64) + w0.toInt64) (0 : Int64))) from hB0)).2.2.2) (by decide) (by decide) k) ?_
      show Go p e below _ T127 (mkF m 67 #[.val (.ref a1), .val (.int kk), .val (.ref b102), .val (.int (0 : Int32))] [])
      exact nx0 _ _ X127 e127 N127 (fun z => hB0 ((pos64 _).mpr (by rw [S0]; exact z.1)))
def Q_ok (Z : State) (w0 : Int32) (s0 : Int32) (kk : Int32) (h0 : Heap) (n0 : Nat) (v : Option Value) (h : Heap) (L : List Loc) : Prop := ∃ r : Int32, v = some (.int r) ∧ Fr n0 L ∧ h = h0 ∧ ((r = 1 ∧ (0 : Int32) < s0 ∧ ¬ s0 < kk * w0) ∨ (r = 0 ∧ ¬ ((0 : Int32) < s0 ∧ ¬ s0 < kk * w0)))
set_option maxRecDepth 65536 in
set_option maxHeartbeats 40000000 in
theorem rm_ok (l : Launch) (Z : State) (a0 : Array Value) (hw : HW a0 Z) (ws : List Jvm.Cond) (w0 : Int32) (s0 : Int32) (kk : Int32) (h0 : Heap) (n0 : Nat) (Z0 : n0 ≤ h0.size)  :
    MetFree l (⟨"com/example/shardpick/shardpick/generate/TopicModelLargestHeadPinLaw", "ok", "(III)Z"⟩ : MethodName) (head1 (Jvm.Cond.code (⟨"com/example/shardpick/shardpick/generate/TopicModelLargestHeadPinLaw", "ok", "(III)Z"⟩ : MethodName) method_3_code 3 (Option.some Jvm.ClassFile.FieldType.boolean) :: ws) ({ frames := 0, cells := 0, slots := 0, locals := 0 } : Room)) (fun a U => a = #[(.int w0), (.int s0), (.int kk)] ∧ Z.Warmed39 U.vm ∧ U.heap = h0) (fun _ _ _ _ _ => True) (fun _ U o U' => Out U (Q_ok Z w0 s0 kk h0 n0) ({ frames := 0, cells := 0, slots := 0, locals := 0 } : Room).cells ({ frames := 0, cells := 0, slots := 0, locals := 0 } : Room).slots o U') := by
  refine MetFree.of_bodySF (plainFor_of_name opn_1) hisR ?_
  intro p e s m args below meth c s₁ Bd hml0 hP hK
  obtain ⟨rfl, hZ, hh⟩ := hP
  have hx := Bd.exec
  have hby := Bd.bytes
  have hml : c.maxLocals = 3 := hml0
  have hret := Bd.returns
  have hlk : meth.locks = false := BodyLoose.notSynchronized Bd
  have hown : s.vm.findClass "com/example/shardpick/shardpick/generate/TopicModelLargestHeadPinLaw" = some m.cls := findClass_of_methodNamed Bd.named
  have hnm := (name_of_methodNamed Bd.named Bd.method).1
  have X0 : Stand p l e ({ frames := 0, cells := 0, slots := 0, locals := 0 } : Room) s m #[(.int w0), (.int s0), (.int kk)] below meth c s₁ [] 0 0 := Stand.of_body Bd
  have e0 : s₁.heap = h0 := by rw [← hh, Bd.state]; rfl
  have N0 := Fr.nil n0
  show Go p e below (Out s (Q_ok Z w0 s0 kk h0 n0) ({ frames := 0, cells := 0, slots := 0, locals := 0 } : Room).cells ({ frames := 0, cells := 0, slots := 0, locals := 0 } : Room).slots) s₁ (entryFrame m #[(.int w0), (.int s0), (.int kk)] 3)
  refine Go.cast (oef_ok m w0 s0 kk) ?_
  show Go p e below _ s₁ (mkF m 0 #[.val (.int w0), .val (.int s0), .val (.int kk)] [])
  refine Go.by (fun t k => XS.iloadN X0.here hx rfl (hb hby od_m_3_0) rfl k) ?_
  show Go p e below _ s₁ (mkF m 1 #[.val (.int w0), .val (.int s0), .val (.int kk)] [(.int s0)])
  by_cases hp : (0 : Int32) < s0
  · refine Go.by (fun t k => XS.ifNo X0.here hx rfl (hb hby od_m_3_1) rfl ((if0 _ _).trans (tlt (show (0 : Int32) < s0 from hp)).2.2.2) k) ?_
    show Go p e below _ s₁ (mkF m 4 #[.val (.int w0), .val (.int s0), .val (.int kk)] [])
    refine Go.by (fun t k => XS.iloadN X0.here hx rfl (hb hby od_m_3_4) rfl (XS.iloadN X0.here hx rfl (hb hby od_m_3_5) rfl (XS.imul X0.here hx rfl (hb hby od_m_3_6) rfl (XS.iloadN X0.here hx rfl (hb hby od_m_3_7) rfl k)))) ?_
    show Go p e below _ s₁ (mkF m 8 #[.val (.int w0), .val (.int s0), .val (.int kk)] [(.int s0), (.int (kk * w0))])
    by_cases hq : s0 < (kk * w0)
    · refine Go.by (fun t k => XS.icmpYes X0.here hx rfl (pc0 := 8) (pc' := 15) rfl (hb hby od_m_3_8) rfl (tlt (show s0 < (kk * w0) from hq)).2.2.1 (by decide) (by decide) k) ?_
      show Go p e below _ s₁ (mkF m 15 #[.val (.int w0), .val (.int s0), .val (.int kk)] [])
      refine Go.by (fun t k => XS.iconst X0.here hx rfl (hb hby od_m_3_15) k) ?_
      show Go p e below _ s₁ (mkF m 16 #[.val (.int w0), .val (.int s0), .val (.int kk)] [(.int (0 : Int32))])
      exact Go.retN X0 hx (t := .boolean) hret (by simp) hlk (hb hby od_m_3_16) (by first | (rw [e0]; exact ⟨(0 : Int32), rfl, N0, rfl, (Or.inr ⟨rfl, fun z => z.2 hq⟩)⟩) | exact ⟨(0 : Int32), rfl, N0, rfl, (Or.inr ⟨rfl, fun z => z.2 hq⟩)⟩) (by decide) (by decide)
    · refine Go.by (fun t k => XS.icmpNo X0.here hx rfl (hb hby od_m_3_8) rfl (flt (show ¬ (s0 < (kk * w0)) from hq)).2.2.1 k) ?_
      show Go p e below _ s₁ (mkF m 11 #[.val (.int w0), .val (.int s0), .val (.int kk)] [])
      refine Go.by (fun t k => XS.iconst X0.here hx rfl (hb hby od_m_3_11) (XS.goto X0.here hx rfl (pc0 := 12) (pc' := 16) rfl (hb hby od_m_3_12) (by decide) (by decide) k)) ?_
      show Go p e below _ s₁ (mkF m 16 #[.val (.int w0), .val (.int s0), .val (.int kk)] [(.int (1 : Int32))])
      exact Go.retN X0 hx (t := .boolean) hret (by simp) hlk (hb hby od_m_3_16) (by first | (rw [e0]; exact ⟨(1 : Int32), rfl, N0, rfl, (Or.inl ⟨rfl, hp, hq⟩)⟩) | exact ⟨(1 : Int32), rfl, N0, rfl, (Or.inl ⟨rfl, hp, hq⟩)⟩) (by decide) (by decide)
  · refine Go.by (fun t k => XS.ifYes X0.here hx rfl (pc0 := 1) (pc' := 15) rfl (hb hby od_m_3_1) rfl ((if0 _ _).trans (flt (show ¬ ((0 : Int32) < s0) from hp)).2.2.2) (by decide) (by decide) k) ?_
    show Go p e below _ s₁ (mkF m 15 #[.val (.int w0), .val (.int s0), .val (.int kk)] [])
    refine Go.by (fun t k => XS.iconst X0.here hx rfl (hb hby od_m_3_15) k) ?_
    show Go p e below _ s₁ (mkF m 16 #[.val (.int w0), .val (.int s0), .val (.int kk)] [(.int (0 : Int32))])
    exact Go.retN X0 hx (t := .boolean) hret (by simp) hlk (hb hby od_m_3_16) (by first | (rw [e0]; exact ⟨(0 : Int32), rfl, N0, rfl, (Or.inr ⟨rfl, fun z => hp z.1⟩)⟩) | exact ⟨(0 : Int32), rfl, N0, rfl, (Or.inr ⟨rfl, fun z => hp z.1⟩)⟩) (by decide) (by decide)
def Q_law (Z : State) (i0 : Int32) (i1 : Int32) (i2 : Int32) (i3 : Int32) (i4 : Int32) (h0 : Heap) (n0 : Nat) (v : Option Value) (h : Heap) (L : List Loc) : Prop := v = some (.int (1 : Int32)) ∧ Fr n0 L ∧ Keep h0 h []
set_option maxRecDepth 65536 in
set_option maxHeartbeats 40000000 in
theorem rm_law (l : Launch) (Z : State) (a0 : Array Value) (hw : HW a0 Z) (ws : List Jvm.Cond) (i0 : Int32) (i1 : Int32) (i2 : Int32) (i3 : Int32) (i4 : Int32) (h0 : Heap) (n0 : Nat) (Z0 : n0 ≤ h0.size)  :
    MetFree l x (head1 (Jvm.Cond.code x code maxLocals ret :: ws) room_1) (fun a U => a = #[(.int i0), (.int i1), (.int i2), (.int i3), (.int i4)] ∧ Z.Warmed39 U.vm ∧ U.heap = h0) (fun _ _ _ _ _ => True) (fun _ U o U' => Out U (Q_law Z i0 i1 i2 i3 i4 h0 n0) room_1.cells room_1.slots o U') := by
  refine MetFree.of_bodySF (plainFor_of_name opn_1) hisR ?_
  intro p e s m args below meth c s₁ Bd hml0 hP hK
  obtain ⟨rfl, hZ, hh⟩ := hP
  have hx := Bd.exec
  have hby := Bd.bytes
  have hml : c.maxLocals = 18 := hml0
  have hret := Bd.returns
  have hlk : meth.locks = false := BodyLoose.notSynchronized Bd
  have hown : s.vm.findClass "com/example/shardpick/shardpick/generate/TopicModelLargestHeadPinLaw" = some m.cls := findClass_of_methodNamed Bd.named
  have hnm := (name_of_methodNamed Bd.named Bd.method).1
  have X0 : Stand p l e room_1 s m #[(.int i0), (.int i1), (.int i2), (.int i3), (.int i4)] below meth c s₁ [] 0 0 := Stand.of_body Bd
  have e0 : s₁.heap = h0 := by rw [← hh, Bd.state]; rfl
  have N0 := Fr.nil n0
  have K0 : Keep h0 h0 [] := Keep.refl h0 _
  show Go p e below (Out s (Q_law Z i0 i1 i2 i3 i4 h0 n0) room_1.cells room_1.slots) s₁ (entryFrame m #[(.int i0), (.int i1), (.int i2), (.int i3), (.int i4)] maxLocals)
  refine Go.cast (oef_law m i0 i1 i2 i3 i4) ?_
  show Go p e below _ s₁ (mkF m 0 #[.val (.int i0), .val (.int i1), .val (.int i2), .val (.int i3), .val (.int i4), .unset, .unset, .unset, .unset, .unset, .unset, .unset, .unset, .unset, .unset, .unset, .unset, .unset] [])
  refine Go.by (fun t k => XS.iloadN X0.here hx rfl (hb hby at_0) rfl (XS.bipush X0.here hx rfl (hb hby at_1) (XS.iand X0.here hx rfl (hb hby at_3) rfl (XS.istore X0.here hx rfl (hb hby at_4) rfl (l' := #[.val (.int i0), .val (.int i1), .val (.int i2), .val (.int i3), .val (.int i4), .val (.int (i0 &&& (15 : Int32))), .unset, .unset, .unset, .unset, .unset, .unset, .unset, .unset, .unset, .unset, .unset, .unset]) rfl k)))) ?_
  show Go p e below _ s₁ (mkF m 6 #[.val (.int i0), .val (.int i1), .val (.int i2), .val (.int i3), .val (.int i4), .val (.int (i0 &&& (15 : Int32))), .unset, .unset, .unset, .unset, .unset, .unset, .unset, .unset, .unset, .unset, .unset, .unset] [])
  refine Go.by (fun t k => XS.iloadN X0.here hx rfl (hb hby at_6) rfl (XS.bipush X0.here hx rfl (hb hby at_7) (XS.iand X0.here hx rfl (hb hby at_9) rfl (XS.istore X0.here hx rfl (hb hby at_10) rfl (l' := #[.val (.int i0), .val (.int i1), .val (.int i2), .val (.int i3), .val (.int i4), .val (.int (i0 &&& (15 : Int32))), .val (.int (i1 &&& (15 : Int32))), .unset, .unset, .unset, .unset, .unset, .unset, .unset, .unset, .unset, .unset, .unset]) rfl k)))) ?_
  show Go p e below _ s₁ (mkF m 12 #[.val (.int i0), .val (.int i1), .val (.int i2), .val (.int i3), .val (.int i4), .val (.int (i0 &&& (15 : Int32))), .val (.int (i1 &&& (15 : Int32))), .unset, .unset, .unset, .unset, .unset, .unset, .unset, .unset, .unset, .unset, .unset] [])
  refine Go.by (fun t k => XS.iloadN X0.here hx rfl (hb hby at_12) rfl (XS.bipush X0.here hx rfl (hb hby at_13) (XS.iand X0.here hx rfl (hb hby at_15) rfl (XS.istore X0.here hx rfl (hb hby at_16) rfl (l' := #[.val (.int i0), .val (.int i1), .val (.int i2), .val (.int i3), .val (.int i4), .val (.int (i0 &&& (15 : Int32))), .val (.int (i1 &&& (15 : Int32))), .val (.int (i2 &&& (15 : Int32))), .unset, .unset, .unset, .unset, .unset, .unset, .unset, .unset, .unset, .unset]) rfl k)))) ?_
  show Go p e below _ s₁ (mkF m 18 #[.val (.int i0), .val (.int i1), .val (.int i2), .val (.int i3), .val (.int i4), .val (.int (i0 &&& (15 : Int32))), .val (.int (i1 &&& (15 : Int32))), .val (.int (i2 &&& (15 : Int32))), .unset, .unset, .unset, .unset, .unset, .unset, .unset, .unset, .unset, .unset] [])
  refine Go.by (fun t k => XS.iloadN X0.here hx rfl (hb hby at_18) rfl (XS.bipush X0.here hx rfl (hb hby at_19) (XS.iand X0.here hx rfl (hb hby at_21) rfl (XS.istore X0.here hx rfl (hb hby at_22) rfl (l' := #[.val (.int i0), .val (.int i1), .val (.int i2), .val (.int i3), .val (.int i4), .val (.int (i0 &&& (15 : Int32))), .val (.int (i1 &&& (15 : Int32))), .val (.int (i2 &&& (15 : Int32))), .val (.int (i3 &&& (15 : Int32))), .unset, .unset, .unset, .unset, .unset, .unset, .unset, .unset, .unset]) rfl k)))) ?_
  show Go p e below _ s₁ (mkF m 24 #[.val (.int i0), .val (.int i1), .val (.int i2), .val (.int i3), .val (.int i4), .val (.int (i0 &&& (15 : Int32))), .val (.int (i1 &&& (15 : Int32))), .val (.int (i2 &&& (15 : Int32))), .val (.int (i3 &&& (15 : Int32))), .unset, .unset, .unset, .unset, .unset, .unset, .unset, .unset, .unset] [])
  refine Go.by (fun t k => XS.iload X0.here hx rfl (hb hby at_24) rfl (XS.bipush X0.here hx rfl (hb hby at_26) (XS.iand X0.here hx rfl (hb hby at_28) rfl (XS.iconst X0.here hx rfl (hb hby at_29) k)))) ?_
  show Go p e below _ s₁ (mkF m 30 #[.val (.int i0), .val (.int i1), .val (.int i2), .val (.int i3), .val (.int i4), .val (.int (i0 &&& (15 : Int32))), .val (.int (i1 &&& (15 : Int32))), .val (.int (i2 &&& (15 : Int32))), .val (.int (i3 &&& (15 : Int32))), .unset, .unset, .unset, .unset, .unset, .unset, .unset, .unset, .unset] [(.int (1 : Int32)), (.int (i4 &&& (7 : Int32)))])
  refine Go.by (fun t k => XS.iadd X0.here hx rfl (hb hby at_30) rfl (XS.istore X0.here hx rfl (hb hby at_31) rfl (l' := #[.val (.int i0), .val (.int i1), .val (.int i2), .val (.int i3), .val (.int i4), .val (.int (i0 &&& (15 : Int32))), .val (.int (i1 &&& (15 : Int32))), .val (.int (i2 &&& (15 : Int32))), .val (.int (i3 &&& (15 : Int32))), .val (.int ((i4 &&& (7 : Int32)) + (1 : Int32))), .unset, .unset, .unset, .unset, .unset, .unset, .unset, .unset]) rfl (XS.iconst X0.here hx rfl (hb hby at_33) k))) ?_
  show Go p e below _ s₁ (mkF m 34 #[.val (.int i0), .val (.int i1), .val (.int i2), .val (.int i3), .val (.int i4), .val (.int (i0 &&& (15 : Int32))), .val (.int (i1 &&& (15 : Int32))), .val (.int (i2 &&& (15 : Int32))), .val (.int (i3 &&& (15 : Int32))), .val (.int ((i4 &&& (7 : Int32)) + (1 : Int32))), .unset, .unset, .unset, .unset, .unset, .unset, .unset, .unset] [(.int (4 : Int32))])
  obtain ⟨T163, h163, k163, X163, e163, E163, A163, st163⟩ := newP X0 hx hZ (aty := .double) (ow0 hw) e0 (g := (mkF m 34 #[.val (.int i0), .val (.int i1), .val (.int i2), .val (.int i3), .val (.int i4), .val (.int (i0 &&& (15 : Int32))), .val (.int (i1 &&& (15 : Int32))), .val (.int (i2 &&& (15 : Int32))), .val (.int (i3 &&& (15 : Int32))), .val (.int ((i4 &&& (7 : Int32)) + (1 : Int32))), .unset, .unset, .unset, .unset, .unset, .unset, .unset, .unset] [(.int (4 : Int32))])) rfl (hb hby at_34) rfl (by decide) (cap := 4) (by decide) (by decide) (by decide) (by decide)
  obtain ⟨b163, g163⟩ : ∃ z, z = h0.size := ⟨_, rfl⟩
  rw [← g163] at A163 st163
  refine Go.by st163 ?_
  have K164 : Keep h0 h163 [] := K0.ext E163
  show Go p e below _ T163 (mkF m 36 #[.val (.int i0), .val (.int i1), .val (.int i2), .val (.int i3), .val (.int i4), .val (.int (i0 &&& (15 : Int32))), .val (.int (i1 &&& (15 : Int32))), .val (.int (i2 &&& (15 : Int32))), .val (.int (i3 &&& (15 : Int32))), .val (.int ((i4 &&& (7 : Int32)) + (1 : Int32))), .unset, .unset, .unset, .unset, .unset, .unset, .unset, .unset] [(.ref b163)])
  have V163 : Arv Z h163 b163 k163 .double (4 : Int32) [(.double (FP.l2d 0)), (.double (FP.l2d 0)), (.double (FP.l2d 0)), (.double (FP.l2d 0))] (.double (FP.l2d 0)) := (Arv.newD A163 (by decide)).pad (pad_rep [] (.double (FP.l2d 0)) 4)
  refine Go.by (fun t k => XS.astore X163.here hx rfl (hb hby at_36) rfl rfl (l' := #[.val (.int i0), .val (.int i1), .val (.int i2), .val (.int i3), .val (.int i4), .val (.int (i0 &&& (15 : Int32))), .val (.int (i1 &&& (15 : Int32))), .val (.int (i2 &&& (15 : Int32))), .val (.int (i3 &&& (15 : Int32))), .val (.int ((i4 &&& (7 : Int32)) + (1 : Int32))), .val (.ref b163), .unset, .unset, .unset, .unset, .unset, .unset, .unset]) rfl (XS.aload X163.here hx rfl (hb hby at_38) rfl rfl (XS.iconst X163.here hx rfl (hb hby at_40) (XS.iload X163.here hx rfl (hb hby at_41) rfl k)))) ?_
  show Go p e below _ T163 (mkF m 43 #[.val (.int i0), .val (.int i1), .val (.int i2), .val (.int i3), .val (.int i4), .val (.int (i0 &&& (15 : Int32))), .val (.int (i1 &&& (15 : Int32))), .val (.int (i2 &&& (15 : Int32))), .val (.int (i3 &&& (15 : Int32))), .val (.int ((i4 &&& (7 : Int32)) + (1 : Int32))), .val (.ref b163), .unset, .unset, .unset, .unset, .unset, .unset, .unset] [(.int (i0 &&& (15 : Int32))), (.int (0 : Int32)), (.ref b163)])
  refine Go.by (fun t k => XS.i2dS X163.here hx rfl (hb hby at_43) rfl (i2d_w _) k) ?_
  show Go p e below _ T163 (mkF m 44 #[.val (.int i0), .val (.int i1), .val (.int i2), .val (.int i3), .val (.int i4), .val (.int (i0 &&& (15 : Int32))), .val (.int (i1 &&& (15 : Int32))), .val (.int (i2 &&& (15 : Int32))), .val (.int (i3 &&& (15 : Int32))), .val (.int ((i4 &&& (7 : Int32)) + (1 : Int32))), .val (.ref b163), .unset, .unset, .unset, .unset, .unset, .unset, .unset] [(.double (FP.l2d (i0 &&& (15 : Int32)).toInt64)), (.int (0 : Int32)), (.ref b163)])
  obtain ⟨c165, A165, q165, S165, M165, G165, J165⟩ := id V163
  obtain ⟨T165, h165, X165, e165, W165, st165⟩ := stD X163 hx hZ e163 A165 (j := (0 : Int32)) (inb_of S165 ⟨by decide, by decide⟩) (g := (mkF m 44 #[.val (.int i0), .val (.int i1), .val (.int i2), .val (.int i3), .val (.int i4), .val (.int (i0 &&& (15 : Int32))), .val (.int (i1 &&& (15 : Int32))), .val (.int (i2 &&& (15 : Int32))), .val (.int (i3 &&& (15 : Int32))), .val (.int ((i4 &&& (7 : Int32)) + (1 : Int32))), .val (.ref b163), .unset, .unset, .unset, .unset, .unset, .unset, .unset] [(.double (FP.l2d (i0 &&& (15 : Int32)).toInt64)), (.int (0 : Int32)), (.ref b163)])) rfl rfl (hb hby at_44)
  refine Go.by st165 ?_
  have N165 := Fr.snoc X165 N0 (Nat.le_trans (Nat.le_trans Z0 (Nat.le_refl _)) (Nat.le_of_eq g163.symm))
  have K166 : Keep h0 h165 [] := K164.wr W165 (Or.inr (Nat.le_trans (Nat.le_refl _) (Nat.le_of_eq g163.symm)))
  show Go p e below _ T165 (mkF m 45 #[.val (.int i0), .val (.int i1), .val (.int i2), .val (.int i3), .val (.int i4), .val (.int (i0 &&& (15 : Int32))), .val (.int (i1 &&& (15 : Int32))), .val (.int (i2 &&& (15 : Int32))), .val (.int (i3 &&& (15 : Int32))), .val (.int ((i4 &&& (7 : Int32)) + (1 : Int32))), .val (.ref b163), .unset, .unset, .unset, .unset, .unset, .unset, .unset] [])
  have V165 : Arv Z h165 b163 k163 .double (4 : Int32) ([(.double (FP.l2d (i0 &&& (15 : Int32)).toInt64)), (.double (FP.l2d 0)), (.double (FP.l2d 0)), (.double (FP.l2d 0))]) (.double (FP.l2d 0)) := Arv.set A165 q165 S165 M165 G165 J165 rfl W165 0 rfl (Nat.le_of_ble_eq_true rfl)
  refine Go.by (fun t k => XS.aload X165.here hx rfl (hb hby at_45) rfl rfl (XS.iconst X165.here hx rfl (hb hby at_47) (XS.iload X165.here hx rfl (hb hby at_48) rfl (XS.i2dS X165.here hx rfl (hb hby at_50) rfl (i2d_w _) k)))) ?_
  show Go p e below _ T165 (mkF m 51 #[.val (.int i0), .val (.int i1), .val (.int i2), .val (.int i3), .val (.int i4), .val (.int (i0 &&& (15 : Int32))), .val (.int (i1 &&& (15 : Int32))), .val (.int (i2 &&& (15 : Int32))), .val (.int (i3 &&& (15 : Int32))), .val (.int ((i4 &&& (7 : Int32)) + (1 : Int32))), .val (.ref b163), .unset, .unset, .unset, .unset, .unset, .unset, .unset] [(.double (FP.l2d (i1 &&& (15 : Int32)).toInt64)), (.int (1 : Int32)), (.ref b163)])
  obtain ⟨c167, A167, q167, S167, M167, G167, J167⟩ := id V165
  obtain ⟨T167, h167, X167, e167, W167, st167⟩ := stD X165 hx hZ e165 A167 (j := (1 : Int32)) (inb_of S167 ⟨by decide, by decide⟩) (g := (mkF m 51 #[.val (.int i0), .val (.int i1), .val (.int i2), .val (.int i3), .val (.int i4), .val (.int (i0 &&& (15 : Int32))), .val (.int (i1 &&& (15 : Int32))), .val (.int (i2 &&& (15 : Int32))), .val (.int (i3 &&& (15 : Int32))), .val (.int ((i4 &&& (7 : Int32)) + (1 : Int32))), .val (.ref b163), .unset, .unset, .unset, .unset, .unset, .unset, .unset] [(.double (FP.l2d (i1 &&& (15 : Int32)).toInt64)), (.int (1 : Int32)), (.ref b163)])) rfl rfl (hb hby at_51)
  refine Go.by st167 ?_
  have N167 := Fr.snoc X167 N165 (Nat.le_trans (Nat.le_trans Z0 (Nat.le_refl _)) (Nat.le_of_eq g163.symm))
  have K168 : Keep h0 h167 [] := K166.wr W167 (Or.inr (Nat.le_trans (Nat.le_refl _) (Nat.le_of_eq g163.symm)))
  show Go p e below _ T167 (mkF m 52 #[.val (.int i0), .val (.int i1), .val (.int i2), .val (.int i3), .val (.int i4), .val (.int (i0 &&& (15 : Int32))), .val (.int (i1 &&& (15 : Int32))), .val (.int (i2 &&& (15 : Int32))), .val (.int (i3 &&& (15 : Int32))), .val (.int ((i4 &&& (7 : Int32)) + (1 : Int32))), .val (.ref b163), .unset, .unset, .unset, .unset, .unset, .unset, .unset] [])
  have V167 : Arv Z h167 b163 k163 .double (4 : Int32) ([(.double (FP.l2d (i0 &&& (15 : Int32)).toInt64)), (.double (FP.l2d (i1 &&& (15 : Int32)).toInt64)), (.double (FP.l2d 0)), (.double (FP.l2d 0))]) (.double (FP.l2d 0)) := Arv.set A167 q167 S167 M167 G167 J167 rfl W167 1 rfl (Nat.le_of_ble_eq_true rfl)
  refine Go.by (fun t k => XS.aload X167.here hx rfl (hb hby at_52) rfl rfl (XS.iconst X167.here hx rfl (hb hby at_54) (XS.iload X167.here hx rfl (hb hby at_55) rfl (XS.i2dS X167.here hx rfl (hb hby at_57) rfl (i2d_w _) k)))) ?_
  show Go p e below _ T167 (mkF m 58 #[.val (.int i0), .val (.int i1), .val (.int i2), .val (.int i3), .val (.int i4), .val (.int (i0 &&& (15 : Int32))), .val (.int (i1 &&& (15 : Int32))), .val (.int (i2 &&& (15 : Int32))), .val (.int (i3 &&& (15 : Int32))), .val (.int ((i4 &&& (7 : Int32)) + (1 : Int32))), .val (.ref b163), .unset, .unset, .unset, .unset, .unset, .unset, .unset] [(.double (FP.l2d (i2 &&& (15 : Int32)).toInt64)), (.int (2 : Int32)), (.ref b163)])
  obtain ⟨c169, A169, q169, S169, M169, G169, J169⟩ := id V167
  obtain ⟨T169, h169, X169, e169, W169, st169⟩ := stD X167 hx hZ e167 A169 (j := (2 : Int32)) (inb_of S169 ⟨by decide, by decide⟩) (g := (mkF m 58 #[.val (.int i0), .val (.int i1), .val (.int i2), .val (.int i3), .val (.int i4), .val (.int (i0 &&& (15 : Int32))), .val (.int (i1 &&& (15 : Int32))), .val (.int (i2 &&& (15 : Int32))), .val (.int (i3 &&& (15 : Int32))), .val (.int ((i4 &&& (7 : Int32)) + (1 : Int32))), .val (.ref b163), .unset, .unset, .unset, .unset, .unset, .unset, .unset] [(.double (FP.l2d (i2 &&& (15 : Int32)).toInt64)), (.int (2 : Int32)), (.ref b163)])) rfl rfl (hb hby at_58)
  refine Go.by st169 ?_
  have N169 := Fr.snoc X169 N167 (Nat.le_trans (Nat.le_trans Z0 (Nat.le_refl _)) (Nat.le_of_eq g163.symm))
  have K170 : Keep h0 h169 [] := K168.wr W169 (Or.inr (Nat.le_trans (Nat.le_refl _) (Nat.le_of_eq g163.symm)))
  show Go p e below _ T169 (mkF m 59 #[.val (.int i0), .val (.int i1), .val (.int i2), .val (.int i3), .val (.int i4), .val (.int (i0 &&& (15 : Int32))), .val (.int (i1 &&& (15 : Int32))), .val (.int (i2 &&& (15 : Int32))), .val (.int (i3 &&& (15 : Int32))), .val (.int ((i4 &&& (7 : Int32)) + (1 : Int32))), .val (.ref b163), .unset, .unset, .unset, .unset, .unset, .unset, .unset] [])
  have V169 : Arv Z h169 b163 k163 .double (4 : Int32) ([(.double (FP.l2d (i0 &&& (15 : Int32)).toInt64)), (.double (FP.l2d (i1 &&& (15 : Int32)).toInt64)), (.double (FP.l2d (i2 &&& (15 : Int32)).toInt64)), (.double (FP.l2d 0))]) (.double (FP.l2d 0)) := Arv.set A169 q169 S169 M169 G169 J169 rfl W169 2 rfl (Nat.le_of_ble_eq_true rfl)
  refine Go.by (fun t k => XS.aload X169.here hx rfl (hb hby at_59) rfl rfl (XS.iconst X169.here hx rfl (hb hby at_61) (XS.iload X169.here hx rfl (hb hby at_62) rfl (XS.i2dS X169.here hx rfl (hb hby at_64) rfl (i2d_w _) k)))) ?_
  show Go p e below _ T169 (mkF m 65 #[.val (.int i0), .val (.int i1), .val (.int i2), .val (.int i3), .val (.int i4), .val (.int (i0 &&& (15 : Int32))), .val (.int (i1 &&& (15 : Int32))), .val (.int (i2 &&& (15 : Int32))), .val (.int (i3 &&& (15 : Int32))), .val (.int ((i4 &&& (7 : Int32)) + (1 : Int32))), .val (.ref b163), .unset, .unset, .unset, .unset, .unset, .unset, .unset] [(.double (FP.l2d (i3 &&& (15 : Int32)).toInt64)), (.int (3 : Int32)), (.ref b163)])
  obtain ⟨c171, A171, q171, S171, M171, G171, J171⟩ := id V169
  obtain ⟨T171, h171, X171, e171, W171, st171⟩ := stD X169 hx hZ e169 A171 (j := (3 : Int32)) (inb_of S171 ⟨by decide, by decide⟩) (g := (mkF m 65 #[.val (.int i0), .val (.int i1), .val (.int i2), .val (.int i3), .val (.int i4), .val (.int (i0 &&& (15 : Int32))), .val (.int (i1 &&& (15 : Int32))), .val (.int (i2 &&& (15 : Int32))), .val (.int (i3 &&& (15 : Int32))), .val (.int ((i4 &&& (7 : Int32)) + (1 : Int32))), .val (.ref b163), .unset, .unset, .unset, .unset, .unset, .unset, .unset] [(.double (FP.l2d (i3 &&& (15 : Int32)).toInt64)), (.int (3 : Int32)), (.ref b163)])) rfl rfl (hb hby at_65)
  refine Go.by st171 ?_
  have N171 := Fr.snoc X171 N169 (Nat.le_trans (Nat.le_trans Z0 (Nat.le_refl _)) (Nat.le_of_eq g163.symm))
  have K172 : Keep h0 h171 [] := K170.wr W171 (Or.inr (Nat.le_trans (Nat.le_refl _) (Nat.le_of_eq g163.symm)))
  show Go p e below _ T171 (mkF m 66 #[.val (.int i0), .val (.int i1), .val (.int i2), .val (.int i3), .val (.int i4), .val (.int (i0 &&& (15 : Int32))), .val (.int (i1 &&& (15 : Int32))), .val (.int (i2 &&& (15 : Int32))), .val (.int (i3 &&& (15 : Int32))), .val (.int ((i4 &&& (7 : Int32)) + (1 : Int32))), .val (.ref b163), .unset, .unset, .unset, .unset, .unset, .unset, .unset] [])
  have V171 : Arv Z h171 b163 k163 .double (4 : Int32) ([(.double (FP.l2d (i0 &&& (15 : Int32)).toInt64)), (.double (FP.l2d (i1 &&& (15 : Int32)).toInt64)), (.double (FP.l2d (i2 &&& (15 : Int32)).toInt64)), (.double (FP.l2d (i3 &&& (15 : Int32)).toInt64))]) (.double (FP.l2d 0)) := Arv.set A171 q171 S171 M171 G171 J171 rfl W171 3 rfl (Nat.le_of_ble_eq_true rfl)
  refine Go.by (fun t k => XS.aload X171.here hx rfl (hb hby at_66) rfl rfl (XS.iload X171.here hx rfl (hb hby at_68) rfl k)) ?_
  show Go p e below _ T171 (mkF m 70 #[.val (.int i0), .val (.int i1), .val (.int i2), .val (.int i3), .val (.int i4), .val (.int (i0 &&& (15 : Int32))), .val (.int (i1 &&& (15 : Int32))), .val (.int (i2 &&& (15 : Int32))), .val (.int (i3 &&& (15 : Int32))), .val (.int ((i4 &&& (7 : Int32)) + (1 : Int32))), .val (.ref b163), .unset, .unset, .unset, .unset, .unset, .unset, .unset] [(.int ((i4 &&& (7 : Int32)) + (1 : Int32))), (.ref b163)])
  have B0 := sm_mask i0
  have B1 := sm_mask i1
  have B2 := sm_mask i2
  have B3 := sm_mask i3
  have BK := k_mask i4
  obtain ⟨_, _, ⟨T173, L173, k173, n173⟩, -, X173, ⟨Lc173, hQ173, l173, y173, z173⟩, st173⟩ := Jvm.LawKit.callS X171 hx (y := (⟨"com/example/shardpick/shardpick/generate/TopicModel", "largestHead", "([DI)I"⟩ : MethodName)) hown (mvT hZ (ow1 hw)) (mvT hZ (ow2 hw)) (mvT hZ (ow3 hw)) (mvT hZ (ow4 hw)) (by decide) (backOf (W := 0) (rm_lh l Z a0 hw [] b163 k163 (i0 &&& (15 : Int32)) (i1 &&& (15 : Int32)) (i2 &&& (15 : Int32)) (i3 &&& (15 : Int32)) ((i4 &&& (7 : Int32)) + (1 : Int32)) h171 n0 (Nat.le_trans Z0 (Nat.le_trans (Nat.le_trans (Nat.le_trans (Nat.le_trans E163.1 (Keep.of_wr W165).1) (Keep.of_wr W167).1) (Keep.of_wr W169).1) (Keep.of_wr W171).1)) V171 B0 B1 B2 B3 BK) hZ (ow4 hw) (ow3 hw) (by decide) (by decide)) (g := (mkF m 70 #[.val (.int i0), .val (.int i1), .val (.int i2), .val (.int i3), .val (.int i4), .val (.int (i0 &&& (15 : Int32))), .val (.int (i1 &&& (15 : Int32))), .val (.int (i2 &&& (15 : Int32))), .val (.int (i3 &&& (15 : Int32))), .val (.int ((i4 &&& (7 : Int32)) + (1 : Int32))), .val (.ref b163), .unset, .unset, .unset, .unset, .unset, .unset, .unset] [(.int ((i4 &&& (7 : Int32)) + (1 : Int32))), (.ref b163)])) rfl (by rw [hml]; rfl) (argsL := [(.ref b163), (.int ((i4 &&& (7 : Int32)) + (1 : Int32)))]) (rest := []) (lenOf opd_0 rfl) rfl (by show 2 * 0 + _ ≤ _; exact Nat.le_of_eq rfl) (hb hby at_70) (fun _ _ => ⟨rfl, e171, (by decide : 1 + 1 ≤ _), (by decide : 4 + 5 ≤ _)⟩)
  dsimp only [Pt.U, Pt.locs, Pt.cells, Pt.slots] at X173 l173 y173 z173 st173 hQ173
  subst l173 y173 z173
  obtain ⟨r_173, rfl, N173q, K173q, P173_0⟩ := hQ173
  have N173 := Fr.app N171 N173q
  refine Go.by st173 ?_
  have K174 : Keep h0 T173.heap [] := K172.trans K173q all0
  show Go p e below _ T173 (mkF m 73 #[.val (.int i0), .val (.int i1), .val (.int i2), .val (.int i3), .val (.int i4), .val (.int (i0 &&& (15 : Int32))), .val (.int (i1 &&& (15 : Int32))), .val (.int (i2 &&& (15 : Int32))), .val (.int (i3 &&& (15 : Int32))), .val (.int ((i4 &&& (7 : Int32)) + (1 : Int32))), .val (.ref b163), .unset, .unset, .unset, .unset, .unset, .unset, .unset] [(.int r_173)])
  have hr0 := P173_0
  refine Go.by (fun t k => XS.istore X173.here hx rfl (hb hby at_73) rfl (l' := #[.val (.int i0), .val (.int i1), .val (.int i2), .val (.int i3), .val (.int i4), .val (.int (i0 &&& (15 : Int32))), .val (.int (i1 &&& (15 : Int32))), .val (.int (i2 &&& (15 : Int32))), .val (.int (i3 &&& (15 : Int32))), .val (.int ((i4 &&& (7 : Int32)) + (1 : Int32))), .val (.ref b163), .val (.int r_173), .unset, .unset, .unset, .unset, .unset, .unset]) rfl (XS.iload X173.here hx rfl (hb hby at_75) rfl (XS.istore X173.here hx rfl (hb hby at_77) rfl (l' := #[.val (.int i0), .val (.int i1), .val (.int i2), .val (.int i3), .val (.int i4), .val (.int (i0 &&& (15 : Int32))), .val (.int (i1 &&& (15 : Int32))), .val (.int (i2 &&& (15 : Int32))), .val (.int (i3 &&& (15 : Int32))), .val (.int ((i4 &&& (7 : Int32)) + (1 : Int32))), .val (.ref b163), .val (.int r_173), .val (.int (i3 &&& (15 : Int32))), .unset, .unset, .unset, .unset, .unset]) rfl (XS.iload X173.here hx rfl (hb hby at_79) rfl k)))) ?_
  show Go p e below _ T173 (mkF m 81 #[.val (.int i0), .val (.int i1), .val (.int i2), .val (.int i3), .val (.int i4), .val (.int (i0 &&& (15 : Int32))), .val (.int (i1 &&& (15 : Int32))), .val (.int (i2 &&& (15 : Int32))), .val (.int (i3 &&& (15 : Int32))), .val (.int ((i4 &&& (7 : Int32)) + (1 : Int32))), .val (.ref b163), .val (.int r_173), .val (.int (i3 &&& (15 : Int32))), .unset, .unset, .unset, .unset, .unset] [(.int (i2 &&& (15 : Int32)))])
  refine Go.by (fun t k => XS.iload X173.here hx rfl (hb hby at_81) rfl (XS.iadd X173.here hx rfl (hb hby at_83) rfl (XS.istore X173.here hx rfl (hb hby at_84) rfl (l' := #[.val (.int i0), .val (.int i1), .val (.int i2), .val (.int i3), .val (.int i4), .val (.int (i0 &&& (15 : Int32))), .val (.int (i1 &&& (15 : Int32))), .val (.int (i2 &&& (15 : Int32))), .val (.int (i3 &&& (15 : Int32))), .val (.int ((i4 &&& (7 : Int32)) + (1 : Int32))), .val (.ref b163), .val (.int r_173), .val (.int (i3 &&& (15 : Int32))), .val (.int ((i2 &&& (15 : Int32)) + (i3 &&& (15 : Int32)))), .unset, .unset, .unset, .unset]) rfl (XS.iload X173.here hx rfl (hb hby at_86) rfl k)))) ?_
  show Go p e below _ T173 (mkF m 88 #[.val (.int i0), .val (.int i1), .val (.int i2), .val (.int i3), .val (.int i4), .val (.int (i0 &&& (15 : Int32))), .val (.int (i1 &&& (15 : Int32))), .val (.int (i2 &&& (15 : Int32))), .val (.int (i3 &&& (15 : Int32))), .val (.int ((i4 &&& (7 : Int32)) + (1 : Int32))), .val (.ref b163), .val (.int r_173), .val (.int (i3 &&& (15 : Int32))), .val (.int ((i2 &&& (15 : Int32)) + (i3 &&& (15 : Int32)))), .unset, .unset, .unset, .unset] [(.int (i1 &&& (15 : Int32)))])
  refine Go.by (fun t k => XS.iload X173.here hx rfl (hb hby at_88) rfl (XS.iadd X173.here hx rfl (hb hby at_90) rfl (XS.istore X173.here hx rfl (hb hby at_91) rfl (l' := #[.val (.int i0), .val (.int i1), .val (.int i2), .val (.int i3), .val (.int i4), .val (.int (i0 &&& (15 : Int32))), .val (.int (i1 &&& (15 : Int32))), .val (.int (i2 &&& (15 : Int32))), .val (.int (i3 &&& (15 : Int32))), .val (.int ((i4 &&& (7 : Int32)) + (1 : Int32))), .val (.ref b163), .val (.int r_173), .val (.int (i3 &&& (15 : Int32))), .val (.int ((i2 &&& (15 : Int32)) + (i3 &&& (15 : Int32)))), .val (.int ((i1 &&& (15 : Int32)) + ((i2 &&& (15 : Int32)) + (i3 &&& (15 : Int32))))), .unset, .unset, .unset]) rfl (XS.iload X173.here hx rfl (hb hby at_93) rfl k)))) ?_
  show Go p e below _ T173 (mkF m 95 #[.val (.int i0), .val (.int i1), .val (.int i2), .val (.int i3), .val (.int i4), .val (.int (i0 &&& (15 : Int32))), .val (.int (i1 &&& (15 : Int32))), .val (.int (i2 &&& (15 : Int32))), .val (.int (i3 &&& (15 : Int32))), .val (.int ((i4 &&& (7 : Int32)) + (1 : Int32))), .val (.ref b163), .val (.int r_173), .val (.int (i3 &&& (15 : Int32))), .val (.int ((i2 &&& (15 : Int32)) + (i3 &&& (15 : Int32)))), .val (.int ((i1 &&& (15 : Int32)) + ((i2 &&& (15 : Int32)) + (i3 &&& (15 : Int32))))), .unset, .unset, .unset] [(.int (i0 &&& (15 : Int32)))])
  refine Go.by (fun t k => XS.iload X173.here hx rfl (hb hby at_95) rfl (XS.iadd X173.here hx rfl (hb hby at_97) rfl (XS.istore X173.here hx rfl (hb hby at_98) rfl (l' := #[.val (.int i0), .val (.int i1), .val (.int i2), .val (.int i3), .val (.int i4), .val (.int (i0 &&& (15 : Int32))), .val (.int (i1 &&& (15 : Int32))), .val (.int (i2 &&& (15 : Int32))), .val (.int (i3 &&& (15 : Int32))), .val (.int ((i4 &&& (7 : Int32)) + (1 : Int32))), .val (.ref b163), .val (.int r_173), .val (.int (i3 &&& (15 : Int32))), .val (.int ((i2 &&& (15 : Int32)) + (i3 &&& (15 : Int32)))), .val (.int ((i1 &&& (15 : Int32)) + ((i2 &&& (15 : Int32)) + (i3 &&& (15 : Int32))))), .val (.int ((i0 &&& (15 : Int32)) + ((i1 &&& (15 : Int32)) + ((i2 &&& (15 : Int32)) + (i3 &&& (15 : Int32)))))), .unset, .unset]) rfl (XS.iconst X173.here hx rfl (hb hby at_100) k)))) ?_
  show Go p e below _ T173 (mkF m 101 #[.val (.int i0), .val (.int i1), .val (.int i2), .val (.int i3), .val (.int i4), .val (.int (i0 &&& (15 : Int32))), .val (.int (i1 &&& (15 : Int32))), .val (.int (i2 &&& (15 : Int32))), .val (.int (i3 &&& (15 : Int32))), .val (.int ((i4 &&& (7 : Int32)) + (1 : Int32))), .val (.ref b163), .val (.int r_173), .val (.int (i3 &&& (15 : Int32))), .val (.int ((i2 &&& (15 : Int32)) + (i3 &&& (15 : Int32)))), .val (.int ((i1 &&& (15 : Int32)) + ((i2 &&& (15 : Int32)) + (i3 &&& (15 : Int32))))), .val (.int ((i0 &&& (15 : Int32)) + ((i1 &&& (15 : Int32)) + ((i2 &&& (15 : Int32)) + (i3 &&& (15 : Int32)))))), .unset, .unset] [(.int (4 : Int32))])
  refine Go.by (fun t k => XS.iload X173.here hx rfl (hb hby at_101) rfl (XS.isub X173.here hx rfl (hb hby at_103) rfl (XS.istore X173.here hx rfl (hb hby at_104) rfl (l' := #[.val (.int i0), .val (.int i1), .val (.int i2), .val (.int i3), .val (.int i4), .val (.int (i0 &&& (15 : Int32))), .val (.int (i1 &&& (15 : Int32))), .val (.int (i2 &&& (15 : Int32))), .val (.int (i3 &&& (15 : Int32))), .val (.int ((i4 &&& (7 : Int32)) + (1 : Int32))), .val (.ref b163), .val (.int r_173), .val (.int (i3 &&& (15 : Int32))), .val (.int ((i2 &&& (15 : Int32)) + (i3 &&& (15 : Int32)))), .val (.int ((i1 &&& (15 : Int32)) + ((i2 &&& (15 : Int32)) + (i3 &&& (15 : Int32))))), .val (.int ((i0 &&& (15 : Int32)) + ((i1 &&& (15 : Int32)) + ((i2 &&& (15 : Int32)) + (i3 &&& (15 : Int32)))))), .val (.int ((4 : Int32) - ((i4 &&& (7 : Int32)) + (1 : Int32)))), .unset]) rfl (XS.iload X173.here hx rfl (hb hby at_106) rfl k)))) ?_
  show Go p e below _ T173 (mkF m 108 #[.val (.int i0), .val (.int i1), .val (.int i2), .val (.int i3), .val (.int i4), .val (.int (i0 &&& (15 : Int32))), .val (.int (i1 &&& (15 : Int32))), .val (.int (i2 &&& (15 : Int32))), .val (.int (i3 &&& (15 : Int32))), .val (.int ((i4 &&& (7 : Int32)) + (1 : Int32))), .val (.ref b163), .val (.int r_173), .val (.int (i3 &&& (15 : Int32))), .val (.int ((i2 &&& (15 : Int32)) + (i3 &&& (15 : Int32)))), .val (.int ((i1 &&& (15 : Int32)) + ((i2 &&& (15 : Int32)) + (i3 &&& (15 : Int32))))), .val (.int ((i0 &&& (15 : Int32)) + ((i1 &&& (15 : Int32)) + ((i2 &&& (15 : Int32)) + (i3 &&& (15 : Int32)))))), .val (.int ((4 : Int32) - ((i4 &&& (7 : Int32)) + (1 : Int32)))), .unset] [(.int ((4 : Int32) - ((i4 &&& (7 : Int32)) + (1 : Int32))))])
  have D3 : Sm 15 (i3 &&& (15 : Int32)) := B3
  have es3 : (i3 &&& (15 : Int32)).toInt = (i3 &&& (15 : Int32)).toInt := rfl
  have ad2 := B2.add D3 (by decide)
  have D2 : Sm 30 ((i2 &&& (15 : Int32)) + (i3 &&& (15 : Int32))) := by have h1 := B2.1; have h2 := B2.2; have h3 := D3.1; have h4 := D3.2; exact ⟨by omega, by omega⟩
  have es2 : ((i2 &&& (15 : Int32)) + (i3 &&& (15 : Int32))).toInt = ((i3 &&& (15 : Int32)).toInt + (i2 &&& (15 : Int32)).toInt) := by rw [ad2, es3]; omega
  have ad1 := B1.add D2 (by decide)
  have D1 : Sm 45 ((i1 &&& (15 : Int32)) + ((i2 &&& (15 : Int32)) + (i3 &&& (15 : Int32)))) := by have h1 := B1.1; have h2 := B1.2; have h3 := D2.1; have h4 := D2.2; exact ⟨by omega, by omega⟩
  have es1 : ((i1 &&& (15 : Int32)) + ((i2 &&& (15 : Int32)) + (i3 &&& (15 : Int32)))).toInt = ((i3 &&& (15 : Int32)).toInt + (i2 &&& (15 : Int32)).toInt + (i1 &&& (15 : Int32)).toInt) := by rw [ad1, es2]; omega
  have ad0 := B0.add D1 (by decide)
  have D0 : Sm 60 ((i0 &&& (15 : Int32)) + ((i1 &&& (15 : Int32)) + ((i2 &&& (15 : Int32)) + (i3 &&& (15 : Int32))))) := by have h1 := B0.1; have h2 := B0.2; have h3 := D1.1; have h4 := D1.2; exact ⟨by omega, by omega⟩
  have es0 : ((i0 &&& (15 : Int32)) + ((i1 &&& (15 : Int32)) + ((i2 &&& (15 : Int32)) + (i3 &&& (15 : Int32))))).toInt = ((i3 &&& (15 : Int32)).toInt + (i2 &&& (15 : Int32)).toInt + (i1 &&& (15 : Int32)).toInt + (i0 &&& (15 : Int32)).toInt) := by rw [ad0, es1]; omega
  have nx0 : ∀ (T175 : State) (LL175 : List Loc), Stand p l e room_1 s m #[(.int i0), (.int i1), (.int i2), (.int i3), (.int i4)] below meth c T175 LL175 2 9 → T175.heap = T173.heap → Fr n0 LL175 → (¬ (((i4 &&& (7 : Int32)) + (1 : Int32)).toInt ≤ 4 ∧ okZ (i0 &&& (15 : Int32)).toInt ((i3 &&& (15 : Int32)).toInt + (i2 &&& (15 : Int32)).toInt + (i1 &&& (15 : Int32)).toInt + (i0 &&& (15 : Int32)).toInt) ((i4 &&& (7 : Int32)) + (1 : Int32)).toInt)) → Go p e below (Out s (Q_law Z i0 i1 i2 i3 i4 h0 n0) room_1.cells room_1.slots) T175 (mkF m 129 #[.val (.int i0), .val (.int i1), .val (.int i2), .val (.int i3), .val (.int i4), .val (.int (i0 &&& (15 : Int32))), .val (.int (i1 &&& (15 : Int32))), .val (.int (i2 &&& (15 : Int32))), .val (.int (i3 &&& (15 : Int32))), .val (.int ((i4 &&& (7 : Int32)) + (1 : Int32))), .val (.ref b163), .val (.int r_173), .val (.int (i3 &&& (15 : Int32))), .val (.int ((i2 &&& (15 : Int32)) + (i3 &&& (15 : Int32)))), .val (.int ((i1 &&& (15 : Int32)) + ((i2 &&& (15 : Int32)) + (i3 &&& (15 : Int32))))), .val (.int ((i0 &&& (15 : Int32)) + ((i1 &&& (15 : Int32)) + ((i2 &&& (15 : Int32)) + (i3 &&& (15 : Int32)))))), .val (.int ((4 : Int32) - ((i4 &&& (7 : Int32)) + (1 : Int32)))), .unset] []) := by
    intro T175 LL175 X175 e175 N175 no0
    refine Go.by (fun t k => XS.iload X175.here hx rfl (hb hby at_129) rfl (XS.iconst X175.here hx rfl (hb hby at_131) k)) ?_
    show Go p e below _ T175 (mkF m 132 #[.val (.int i0), .val (.int i1), .val (.int i2), .val (.int i3), .val (.int i4), .val (.int (i0 &&& (15 : Int32))), .val (.int (i1 &&& (15 : Int32))), .val (.int (i2 &&& (15 : Int32))), .val (.int (i3 &&& (15 : Int32))), .val (.int ((i4 &&& (7 : Int32)) + (1 : Int32))), .val (.ref b163), .val (.int r_173), .val (.int (i3 &&& (15 : Int32))), .val (.int ((i2 &&& (15 : Int32)) + (i3 &&& (15 : Int32)))), .val (.int ((i1 &&& (15 : Int32)) + ((i2 &&& (15 : Int32)) + (i3 &&& (15 : Int32))))), .val (.int ((i0 &&& (15 : Int32)) + ((i1 &&& (15 : Int32)) + ((i2 &&& (15 : Int32)) + (i3 &&& (15 : Int32)))))), .val (.int ((4 : Int32) - ((i4 &&& (7 : Int32)) + (1 : Int32)))), .unset] [(.int (1 : Int32)), (.int ((4 : Int32) - ((i4 &&& (7 : Int32)) + (1 : Int32))))])
    have nx1 : ∀ (T176 : State) (LL176 : List Loc), Stand p l e room_1 s m #[(.int i0), (.int i1), (.int i2), (.int i3), (.int i4)] below meth c T176 LL176 2 9 → T176.heap = T173.heap → Fr n0 LL176 → (¬ (((i4 &&& (7 : Int32)) + (1 : Int32)).toInt ≤ 3 ∧ okZ (i1 &&& (15 : Int32)).toInt ((i3 &&& (15 : Int32)).toInt + (i2 &&& (15 : Int32)).toInt + (i1 &&& (15 : Int32)).toInt) ((i4 &&& (7 : Int32)) + (1 : Int32)).toInt)) → Go p e below (Out s (Q_law Z i0 i1 i2 i3 i4 h0 n0) room_1.cells room_1.slots) T176 (mkF m 153 #[.val (.int i0), .val (.int i1), .val (.int i2), .val (.int i3), .val (.int i4), .val (.int (i0 &&& (15 : Int32))), .val (.int (i1 &&& (15 : Int32))), .val (.int (i2 &&& (15 : Int32))), .val (.int (i3 &&& (15 : Int32))), .val (.int ((i4 &&& (7 : Int32)) + (1 : Int32))), .val (.ref b163), .val (.int r_173), .val (.int (i3 &&& (15 : Int32))), .val (.int ((i2 &&& (15 : Int32)) + (i3 &&& (15 : Int32)))), .val (.int ((i1 &&& (15 : Int32)) + ((i2 &&& (15 : Int32)) + (i3 &&& (15 : Int32))))), .val (.int ((i0 &&& (15 : Int32)) + ((i1 &&& (15 : Int32)) + ((i2 &&& (15 : Int32)) + (i3 &&& (15 : Int32)))))), .val (.int ((4 : Int32) - ((i4 &&& (7 : Int32)) + (1 : Int32)))), .unset] []) := by
      intro T176 LL176 X176 e176 N176 no1
      refine Go.by (fun t k => XS.iload X176.here hx rfl (hb hby at_153) rfl (XS.iconst X176.here hx rfl (hb hby at_155) k)) ?_
      show Go p e below _ T176 (mkF m 156 #[.val (.int i0), .val (.int i1), .val (.int i2), .val (.int i3), .val (.int i4), .val (.int (i0 &&& (15 : Int32))), .val (.int (i1 &&& (15 : Int32))), .val (.int (i2 &&& (15 : Int32))), .val (.int (i3 &&& (15 : Int32))), .val (.int ((i4 &&& (7 : Int32)) + (1 : Int32))), .val (.ref b163), .val (.int r_173), .val (.int (i3 &&& (15 : Int32))), .val (.int ((i2 &&& (15 : Int32)) + (i3 &&& (15 : Int32)))), .val (.int ((i1 &&& (15 : Int32)) + ((i2 &&& (15 : Int32)) + (i3 &&& (15 : Int32))))), .val (.int ((i0 &&& (15 : Int32)) + ((i1 &&& (15 : Int32)) + ((i2 &&& (15 : Int32)) + (i3 &&& (15 : Int32)))))), .val (.int ((4 : Int32) - ((i4 &&& (7 : Int32)) + (1 : Int32)))), .unset] [(.int (2 : Int32)), (.int ((4 : Int32) - ((i4 &&& (7 : Int32)) + (1 : Int32))))])
      have nx2 : ∀ (T177 : State) (LL177 : List Loc), Stand p l e room_1 s m #[(.int i0), (.int i1), (.int i2), (.int i3), (.int i4)] below meth c T177 LL177 2 9 → T177.heap = T173.heap → Fr n0 LL177 → (¬ (((i4 &&& (7 : Int32)) + (1 : Int32)).toInt ≤ 2 ∧ okZ (i2 &&& (15 : Int32)).toInt ((i3 &&& (15 : Int32)).toInt + (i2 &&& (15 : Int32)).toInt) ((i4 &&& (7 : Int32)) + (1 : Int32)).toInt)) → Go p e below (Out s (Q_law Z i0 i1 i2 i3 i4 h0 n0) room_1.cells room_1.slots) T177 (mkF m 177 #[.val (.int i0), .val (.int i1), .val (.int i2), .val (.int i3), .val (.int i4), .val (.int (i0 &&& (15 : Int32))), .val (.int (i1 &&& (15 : Int32))), .val (.int (i2 &&& (15 : Int32))), .val (.int (i3 &&& (15 : Int32))), .val (.int ((i4 &&& (7 : Int32)) + (1 : Int32))), .val (.ref b163), .val (.int r_173), .val (.int (i3 &&& (15 : Int32))), .val (.int ((i2 &&& (15 : Int32)) + (i3 &&& (15 : Int32)))), .val (.int ((i1 &&& (15 : Int32)) + ((i2 &&& (15 : Int32)) + (i3 &&& (15 : Int32))))), .val (.int ((i0 &&& (15 : Int32)) + ((i1 &&& (15 : Int32)) + ((i2 &&& (15 : Int32)) + (i3 &&& (15 : Int32)))))), .val (.int ((4 : Int32) - ((i4 &&& (7 : Int32)) + (1 : Int32)))), .unset] []) := by
        intro T177 LL177 X177 e177 N177 no2
        refine Go.by (fun t k => XS.iload X177.here hx rfl (hb hby at_177) rfl (XS.iconst X177.here hx rfl (hb hby at_179) k)) ?_
        show Go p e below _ T177 (mkF m 180 #[.val (.int i0), .val (.int i1), .val (.int i2), .val (.int i3), .val (.int i4), .val (.int (i0 &&& (15 : Int32))), .val (.int (i1 &&& (15 : Int32))), .val (.int (i2 &&& (15 : Int32))), .val (.int (i3 &&& (15 : Int32))), .val (.int ((i4 &&& (7 : Int32)) + (1 : Int32))), .val (.ref b163), .val (.int r_173), .val (.int (i3 &&& (15 : Int32))), .val (.int ((i2 &&& (15 : Int32)) + (i3 &&& (15 : Int32)))), .val (.int ((i1 &&& (15 : Int32)) + ((i2 &&& (15 : Int32)) + (i3 &&& (15 : Int32))))), .val (.int ((i0 &&& (15 : Int32)) + ((i1 &&& (15 : Int32)) + ((i2 &&& (15 : Int32)) + (i3 &&& (15 : Int32)))))), .val (.int ((4 : Int32) - ((i4 &&& (7 : Int32)) + (1 : Int32)))), .unset] [(.int (3 : Int32)), (.int ((4 : Int32) - ((i4 &&& (7 : Int32)) + (1 : Int32))))])
        have nx3 : ∀ (T178 : State) (LL178 : List Loc), Stand p l e room_1 s m #[(.int i0), (.int i1), (.int i2), (.int i3), (.int i4)] below meth c T178 LL178 2 9 → T178.heap = T173.heap → Fr n0 LL178 → (¬ (((i4 &&& (7 : Int32)) + (1 : Int32)).toInt ≤ 1 ∧ okZ (i3 &&& (15 : Int32)).toInt (i3 &&& (15 : Int32)).toInt ((i4 &&& (7 : Int32)) + (1 : Int32)).toInt)) → Go p e below (Out s (Q_law Z i0 i1 i2 i3 i4 h0 n0) room_1.cells room_1.slots) T178 (mkF m 201 #[.val (.int i0), .val (.int i1), .val (.int i2), .val (.int i3), .val (.int i4), .val (.int (i0 &&& (15 : Int32))), .val (.int (i1 &&& (15 : Int32))), .val (.int (i2 &&& (15 : Int32))), .val (.int (i3 &&& (15 : Int32))), .val (.int ((i4 &&& (7 : Int32)) + (1 : Int32))), .val (.ref b163), .val (.int r_173), .val (.int (i3 &&& (15 : Int32))), .val (.int ((i2 &&& (15 : Int32)) + (i3 &&& (15 : Int32)))), .val (.int ((i1 &&& (15 : Int32)) + ((i2 &&& (15 : Int32)) + (i3 &&& (15 : Int32))))), .val (.int ((i0 &&& (15 : Int32)) + ((i1 &&& (15 : Int32)) + ((i2 &&& (15 : Int32)) + (i3 &&& (15 : Int32)))))), .val (.int ((4 : Int32) - ((i4 &&& (7 : Int32)) + (1 : Int32)))), .unset] []) := by
          intro T178 LL178 X178 e178 N178 no3
          refine Go.by (fun t k => XS.iconst X178.here hx rfl (hb hby at_201) (XS.istore X178.here hx rfl (hb hby at_202) rfl (l' := #[.val (.int i0), .val (.int i1), .val (.int i2), .val (.int i3), .val (.int i4), .val (.int (i0 &&& (15 : Int32))), .val (.int (i1 &&& (15 : Int32))), .val (.int (i2 &&& (15 : Int32))), .val (.int (i3 &&& (15 : Int32))), .val (.int ((i4 &&& (7 : Int32)) + (1 : Int32))), .val (.ref b163), .val (.int r_173), .val (.int (i3 &&& (15 : Int32))), .val (.int ((i2 &&& (15 : Int32)) + (i3 &&& (15 : Int32)))), .val (.int ((i1 &&& (15 : Int32)) + ((i2 &&& (15 : Int32)) + (i3 &&& (15 : Int32))))), .val (.int ((i0 &&& (15 : Int32)) + ((i1 &&& (15 : Int32)) + ((i2 &&& (15 : Int32)) + (i3 &&& (15 : Int32)))))), .val (.int ((4 : Int32) - ((i4 &&& (7 : Int32)) + (1 : Int32)))), .val (.int (-1 : Int32))]) rfl (XS.iload X178.here hx rfl (hb hby at_204) rfl (XS.iload X178.here hx rfl (hb hby at_206) rfl k)))) ?_
          show Go p e below _ T178 (mkF m 208 #[.val (.int i0), .val (.int i1), .val (.int i2), .val (.int i3), .val (.int i4), .val (.int (i0 &&& (15 : Int32))), .val (.int (i1 &&& (15 : Int32))), .val (.int (i2 &&& (15 : Int32))), .val (.int (i3 &&& (15 : Int32))), .val (.int ((i4 &&& (7 : Int32)) + (1 : Int32))), .val (.ref b163), .val (.int r_173), .val (.int (i3 &&& (15 : Int32))), .val (.int ((i2 &&& (15 : Int32)) + (i3 &&& (15 : Int32)))), .val (.int ((i1 &&& (15 : Int32)) + ((i2 &&& (15 : Int32)) + (i3 &&& (15 : Int32))))), .val (.int ((i0 &&& (15 : Int32)) + ((i1 &&& (15 : Int32)) + ((i2 &&& (15 : Int32)) + (i3 &&& (15 : Int32)))))), .val (.int ((4 : Int32) - ((i4 &&& (7 : Int32)) + (1 : Int32)))), .val (.int (-1 : Int32))] [(.int (-1 : Int32)), (.int r_173)])
          refine Go.by (fun t k => XS.icmpNo X178.here hx rfl (hb hby at_208) rfl (teq (show r_173 = (-1 : Int32) from (hr0.trans (by unfold lhZ; rw [if_neg no0, if_neg no1, if_neg no2, if_neg no3])))).2 k) ?_
          show Go p e below _ T178 (mkF m 211 #[.val (.int i0), .val (.int i1), .val (.int i2), .val (.int i3), .val (.int i4), .val (.int (i0 &&& (15 : Int32))), .val (.int (i1 &&& (15 : Int32))), .val (.int (i2 &&& (15 : Int32))), .val (.int (i3 &&& (15 : Int32))), .val (.int ((i4 &&& (7 : Int32)) + (1 : Int32))), .val (.ref b163), .val (.int r_173), .val (.int (i3 &&& (15 : Int32))), .val (.int ((i2 &&& (15 : Int32)) + (i3 &&& (15 : Int32)))), .val (.int ((i1 &&& (15 : Int32)) + ((i2 &&& (15 : Int32)) + (i3 &&& (15 : Int32))))), .val (.int ((i0 &&& (15 : Int32)) + ((i1 &&& (15 : Int32)) + ((i2 &&& (15 : Int32)) + (i3 &&& (15 : Int32)))))), .val (.int ((4 : Int32) - ((i4 &&& (7 : Int32)) + (1 : Int32)))), .val (.int (-1 : Int32))] [])
          refine Go.by (fun t k => XS.iconst X178.here hx rfl (hb hby at_211) (XS.goto X178.here hx rfl (pc0 := 212) (pc' := 216) rfl (hb hby at_212) (by decide) (by decide) k)) ?_
          show Go p e below _ T178 (mkF m 216 #[.val (.int i0), .val (.int i1), .val (.int i2), .val (.int i3), .val (.int i4), .val (.int (i0 &&& (15 : Int32))), .val (.int (i1 &&& (15 : Int32))), .val (.int (i2 &&& (15 : Int32))), .val (.int (i3 &&& (15 : Int32))), .val (.int ((i4 &&& (7 : Int32)) + (1 : Int32))), .val (.ref b163), .val (.int r_173), .val (.int (i3 &&& (15 : Int32))), .val (.int ((i2 &&& (15 : Int32)) + (i3 &&& (15 : Int32)))), .val (.int ((i1 &&& (15 : Int32)) + ((i2 &&& (15 : Int32)) + (i3 &&& (15 : Int32))))), .val (.int ((i0 &&& (15 : Int32)) + ((i1 &&& (15 : Int32)) + ((i2 &&& (15 : Int32)) + (i3 &&& (15 : Int32)))))), .val (.int ((4 : Int32) - ((i4 &&& (7 : Int32)) + (1 : Int32)))), .val (.int (-1 : Int32))] [(.int (1 : Int32))])
          exact Go.retN X178 hx (t := .boolean) hret (by simp) hlk (hb hby at_216) (by first | (rw [e178]; exact ⟨rfl, N178, K174⟩) | exact ⟨rfl, N178, K174⟩) (by decide) (by decide)
        by_cases hA3 : ((4 : Int32) - ((i4 &&& (7 : Int32)) + (1 : Int32))) < (3 : Int32)
        · refine Go.by (fun t k => XS.icmpYes X177.here hx rfl (pc0 := 180) (pc' := 201) rfl (hb hby at_180) rfl (tlt (show ((4 : Int32) - ((i4 &&& (7 : Int32)) + (1 : Int32))) < (3 : Int32) from hA3)).1 (by decide) (by decide) k) ?_
          show Go p e below _ T177 (mkF m 201 #[.val (.int i0), .val (.int i1), .val (.int i2), .val (.int i3), .val (.int i4), .val (.int (i0 &&& (15 : Int32))), .val (.int (i1 &&& (15 : Int32))), .val (.int (i2 &&& (15 : Int32))), .val (.int (i3 &&& (15 : Int32))), .val (.int ((i4 &&& (7 : Int32)) + (1 : Int32))), .val (.ref b163), .val (.int r_173), .val (.int (i3 &&& (15 : Int32))), .val (.int ((i2 &&& (15 : Int32)) + (i3 &&& (15 : Int32)))), .val (.int ((i1 &&& (15 : Int32)) + ((i2 &&& (15 : Int32)) + (i3 &&& (15 : Int32))))), .val (.int ((i0 &&& (15 : Int32)) + ((i1 &&& (15 : Int32)) + ((i2 &&& (15 : Int32)) + (i3 &&& (15 : Int32)))))), .val (.int ((4 : Int32) - ((i4 &&& (7 : Int32)) + (1 : Int32)))), .unset] [])
          exact nx3 _ _ X177 e177 N177 (fun z => absurd z.1 (by have u := (lt4 BK).mp hA3; have e : (3 : Int32).toInt = 3 := (by decide); rw [e] at u; omega))
        · refine Go.by (fun t k => XS.icmpNo X177.here hx rfl (hb hby at_180) rfl (flt (show ¬ (((4 : Int32) - ((i4 &&& (7 : Int32)) + (1 : Int32))) < (3 : Int32)) from hA3)).1 k) ?_
          show Go p e below _ T177 (mkF m 183 #[.val (.int i0), .val (.int i1), .val (.int i2), .val (.int i3), .val (.int i4), .val (.int (i0 &&& (15 : Int32))), .val (.int (i1 &&& (15 : Int32))), .val (.int (i2 &&& (15 : Int32))), .val (.int (i3 &&& (15 : Int32))), .val (.int ((i4 &&& (7 : Int32)) + (1 : Int32))), .val (.ref b163), .val (.int r_173), .val (.int (i3 &&& (15 : Int32))), .val (.int ((i2 &&& (15 : Int32)) + (i3 &&& (15 : Int32)))), .val (.int ((i1 &&& (15 : Int32)) + ((i2 &&& (15 : Int32)) + (i3 &&& (15 : Int32))))), .val (.int ((i0 &&& (15 : Int32)) + ((i1 &&& (15 : Int32)) + ((i2 &&& (15 : Int32)) + (i3 &&& (15 : Int32)))))), .val (.int ((4 : Int32) - ((i4 &&& (7 : Int32)) + (1 : Int32)))), .unset] [])
          refine Go.by (fun t k => XS.iload X177.here hx rfl (hb hby at_183) rfl (XS.iload X177.here hx rfl (hb hby at_185) rfl (XS.iload X177.here hx rfl (hb hby at_187) rfl k))) ?_
          show Go p e below _ T177 (mkF m 189 #[.val (.int i0), .val (.int i1), .val (.int i2), .val (.int i3), .val (.int i4), .val (.int (i0 &&& (15 : Int32))), .val (.int (i1 &&& (15 : Int32))), .val (.int (i2 &&& (15 : Int32))), .val (.int (i3 &&& (15 : Int32))), .val (.int ((i4 &&& (7 : Int32)) + (1 : Int32))), .val (.ref b163), .val (.int r_173), .val (.int (i3 &&& (15 : Int32))), .val (.int ((i2 &&& (15 : Int32)) + (i3 &&& (15 : Int32)))), .val (.int ((i1 &&& (15 : Int32)) + ((i2 &&& (15 : Int32)) + (i3 &&& (15 : Int32))))), .val (.int ((i0 &&& (15 : Int32)) + ((i1 &&& (15 : Int32)) + ((i2 &&& (15 : Int32)) + (i3 &&& (15 : Int32)))))), .val (.int ((4 : Int32) - ((i4 &&& (7 : Int32)) + (1 : Int32)))), .unset] [(.int ((i4 &&& (7 : Int32)) + (1 : Int32))), (.int (i3 &&& (15 : Int32))), (.int (i3 &&& (15 : Int32)))])
          obtain ⟨_, _, ⟨T179, L179, k179, n179⟩, -, X179, ⟨Lc179, hQ179, l179, y179, z179⟩, st179⟩ := Jvm.LawKit.callS X177 hx (y := (⟨"com/example/shardpick/shardpick/generate/TopicModelLargestHeadPinLaw", "ok", "(III)Z"⟩ : MethodName)) hown (mvT hZ (ow5 hw)) (mvT hZ (ow6 hw)) (mvT hZ (ow7 hw)) (mvT hZ (ow8 hw)) (by decide) (backOf (W := 0) (rm_ok l Z a0 hw [] (i3 &&& (15 : Int32)) (i3 &&& (15 : Int32)) ((i4 &&& (7 : Int32)) + (1 : Int32)) T173.heap n0 (Nat.le_trans Z0 (Nat.le_trans (Nat.le_trans (Nat.le_trans (Nat.le_trans (Nat.le_trans E163.1 (Keep.of_wr W165).1) (Keep.of_wr W167).1) (Keep.of_wr W169).1) (Keep.of_wr W171).1) K173q.1)) ) hZ (ow8 hw) (ow7 hw) (by decide) (by decide)) (g := (mkF m 189 #[.val (.int i0), .val (.int i1), .val (.int i2), .val (.int i3), .val (.int i4), .val (.int (i0 &&& (15 : Int32))), .val (.int (i1 &&& (15 : Int32))), .val (.int (i2 &&& (15 : Int32))), .val (.int (i3 &&& (15 : Int32))), .val (.int ((i4 &&& (7 : Int32)) + (1 : Int32))), .val (.ref b163), .val (.int r_173), .val (.int (i3 &&& (15 : Int32))), .val (.int ((i2 &&& (15 : Int32)) + (i3 &&& (15 : Int32)))), .val (.int ((i1 &&& (15 : Int32)) + ((i2 &&& (15 : Int32)) + (i3 &&& (15 : Int32))))), .val (.int ((i0 &&& (15 : Int32)) + ((i1 &&& (15 : Int32)) + ((i2 &&& (15 : Int32)) + (i3 &&& (15 : Int32)))))), .val (.int ((4 : Int32) - ((i4 &&& (7 : Int32)) + (1 : Int32)))), .unset] [(.int ((i4 &&& (7 : Int32)) + (1 : Int32))), (.int (i3 &&& (15 : Int32))), (.int (i3 &&& (15 : Int32)))])) rfl (by rw [hml]; rfl) (argsL := [(.int (i3 &&& (15 : Int32))), (.int (i3 &&& (15 : Int32))), (.int ((i4 &&& (7 : Int32)) + (1 : Int32)))]) (rest := []) (lenOf opd_1 rfl) rfl (by show 2 * 0 + _ ≤ _; exact Nat.le_of_eq rfl) (hb hby at_189) (fun _ _ => ⟨rfl, e177, (by decide : 2 + 0 ≤ _), (by decide : 9 + 0 ≤ _)⟩)
          dsimp only [Pt.U, Pt.locs, Pt.cells, Pt.slots] at X179 l179 y179 z179 st179 hQ179
          subst l179 y179 z179
          obtain ⟨r_179, rfl, N179q, e179, P179_0⟩ := hQ179
          have N179 := Fr.app N177 N179q
          refine Go.by st179 ?_
          show Go p e below _ T179 (mkF m 192 #[.val (.int i0), .val (.int i1), .val (.int i2), .val (.int i3), .val (.int i4), .val (.int (i0 &&& (15 : Int32))), .val (.int (i1 &&& (15 : Int32))), .val (.int (i2 &&& (15 : Int32))), .val (.int (i3 &&& (15 : Int32))), .val (.int ((i4 &&& (7 : Int32)) + (1 : Int32))), .val (.ref b163), .val (.int r_173), .val (.int (i3 &&& (15 : Int32))), .val (.int ((i2 &&& (15 : Int32)) + (i3 &&& (15 : Int32)))), .val (.int ((i1 &&& (15 : Int32)) + ((i2 &&& (15 : Int32)) + (i3 &&& (15 : Int32))))), .val (.int ((i0 &&& (15 : Int32)) + ((i1 &&& (15 : Int32)) + ((i2 &&& (15 : Int32)) + (i3 &&& (15 : Int32)))))), .val (.int ((4 : Int32) - ((i4 &&& (7 : Int32)) + (1 : Int32)))), .unset] [(.int r_179)])
          rcases P179_0 with ⟨hr, hp, hq⟩ | ⟨hr, hno⟩
          all_goals subst hr
          · show Go p e below _ T179 (mkF m 192 #[.val (.int i0), .val (.int i1), .val (.int i2), .val (.int i3), .val (.int i4), .val (.int (i0 &&& (15 : Int32))), .val (.int (i1 &&& (15 : Int32))), .val (.int (i2 &&& (15 : Int32))), .val (.int (i3 &&& (15 : Int32))), .val (.int ((i4 &&& (7 : Int32)) + (1 : Int32))), .val (.ref b163), .val (.int r_173), .val (.int (i3 &&& (15 : Int32))), .val (.int ((i2 &&& (15 : Int32)) + (i3 &&& (15 : Int32)))), .val (.int ((i1 &&& (15 : Int32)) + ((i2 &&& (15 : Int32)) + (i3 &&& (15 : Int32))))), .val (.int ((i0 &&& (15 : Int32)) + ((i1 &&& (15 : Int32)) + ((i2 &&& (15 : Int32)) + (i3 &&& (15 : Int32)))))), .val (.int ((4 : Int32) - ((i4 &&& (7 : Int32)) + (1 : Int32)))), .unset] [(.int (1 : Int32))])
            refine Go.by (fun t k => XS.ifNo X179.here hx rfl (hb hby at_192) rfl ((if0 _ _).trans (feq (show ¬ ((1 : Int32) = (0 : Int32)) from (by decide))).1) k) ?_
            show Go p e below _ T179 (mkF m 195 #[.val (.int i0), .val (.int i1), .val (.int i2), .val (.int i3), .val (.int i4), .val (.int (i0 &&& (15 : Int32))), .val (.int (i1 &&& (15 : Int32))), .val (.int (i2 &&& (15 : Int32))), .val (.int (i3 &&& (15 : Int32))), .val (.int ((i4 &&& (7 : Int32)) + (1 : Int32))), .val (.ref b163), .val (.int r_173), .val (.int (i3 &&& (15 : Int32))), .val (.int ((i2 &&& (15 : Int32)) + (i3 &&& (15 : Int32)))), .val (.int ((i1 &&& (15 : Int32)) + ((i2 &&& (15 : Int32)) + (i3 &&& (15 : Int32))))), .val (.int ((i0 &&& (15 : Int32)) + ((i1 &&& (15 : Int32)) + ((i2 &&& (15 : Int32)) + (i3 &&& (15 : Int32)))))), .val (.int ((4 : Int32) - ((i4 &&& (7 : Int32)) + (1 : Int32)))), .unset] [])
            refine Go.by (fun t k => XS.iconst X179.here hx rfl (hb hby at_195) (XS.istore X179.here hx rfl (hb hby at_196) rfl (l' := #[.val (.int i0), .val (.int i1), .val (.int i2), .val (.int i3), .val (.int i4), .val (.int (i0 &&& (15 : Int32))), .val (.int (i1 &&& (15 : Int32))), .val (.int (i2 &&& (15 : Int32))), .val (.int (i3 &&& (15 : Int32))), .val (.int ((i4 &&& (7 : Int32)) + (1 : Int32))), .val (.ref b163), .val (.int r_173), .val (.int (i3 &&& (15 : Int32))), .val (.int ((i2 &&& (15 : Int32)) + (i3 &&& (15 : Int32)))), .val (.int ((i1 &&& (15 : Int32)) + ((i2 &&& (15 : Int32)) + (i3 &&& (15 : Int32))))), .val (.int ((i0 &&& (15 : Int32)) + ((i1 &&& (15 : Int32)) + ((i2 &&& (15 : Int32)) + (i3 &&& (15 : Int32)))))), .val (.int ((4 : Int32) - ((i4 &&& (7 : Int32)) + (1 : Int32)))), .val (.int (3 : Int32))]) rfl (XS.goto X179.here hx rfl (pc0 := 198) (pc' := 204) rfl (hb hby at_198) (by decide) (by decide) (XS.iload X179.here hx rfl (hb hby at_204) rfl k)))) ?_
            show Go p e below _ T179 (mkF m 206 #[.val (.int i0), .val (.int i1), .val (.int i2), .val (.int i3), .val (.int i4), .val (.int (i0 &&& (15 : Int32))), .val (.int (i1 &&& (15 : Int32))), .val (.int (i2 &&& (15 : Int32))), .val (.int (i3 &&& (15 : Int32))), .val (.int ((i4 &&& (7 : Int32)) + (1 : Int32))), .val (.ref b163), .val (.int r_173), .val (.int (i3 &&& (15 : Int32))), .val (.int ((i2 &&& (15 : Int32)) + (i3 &&& (15 : Int32)))), .val (.int ((i1 &&& (15 : Int32)) + ((i2 &&& (15 : Int32)) + (i3 &&& (15 : Int32))))), .val (.int ((i0 &&& (15 : Int32)) + ((i1 &&& (15 : Int32)) + ((i2 &&& (15 : Int32)) + (i3 &&& (15 : Int32)))))), .val (.int ((4 : Int32) - ((i4 &&& (7 : Int32)) + (1 : Int32)))), .val (.int (3 : Int32))] [(.int r_173)])
            refine Go.by (fun t k => XS.iload X179.here hx rfl (hb hby at_206) rfl k) ?_
            show Go p e below _ T179 (mkF m 208 #[.val (.int i0), .val (.int i1), .val (.int i2), .val (.int i3), .val (.int i4), .val (.int (i0 &&& (15 : Int32))), .val (.int (i1 &&& (15 : Int32))), .val (.int (i2 &&& (15 : Int32))), .val (.int (i3 &&& (15 : Int32))), .val (.int ((i4 &&& (7 : Int32)) + (1 : Int32))), .val (.ref b163), .val (.int r_173), .val (.int (i3 &&& (15 : Int32))), .val (.int ((i2 &&& (15 : Int32)) + (i3 &&& (15 : Int32)))), .val (.int ((i1 &&& (15 : Int32)) + ((i2 &&& (15 : Int32)) + (i3 &&& (15 : Int32))))), .val (.int ((i0 &&& (15 : Int32)) + ((i1 &&& (15 : Int32)) + ((i2 &&& (15 : Int32)) + (i3 &&& (15 : Int32)))))), .val (.int ((4 : Int32) - ((i4 &&& (7 : Int32)) + (1 : Int32)))), .val (.int (3 : Int32))] [(.int (3 : Int32)), (.int r_173)])
            have kA : ((i4 &&& (7 : Int32)) + (1 : Int32)).toInt ≤ 1 := by
              have q : ¬ 4 - ((i4 &&& (7 : Int32)) + (1 : Int32)).toInt < (3 : Int32).toInt := fun q => hA3 ((lt4 BK).mpr q)
              have e : (3 : Int32).toInt = 3 := by decide
              rw [e] at q; omega
            have okk : okZ (i3 &&& (15 : Int32)).toInt (i3 &&& (15 : Int32)).toInt ((i4 &&& (7 : Int32)) + (1 : Int32)).toInt := by
              rw [Int32.lt_iff_toInt_lt, es3] at hp; rw [Int32.lt_iff_toInt_lt, es3, Sm.mul BK B3] at hq
              have e : (0 : Int32).toInt = 0 := by decide
              rw [e] at hp; exact ⟨hp, by omega⟩
            refine Go.by (fun t k => XS.icmpNo X179.here hx rfl (hb hby at_208) rfl (teq (show r_173 = (3 : Int32) from (hr0.trans (by unfold lhZ; rw [if_neg no0, if_neg no1, if_neg no2, if_pos ⟨kA, okk⟩])))).2 k) ?_
            show Go p e below _ T179 (mkF m 211 #[.val (.int i0), .val (.int i1), .val (.int i2), .val (.int i3), .val (.int i4), .val (.int (i0 &&& (15 : Int32))), .val (.int (i1 &&& (15 : Int32))), .val (.int (i2 &&& (15 : Int32))), .val (.int (i3 &&& (15 : Int32))), .val (.int ((i4 &&& (7 : Int32)) + (1 : Int32))), .val (.ref b163), .val (.int r_173), .val (.int (i3 &&& (15 : Int32))), .val (.int ((i2 &&& (15 : Int32)) + (i3 &&& (15 : Int32)))), .val (.int ((i1 &&& (15 : Int32)) + ((i2 &&& (15 : Int32)) + (i3 &&& (15 : Int32))))), .val (.int ((i0 &&& (15 : Int32)) + ((i1 &&& (15 : Int32)) + ((i2 &&& (15 : Int32)) + (i3 &&& (15 : Int32)))))), .val (.int ((4 : Int32) - ((i4 &&& (7 : Int32)) + (1 : Int32)))), .val (.int (3 : Int32))] [])
            refine Go.by (fun t k => XS.iconst X179.here hx rfl (hb hby at_211) (XS.goto X179.here hx rfl (pc0 := 212) (pc' := 216) rfl (hb hby at_212) (by decide) (by decide) k)) ?_
            show Go p e below _ T179 (mkF m 216 #[.val (.int i0), .val (.int i1), .val (.int i2), .val (.int i3), .val (.int i4), .val (.int (i0 &&& (15 : Int32))), .val (.int (i1 &&& (15 : Int32))), .val (.int (i2 &&& (15 : Int32))), .val (.int (i3 &&& (15 : Int32))), .val (.int ((i4 &&& (7 : Int32)) + (1 : Int32))), .val (.ref b163), .val (.int r_173), .val (.int (i3 &&& (15 : Int32))), .val (.int ((i2 &&& (15 : Int32)) + (i3 &&& (15 : Int32)))), .val (.int ((i1 &&& (15 : Int32)) + ((i2 &&& (15 : Int32)) + (i3 &&& (15 : Int32))))), .val (.int ((i0 &&& (15 : Int32)) + ((i1 &&& (15 : Int32)) + ((i2 &&& (15 : Int32)) + (i3 &&& (15 : Int32)))))), .val (.int ((4 : Int32) - ((i4 &&& (7 : Int32)) + (1 : Int32)))), .val (.int (3 : Int32))] [(.int (1 : Int32))])
            exact Go.retN X179 hx (t := .boolean) hret (by simp) hlk (hb hby at_216) (by first | (rw [e179]; exact ⟨rfl, N179, K174⟩) | exact ⟨rfl, N179, K174⟩) (by decide) (by decide)
          · show Go p e below _ T179 (mkF m 192 #[.val (.int i0), .val (.int i1), .val (.int i2), .val (.int i3), .val (.int i4), .val (.int (i0 &&& (15 : Int32))), .val (.int (i1 &&& (15 : Int32))), .val (.int (i2 &&& (15 : Int32))), .val (.int (i3 &&& (15 : Int32))), .val (.int ((i4 &&& (7 : Int32)) + (1 : Int32))), .val (.ref b163), .val (.int r_173), .val (.int (i3 &&& (15 : Int32))), .val (.int ((i2 &&& (15 : Int32)) + (i3 &&& (15 : Int32)))), .val (.int ((i1 &&& (15 : Int32)) + ((i2 &&& (15 : Int32)) + (i3 &&& (15 : Int32))))), .val (.int ((i0 &&& (15 : Int32)) + ((i1 &&& (15 : Int32)) + ((i2 &&& (15 : Int32)) + (i3 &&& (15 : Int32)))))), .val (.int ((4 : Int32) - ((i4 &&& (7 : Int32)) + (1 : Int32)))), .unset] [(.int (0 : Int32))])
            refine Go.by (fun t k => XS.ifYes X179.here hx rfl (pc0 := 192) (pc' := 201) rfl (hb hby at_192) rfl ((if0 _ _).trans (teq (show (0 : Int32) = (0 : Int32) from (by decide))).1) (by decide) (by decide) k) ?_
            show Go p e below _ T179 (mkF m 201 #[.val (.int i0), .val (.int i1), .val (.int i2), .val (.int i3), .val (.int i4), .val (.int (i0 &&& (15 : Int32))), .val (.int (i1 &&& (15 : Int32))), .val (.int (i2 &&& (15 : Int32))), .val (.int (i3 &&& (15 : Int32))), .val (.int ((i4 &&& (7 : Int32)) + (1 : Int32))), .val (.ref b163), .val (.int r_173), .val (.int (i3 &&& (15 : Int32))), .val (.int ((i2 &&& (15 : Int32)) + (i3 &&& (15 : Int32)))), .val (.int ((i1 &&& (15 : Int32)) + ((i2 &&& (15 : Int32)) + (i3 &&& (15 : Int32))))), .val (.int ((i0 &&& (15 : Int32)) + ((i1 &&& (15 : Int32)) + ((i2 &&& (15 : Int32)) + (i3 &&& (15 : Int32)))))), .val (.int ((4 : Int32) - ((i4 &&& (7 : Int32)) + (1 : Int32)))), .unset] [])
            exact nx3 _ _ X179 e179 N179 (fun z => hno ⟨by rw [Int32.lt_iff_toInt_lt, es3]; exact z.2.1, by rw [Int32.lt_iff_toInt_lt, es3, Sm.mul BK B3]; have := z.2.2; omega⟩)
      by_cases hA2 : ((4 : Int32) - ((i4 &&& (7 : Int32)) + (1 : Int32))) < (2 : Int32)
      · refine Go.by (fun t k => XS.icmpYes X176.here hx rfl (pc0 := 156) (pc' := 177) rfl (hb hby at_156) rfl (tlt (show ((4 : Int32) - ((i4 &&& (7 : Int32)) + (1 : Int32))) < (2 : Int32) from hA2)).1 (by decide) (by decide) k) ?_
        show Go p e below _ T176 (mkF m 177 #[.val (.int i0), .val (.int i1), .val (.int i2), .val (.int i3), .val (.int i4), .val (.int (i0 &&& (15 : Int32))), .val (.int (i1 &&& (15 : Int32))), .val (.int (i2 &&& (15 : Int32))), .val (.int (i3 &&& (15 : Int32))), .val (.int ((i4 &&& (7 : Int32)) + (1 : Int32))), .val (.ref b163), .val (.int r_173), .val (.int (i3 &&& (15 : Int32))), .val (.int ((i2 &&& (15 : Int32)) + (i3 &&& (15 : Int32)))), .val (.int ((i1 &&& (15 : Int32)) + ((i2 &&& (15 : Int32)) + (i3 &&& (15 : Int32))))), .val (.int ((i0 &&& (15 : Int32)) + ((i1 &&& (15 : Int32)) + ((i2 &&& (15 : Int32)) + (i3 &&& (15 : Int32)))))), .val (.int ((4 : Int32) - ((i4 &&& (7 : Int32)) + (1 : Int32)))), .unset] [])
        exact nx2 _ _ X176 e176 N176 (fun z => absurd z.1 (by have u := (lt4 BK).mp hA2; have e : (2 : Int32).toInt = 2 := (by decide); rw [e] at u; omega))
      · refine Go.by (fun t k => XS.icmpNo X176.here hx rfl (hb hby at_156) rfl (flt (show ¬ (((4 : Int32) - ((i4 &&& (7 : Int32)) + (1 : Int32))) < (2 : Int32)) from hA2)).1 k) ?_
        show Go p e below _ T176 (mkF m 159 #[.val (.int i0), .val (.int i1), .val (.int i2), .val (.int i3), .val (.int i4), .val (.int (i0 &&& (15 : Int32))), .val (.int (i1 &&& (15 : Int32))), .val (.int (i2 &&& (15 : Int32))), .val (.int (i3 &&& (15 : Int32))), .val (.int ((i4 &&& (7 : Int32)) + (1 : Int32))), .val (.ref b163), .val (.int r_173), .val (.int (i3 &&& (15 : Int32))), .val (.int ((i2 &&& (15 : Int32)) + (i3 &&& (15 : Int32)))), .val (.int ((i1 &&& (15 : Int32)) + ((i2 &&& (15 : Int32)) + (i3 &&& (15 : Int32))))), .val (.int ((i0 &&& (15 : Int32)) + ((i1 &&& (15 : Int32)) + ((i2 &&& (15 : Int32)) + (i3 &&& (15 : Int32)))))), .val (.int ((4 : Int32) - ((i4 &&& (7 : Int32)) + (1 : Int32)))), .unset] [])
        refine Go.by (fun t k => XS.iload X176.here hx rfl (hb hby at_159) rfl (XS.iload X176.here hx rfl (hb hby at_161) rfl (XS.iload X176.here hx rfl (hb hby at_163) rfl k))) ?_
        show Go p e below _ T176 (mkF m 165 #[.val (.int i0), .val (.int i1), .val (.int i2), .val (.int i3), .val (.int i4), .val (.int (i0 &&& (15 : Int32))), .val (.int (i1 &&& (15 : Int32))), .val (.int (i2 &&& (15 : Int32))), .val (.int (i3 &&& (15 : Int32))), .val (.int ((i4 &&& (7 : Int32)) + (1 : Int32))), .val (.ref b163), .val (.int r_173), .val (.int (i3 &&& (15 : Int32))), .val (.int ((i2 &&& (15 : Int32)) + (i3 &&& (15 : Int32)))), .val (.int ((i1 &&& (15 : Int32)) + ((i2 &&& (15 : Int32)) + (i3 &&& (15 : Int32))))), .val (.int ((i0 &&& (15 : Int32)) + ((i1 &&& (15 : Int32)) + ((i2 &&& (15 : Int32)) + (i3 &&& (15 : Int32)))))), .val (.int ((4 : Int32) - ((i4 &&& (7 : Int32)) + (1 : Int32)))), .unset] [(.int ((i4 &&& (7 : Int32)) + (1 : Int32))), (.int ((i2 &&& (15 : Int32)) + (i3 &&& (15 : Int32)))), (.int (i2 &&& (15 : Int32)))])
        obtain ⟨_, _, ⟨T180, L180, k180, n180⟩, -, X180, ⟨Lc180, hQ180, l180, y180, z180⟩, st180⟩ := Jvm.LawKit.callS X176 hx (y := (⟨"com/example/shardpick/shardpick/generate/TopicModelLargestHeadPinLaw", "ok", "(III)Z"⟩ : MethodName)) hown (mvT hZ (ow5 hw)) (mvT hZ (ow6 hw)) (mvT hZ (ow7 hw)) (mvT hZ (ow8 hw)) (by decide) (backOf (W := 0) (rm_ok l Z a0 hw [] (i2 &&& (15 : Int32)) ((i2 &&& (15 : Int32)) + (i3 &&& (15 : Int32))) ((i4 &&& (7 : Int32)) + (1 : Int32)) T173.heap n0 (Nat.le_trans Z0 (Nat.le_trans (Nat.le_trans (Nat.le_trans (Nat.le_trans (Nat.le_trans E163.1 (Keep.of_wr W165).1) (Keep.of_wr W167).1) (Keep.of_wr W169).1) (Keep.of_wr W171).1) K173q.1)) ) hZ (ow8 hw) (ow7 hw) (by decide) (by decide)) (g := (mkF m 165 #[.val (.int i0), .val (.int i1), .val (.int i2), .val (.int i3), .val (.int i4), .val (.int (i0 &&& (15 : Int32))), .val (.int (i1 &&& (15 : Int32))), .val (.int (i2 &&& (15 : Int32))), .val (.int (i3 &&& (15 : Int32))), .val (.int ((i4 &&& (7 : Int32)) + (1 : Int32))), .val (.ref b163), .val (.int r_173), .val (.int (i3 &&& (15 : Int32))), .val (.int ((i2 &&& (15 : Int32)) + (i3 &&& (15 : Int32)))), .val (.int ((i1 &&& (15 : Int32)) + ((i2 &&& (15 : Int32)) + (i3 &&& (15 : Int32))))), .val (.int ((i0 &&& (15 : Int32)) + ((i1 &&& (15 : Int32)) + ((i2 &&& (15 : Int32)) + (i3 &&& (15 : Int32)))))), .val (.int ((4 : Int32) - ((i4 &&& (7 : Int32)) + (1 : Int32)))), .unset] [(.int ((i4 &&& (7 : Int32)) + (1 : Int32))), (.int ((i2 &&& (15 : Int32)) + (i3 &&& (15 : Int32)))), (.int (i2 &&& (15 : Int32)))])) rfl (by rw [hml]; rfl) (argsL := [(.int (i2 &&& (15 : Int32))), (.int ((i2 &&& (15 : Int32)) + (i3 &&& (15 : Int32)))), (.int ((i4 &&& (7 : Int32)) + (1 : Int32)))]) (rest := []) (lenOf opd_1 rfl) rfl (by show 2 * 0 + _ ≤ _; exact Nat.le_of_eq rfl) (hb hby at_165) (fun _ _ => ⟨rfl, e176, (by decide : 2 + 0 ≤ _), (by decide : 9 + 0 ≤ _)⟩)
        dsimp only [Pt.U, Pt.locs, Pt.cells, Pt.slots] at X180 l180 y180 z180 st180 hQ180
        subst l180 y180 z180
        obtain ⟨r_180, rfl, N180q, e180, P180_0⟩ := hQ180
        have N180 := Fr.app N176 N180q
        refine Go.by st180 ?_
        show Go p e below _ T180 (mkF m 168 #[.val (.int i0), .val (.int i1), .val (.int i2), .val (.int i3), .val (.int i4), .val (.int (i0 &&& (15 : Int32))), .val (.int (i1 &&& (15 : Int32))), .val (.int (i2 &&& (15 : Int32))), .val (.int (i3 &&& (15 : Int32))), .val (.int ((i4 &&& (7 : Int32)) + (1 : Int32))), .val (.ref b163), .val (.int r_173), .val (.int (i3 &&& (15 : Int32))), .val (.int ((i2 &&& (15 : Int32)) + (i3 &&& (15 : Int32)))), .val (.int ((i1 &&& (15 : Int32)) + ((i2 &&& (15 : Int32)) + (i3 &&& (15 : Int32))))), .val (.int ((i0 &&& (15 : Int32)) + ((i1 &&& (15 : Int32)) + ((i2 &&& (15 : Int32)) + (i3 &&& (15 : Int32)))))), .val (.int ((4 : Int32) - ((i4 &&& (7 : Int32)) + (1 : Int32)))), .unset] [(.int r_180)])
        rcases P180_0 with ⟨hr, hp, hq⟩ | ⟨hr, hno⟩
        all_goals subst hr
        · show Go p e below _ T180 (mkF m 168 #[.val (.int i0), .val (.int i1), .val (.int i2), .val (.int i3), .val (.int i4), .val (.int (i0 &&& (15 : Int32))), .val (.int (i1 &&& (15 : Int32))), .val (.int (i2 &&& (15 : Int32))), .val (.int (i3 &&& (15 : Int32))), .val (.int ((i4 &&& (7 : Int32)) + (1 : Int32))), .val (.ref b163), .val (.int r_173), .val (.int (i3 &&& (15 : Int32))), .val (.int ((i2 &&& (15 : Int32)) + (i3 &&& (15 : Int32)))), .val (.int ((i1 &&& (15 : Int32)) + ((i2 &&& (15 : Int32)) + (i3 &&& (15 : Int32))))), .val (.int ((i0 &&& (15 : Int32)) + ((i1 &&& (15 : Int32)) + ((i2 &&& (15 : Int32)) + (i3 &&& (15 : Int32)))))), .val (.int ((4 : Int32) - ((i4 &&& (7 : Int32)) + (1 : Int32)))), .unset] [(.int (1 : Int32))])
          refine Go.by (fun t k => XS.ifNo X180.here hx rfl (hb hby at_168) rfl ((if0 _ _).trans (feq (show ¬ ((1 : Int32) = (0 : Int32)) from (by decide))).1) k) ?_
          show Go p e below _ T180 (mkF m 171 #[.val (.int i0), .val (.int i1), .val (.int i2), .val (.int i3), .val (.int i4), .val (.int (i0 &&& (15 : Int32))), .val (.int (i1 &&& (15 : Int32))), .val (.int (i2 &&& (15 : Int32))), .val (.int (i3 &&& (15 : Int32))), .val (.int ((i4 &&& (7 : Int32)) + (1 : Int32))), .val (.ref b163), .val (.int r_173), .val (.int (i3 &&& (15 : Int32))), .val (.int ((i2 &&& (15 : Int32)) + (i3 &&& (15 : Int32)))), .val (.int ((i1 &&& (15 : Int32)) + ((i2 &&& (15 : Int32)) + (i3 &&& (15 : Int32))))), .val (.int ((i0 &&& (15 : Int32)) + ((i1 &&& (15 : Int32)) + ((i2 &&& (15 : Int32)) + (i3 &&& (15 : Int32)))))), .val (.int ((4 : Int32) - ((i4 &&& (7 : Int32)) + (1 : Int32)))), .unset] [])
          refine Go.by (fun t k => XS.iconst X180.here hx rfl (hb hby at_171) (XS.istore X180.here hx rfl (hb hby at_172) rfl (l' := #[.val (.int i0), .val (.int i1), .val (.int i2), .val (.int i3), .val (.int i4), .val (.int (i0 &&& (15 : Int32))), .val (.int (i1 &&& (15 : Int32))), .val (.int (i2 &&& (15 : Int32))), .val (.int (i3 &&& (15 : Int32))), .val (.int ((i4 &&& (7 : Int32)) + (1 : Int32))), .val (.ref b163), .val (.int r_173), .val (.int (i3 &&& (15 : Int32))), .val (.int ((i2 &&& (15 : Int32)) + (i3 &&& (15 : Int32)))), .val (.int ((i1 &&& (15 : Int32)) + ((i2 &&& (15 : Int32)) + (i3 &&& (15 : Int32))))), .val (.int ((i0 &&& (15 : Int32)) + ((i1 &&& (15 : Int32)) + ((i2 &&& (15 : Int32)) + (i3 &&& (15 : Int32)))))), .val (.int ((4 : Int32) - ((i4 &&& (7 : Int32)) + (1 : Int32)))), .val (.int (2 : Int32))]) rfl (XS.goto X180.here hx rfl (pc0 := 174) (pc' := 204) rfl (hb hby at_174) (by decide) (by decide) (XS.iload X180.here hx rfl (hb hby at_204) rfl k)))) ?_
          show Go p e below _ T180 (mkF m 206 #[.val (.int i0), .val (.int i1), .val (.int i2), .val (.int i3), .val (.int i4), .val (.int (i0 &&& (15 : Int32))), .val (.int (i1 &&& (15 : Int32))), .val (.int (i2 &&& (15 : Int32))), .val (.int (i3 &&& (15 : Int32))), .val (.int ((i4 &&& (7 : Int32)) + (1 : Int32))), .val (.ref b163), .val (.int r_173), .val (.int (i3 &&& (15 : Int32))), .val (.int ((i2 &&& (15 : Int32)) + (i3 &&& (15 : Int32)))), .val (.int ((i1 &&& (15 : Int32)) + ((i2 &&& (15 : Int32)) + (i3 &&& (15 : Int32))))), .val (.int ((i0 &&& (15 : Int32)) + ((i1 &&& (15 : Int32)) + ((i2 &&& (15 : Int32)) + (i3 &&& (15 : Int32)))))), .val (.int ((4 : Int32) - ((i4 &&& (7 : Int32)) + (1 : Int32)))), .val (.int (2 : Int32))] [(.int r_173)])
          refine Go.by (fun t k => XS.iload X180.here hx rfl (hb hby at_206) rfl k) ?_
          show Go p e below _ T180 (mkF m 208 #[.val (.int i0), .val (.int i1), .val (.int i2), .val (.int i3), .val (.int i4), .val (.int (i0 &&& (15 : Int32))), .val (.int (i1 &&& (15 : Int32))), .val (.int (i2 &&& (15 : Int32))), .val (.int (i3 &&& (15 : Int32))), .val (.int ((i4 &&& (7 : Int32)) + (1 : Int32))), .val (.ref b163), .val (.int r_173), .val (.int (i3 &&& (15 : Int32))), .val (.int ((i2 &&& (15 : Int32)) + (i3 &&& (15 : Int32)))), .val (.int ((i1 &&& (15 : Int32)) + ((i2 &&& (15 : Int32)) + (i3 &&& (15 : Int32))))), .val (.int ((i0 &&& (15 : Int32)) + ((i1 &&& (15 : Int32)) + ((i2 &&& (15 : Int32)) + (i3 &&& (15 : Int32)))))), .val (.int ((4 : Int32) - ((i4 &&& (7 : Int32)) + (1 : Int32)))), .val (.int (2 : Int32))] [(.int (2 : Int32)), (.int r_173)])
          have kA : ((i4 &&& (7 : Int32)) + (1 : Int32)).toInt ≤ 2 := by
            have q : ¬ 4 - ((i4 &&& (7 : Int32)) + (1 : Int32)).toInt < (2 : Int32).toInt := fun q => hA2 ((lt4 BK).mpr q)
            have e : (2 : Int32).toInt = 2 := by decide
            rw [e] at q; omega
          have okk : okZ (i2 &&& (15 : Int32)).toInt ((i3 &&& (15 : Int32)).toInt + (i2 &&& (15 : Int32)).toInt) ((i4 &&& (7 : Int32)) + (1 : Int32)).toInt := by
            rw [Int32.lt_iff_toInt_lt, es2] at hp; rw [Int32.lt_iff_toInt_lt, es2, Sm.mul BK B2] at hq
            have e : (0 : Int32).toInt = 0 := by decide
            rw [e] at hp; exact ⟨hp, by omega⟩
          refine Go.by (fun t k => XS.icmpNo X180.here hx rfl (hb hby at_208) rfl (teq (show r_173 = (2 : Int32) from (hr0.trans (by unfold lhZ; rw [if_neg no0, if_neg no1, if_pos ⟨kA, okk⟩])))).2 k) ?_
          show Go p e below _ T180 (mkF m 211 #[.val (.int i0), .val (.int i1), .val (.int i2), .val (.int i3), .val (.int i4), .val (.int (i0 &&& (15 : Int32))), .val (.int (i1 &&& (15 : Int32))), .val (.int (i2 &&& (15 : Int32))), .val (.int (i3 &&& (15 : Int32))), .val (.int ((i4 &&& (7 : Int32)) + (1 : Int32))), .val (.ref b163), .val (.int r_173), .val (.int (i3 &&& (15 : Int32))), .val (.int ((i2 &&& (15 : Int32)) + (i3 &&& (15 : Int32)))), .val (.int ((i1 &&& (15 : Int32)) + ((i2 &&& (15 : Int32)) + (i3 &&& (15 : Int32))))), .val (.int ((i0 &&& (15 : Int32)) + ((i1 &&& (15 : Int32)) + ((i2 &&& (15 : Int32)) + (i3 &&& (15 : Int32)))))), .val (.int ((4 : Int32) - ((i4 &&& (7 : Int32)) + (1 : Int32)))), .val (.int (2 : Int32))] [])
          refine Go.by (fun t k => XS.iconst X180.here hx rfl (hb hby at_211) (XS.goto X180.here hx rfl (pc0 := 212) (pc' := 216) rfl (hb hby at_212) (by decide) (by decide) k)) ?_
          show Go p e below _ T180 (mkF m 216 #[.val (.int i0), .val (.int i1), .val (.int i2), .val (.int i3), .val (.int i4), .val (.int (i0 &&& (15 : Int32))), .val (.int (i1 &&& (15 : Int32))), .val (.int (i2 &&& (15 : Int32))), .val (.int (i3 &&& (15 : Int32))), .val (.int ((i4 &&& (7 : Int32)) + (1 : Int32))), .val (.ref b163), .val (.int r_173), .val (.int (i3 &&& (15 : Int32))), .val (.int ((i2 &&& (15 : Int32)) + (i3 &&& (15 : Int32)))), .val (.int ((i1 &&& (15 : Int32)) + ((i2 &&& (15 : Int32)) + (i3 &&& (15 : Int32))))), .val (.int ((i0 &&& (15 : Int32)) + ((i1 &&& (15 : Int32)) + ((i2 &&& (15 : Int32)) + (i3 &&& (15 : Int32)))))), .val (.int ((4 : Int32) - ((i4 &&& (7 : Int32)) + (1 : Int32)))), .val (.int (2 : Int32))] [(.int (1 : Int32))])
          exact Go.retN X180 hx (t := .boolean) hret (by simp) hlk (hb hby at_216) (by first | (rw [e180]; exact ⟨rfl, N180, K174⟩) | exact ⟨rfl, N180, K174⟩) (by decide) (by decide)
        · show Go p e below _ T180 (mkF m 168 #[.val (.int i0), .val (.int i1), .val (.int i2), .val (.int i3), .val (.int i4), .val (.int (i0 &&& (15 : Int32))), .val (.int (i1 &&& (15 : Int32))), .val (.int (i2 &&& (15 : Int32))), .val (.int (i3 &&& (15 : Int32))), .val (.int ((i4 &&& (7 : Int32)) + (1 : Int32))), .val (.ref b163), .val (.int r_173), .val (.int (i3 &&& (15 : Int32))), .val (.int ((i2 &&& (15 : Int32)) + (i3 &&& (15 : Int32)))), .val (.int ((i1 &&& (15 : Int32)) + ((i2 &&& (15 : Int32)) + (i3 &&& (15 : Int32))))), .val (.int ((i0 &&& (15 : Int32)) + ((i1 &&& (15 : Int32)) + ((i2 &&& (15 : Int32)) + (i3 &&& (15 : Int32)))))), .val (.int ((4 : Int32) - ((i4 &&& (7 : Int32)) + (1 : Int32)))), .unset] [(.int (0 : Int32))])
          refine Go.by (fun t k => XS.ifYes X180.here hx rfl (pc0 := 168) (pc' := 177) rfl (hb hby at_168) rfl ((if0 _ _).trans (teq (show (0 : Int32) = (0 : Int32) from (by decide))).1) (by decide) (by decide) k) ?_
          show Go p e below _ T180 (mkF m 177 #[.val (.int i0), .val (.int i1), .val (.int i2), .val (.int i3), .val (.int i4), .val (.int (i0 &&& (15 : Int32))), .val (.int (i1 &&& (15 : Int32))), .val (.int (i2 &&& (15 : Int32))), .val (.int (i3 &&& (15 : Int32))), .val (.int ((i4 &&& (7 : Int32)) + (1 : Int32))), .val (.ref b163), .val (.int r_173), .val (.int (i3 &&& (15 : Int32))), .val (.int ((i2 &&& (15 : Int32)) + (i3 &&& (15 : Int32)))), .val (.int ((i1 &&& (15 : Int32)) + ((i2 &&& (15 : Int32)) + (i3 &&& (15 : Int32))))), .val (.int ((i0 &&& (15 : Int32)) + ((i1 &&& (15 : Int32)) + ((i2 &&& (15 : Int32)) + (i3 &&& (15 : Int32)))))), .val (.int ((4 : Int32) - ((i4 &&& (7 : Int32)) + (1 : Int32)))), .unset] [])
          exact nx2 _ _ X180 e180 N180 (fun z => hno ⟨by rw [Int32.lt_iff_toInt_lt, es2]; exact z.2.1, by rw [Int32.lt_iff_toInt_lt, es2, Sm.mul BK B2]; have := z.2.2; omega⟩)
    by_cases hA1 : ((4 : Int32) - ((i4 &&& (7 : Int32)) + (1 : Int32))) < (1 : Int32)
    · refine Go.by (fun t k => XS.icmpYes X175.here hx rfl (pc0 := 132) (pc' := 153) rfl (hb hby at_132) rfl (tlt (show ((4 : Int32) - ((i4 &&& (7 : Int32)) + (1 : Int32))) < (1 : Int32) from hA1)).1 (by decide) (by decide) k) ?_
      show Go p e below _ T175 (mkF m 153 #[.val (.int i0), .val (.int i1), .val (.int i2), .val (.int i3), .val (.int i4), .val (.int (i0 &&& (15 : Int32))), .val (.int (i1 &&& (15 : Int32))), .val (.int (i2 &&& (15 : Int32))), .val (.int (i3 &&& (15 : Int32))), .val (.int ((i4 &&& (7 : Int32)) + (1 : Int32))), .val (.ref b163), .val (.int r_173), .val (.int (i3 &&& (15 : Int32))), .val (.int ((i2 &&& (15 : Int32)) + (i3 &&& (15 : Int32)))), .val (.int ((i1 &&& (15 : Int32)) + ((i2 &&& (15 : Int32)) + (i3 &&& (15 : Int32))))), .val (.int ((i0 &&& (15 : Int32)) + ((i1 &&& (15 : Int32)) + ((i2 &&& (15 : Int32)) + (i3 &&& (15 : Int32)))))), .val (.int ((4 : Int32) - ((i4 &&& (7 : Int32)) + (1 : Int32)))), .unset] [])
      exact nx1 _ _ X175 e175 N175 (fun z => absurd z.1 (by have u := (lt4 BK).mp hA1; have e : (1 : Int32).toInt = 1 := (by decide); rw [e] at u; omega))
    · refine Go.by (fun t k => XS.icmpNo X175.here hx rfl (hb hby at_132) rfl (flt (show ¬ (((4 : Int32) - ((i4 &&& (7 : Int32)) + (1 : Int32))) < (1 : Int32)) from hA1)).1 k) ?_
      show Go p e below _ T175 (mkF m 135 #[.val (.int i0), .val (.int i1), .val (.int i2), .val (.int i3), .val (.int i4), .val (.int (i0 &&& (15 : Int32))), .val (.int (i1 &&& (15 : Int32))), .val (.int (i2 &&& (15 : Int32))), .val (.int (i3 &&& (15 : Int32))), .val (.int ((i4 &&& (7 : Int32)) + (1 : Int32))), .val (.ref b163), .val (.int r_173), .val (.int (i3 &&& (15 : Int32))), .val (.int ((i2 &&& (15 : Int32)) + (i3 &&& (15 : Int32)))), .val (.int ((i1 &&& (15 : Int32)) + ((i2 &&& (15 : Int32)) + (i3 &&& (15 : Int32))))), .val (.int ((i0 &&& (15 : Int32)) + ((i1 &&& (15 : Int32)) + ((i2 &&& (15 : Int32)) + (i3 &&& (15 : Int32)))))), .val (.int ((4 : Int32) - ((i4 &&& (7 : Int32)) + (1 : Int32)))), .unset] [])
      refine Go.by (fun t k => XS.iload X175.here hx rfl (hb hby at_135) rfl (XS.iload X175.here hx rfl (hb hby at_137) rfl (XS.iload X175.here hx rfl (hb hby at_139) rfl k))) ?_
      show Go p e below _ T175 (mkF m 141 #[.val (.int i0), .val (.int i1), .val (.int i2), .val (.int i3), .val (.int i4), .val (.int (i0 &&& (15 : Int32))), .val (.int (i1 &&& (15 : Int32))), .val (.int (i2 &&& (15 : Int32))), .val (.int (i3 &&& (15 : Int32))), .val (.int ((i4 &&& (7 : Int32)) + (1 : Int32))), .val (.ref b163), .val (.int r_173), .val (.int (i3 &&& (15 : Int32))), .val (.int ((i2 &&& (15 : Int32)) + (i3 &&& (15 : Int32)))), .val (.int ((i1 &&& (15 : Int32)) + ((i2 &&& (15 : Int32)) + (i3 &&& (15 : Int32))))), .val (.int ((i0 &&& (15 : Int32)) + ((i1 &&& (15 : Int32)) + ((i2 &&& (15 : Int32)) + (i3 &&& (15 : Int32)))))), .val (.int ((4 : Int32) - ((i4 &&& (7 : Int32)) + (1 : Int32)))), .unset] [(.int ((i4 &&& (7 : Int32)) + (1 : Int32))), (.int ((i1 &&& (15 : Int32)) + ((i2 &&& (15 : Int32)) + (i3 &&& (15 : Int32))))), (.int (i1 &&& (15 : Int32)))])
      obtain ⟨_, _, ⟨T181, L181, k181, n181⟩, -, X181, ⟨Lc181, hQ181, l181, y181, z181⟩, st181⟩ := Jvm.LawKit.callS X175 hx (y := (⟨"com/example/shardpick/shardpick/generate/TopicModelLargestHeadPinLaw", "ok", "(III)Z"⟩ : MethodName)) hown (mvT hZ (ow5 hw)) (mvT hZ (ow6 hw)) (mvT hZ (ow7 hw)) (mvT hZ (ow8 hw)) (by decide) (backOf (W := 0) (rm_ok l Z a0 hw [] (i1 &&& (15 : Int32)) ((i1 &&& (15 : Int32)) + ((i2 &&& (15 : Int32)) + (i3 &&& (15 : Int32)))) ((i4 &&& (7 : Int32)) + (1 : Int32)) T173.heap n0 (Nat.le_trans Z0 (Nat.le_trans (Nat.le_trans (Nat.le_trans (Nat.le_trans (Nat.le_trans E163.1 (Keep.of_wr W165).1) (Keep.of_wr W167).1) (Keep.of_wr W169).1) (Keep.of_wr W171).1) K173q.1)) ) hZ (ow8 hw) (ow7 hw) (by decide) (by decide)) (g := (mkF m 141 #[.val (.int i0), .val (.int i1), .val (.int i2), .val (.int i3), .val (.int i4), .val (.int (i0 &&& (15 : Int32))), .val (.int (i1 &&& (15 : Int32))), .val (.int (i2 &&& (15 : Int32))), .val (.int (i3 &&& (15 : Int32))), .val (.int ((i4 &&& (7 : Int32)) + (1 : Int32))), .val (.ref b163), .val (.int r_173), .val (.int (i3 &&& (15 : Int32))), .val (.int ((i2 &&& (15 : Int32)) + (i3 &&& (15 : Int32)))), .val (.int ((i1 &&& (15 : Int32)) + ((i2 &&& (15 : Int32)) + (i3 &&& (15 : Int32))))), .val (.int ((i0 &&& (15 : Int32)) + ((i1 &&& (15 : Int32)) + ((i2 &&& (15 : Int32)) + (i3 &&& (15 : Int32)))))), .val (.int ((4 : Int32) - ((i4 &&& (7 : Int32)) + (1 : Int32)))), .unset] [(.int ((i4 &&& (7 : Int32)) + (1 : Int32))), (.int ((i1 &&& (15 : Int32)) + ((i2 &&& (15 : Int32)) + (i3 &&& (15 : Int32))))), (.int (i1 &&& (15 : Int32)))])) rfl (by rw [hml]; rfl) (argsL := [(.int (i1 &&& (15 : Int32))), (.int ((i1 &&& (15 : Int32)) + ((i2 &&& (15 : Int32)) + (i3 &&& (15 : Int32))))), (.int ((i4 &&& (7 : Int32)) + (1 : Int32)))]) (rest := []) (lenOf opd_1 rfl) rfl (by show 2 * 0 + _ ≤ _; exact Nat.le_of_eq rfl) (hb hby at_141) (fun _ _ => ⟨rfl, e175, (by decide : 2 + 0 ≤ _), (by decide : 9 + 0 ≤ _)⟩)
      dsimp only [Pt.U, Pt.locs, Pt.cells, Pt.slots] at X181 l181 y181 z181 st181 hQ181
      subst l181 y181 z181
      obtain ⟨r_181, rfl, N181q, e181, P181_0⟩ := hQ181
      have N181 := Fr.app N175 N181q
      refine Go.by st181 ?_
      show Go p e below _ T181 (mkF m 144 #[.val (.int i0), .val (.int i1), .val (.int i2), .val (.int i3), .val (.int i4), .val (.int (i0 &&& (15 : Int32))), .val (.int (i1 &&& (15 : Int32))), .val (.int (i2 &&& (15 : Int32))), .val (.int (i3 &&& (15 : Int32))), .val (.int ((i4 &&& (7 : Int32)) + (1 : Int32))), .val (.ref b163), .val (.int r_173), .val (.int (i3 &&& (15 : Int32))), .val (.int ((i2 &&& (15 : Int32)) + (i3 &&& (15 : Int32)))), .val (.int ((i1 &&& (15 : Int32)) + ((i2 &&& (15 : Int32)) + (i3 &&& (15 : Int32))))), .val (.int ((i0 &&& (15 : Int32)) + ((i1 &&& (15 : Int32)) + ((i2 &&& (15 : Int32)) + (i3 &&& (15 : Int32)))))), .val (.int ((4 : Int32) - ((i4 &&& (7 : Int32)) + (1 : Int32)))), .unset] [(.int r_181)])
      rcases P181_0 with ⟨hr, hp, hq⟩ | ⟨hr, hno⟩
      all_goals subst hr
      · show Go p e below _ T181 (mkF m 144 #[.val (.int i0), .val (.int i1), .val (.int i2), .val (.int i3), .val (.int i4), .val (.int (i0 &&& (15 : Int32))), .val (.int (i1 &&& (15 : Int32))), .val (.int (i2 &&& (15 : Int32))), .val (.int (i3 &&& (15 : Int32))), .val (.int ((i4 &&& (7 : Int32)) + (1 : Int32))), .val (.ref b163), .val (.int r_173), .val (.int (i3 &&& (15 : Int32))), .val (.int ((i2 &&& (15 : Int32)) + (i3 &&& (15 : Int32)))), .val (.int ((i1 &&& (15 : Int32)) + ((i2 &&& (15 : Int32)) + (i3 &&& (15 : Int32))))), .val (.int ((i0 &&& (15 : Int32)) + ((i1 &&& (15 : Int32)) + ((i2 &&& (15 : Int32)) + (i3 &&& (15 : Int32)))))), .val (.int ((4 : Int32) - ((i4 &&& (7 : Int32)) + (1 : Int32)))), .unset] [(.int (1 : Int32))])
        refine Go.by (fun t k => XS.ifNo X181.here hx rfl (hb hby at_144) rfl ((if0 _ _).trans (feq (show ¬ ((1 : Int32) = (0 : Int32)) from (by decide))).1) k) ?_
        show Go p e below _ T181 (mkF m 147 #[.val (.int i0), .val (.int i1), .val (.int i2), .val (.int i3), .val (.int i4), .val (.int (i0 &&& (15 : Int32))), .val (.int (i1 &&& (15 : Int32))), .val (.int (i2 &&& (15 : Int32))), .val (.int (i3 &&& (15 : Int32))), .val (.int ((i4 &&& (7 : Int32)) + (1 : Int32))), .val (.ref b163), .val (.int r_173), .val (.int (i3 &&& (15 : Int32))), .val (.int ((i2 &&& (15 : Int32)) + (i3 &&& (15 : Int32)))), .val (.int ((i1 &&& (15 : Int32)) + ((i2 &&& (15 : Int32)) + (i3 &&& (15 : Int32))))), .val (.int ((i0 &&& (15 : Int32)) + ((i1 &&& (15 : Int32)) + ((i2 &&& (15 : Int32)) + (i3 &&& (15 : Int32)))))), .val (.int ((4 : Int32) - ((i4 &&& (7 : Int32)) + (1 : Int32)))), .unset] [])
        refine Go.by (fun t k => XS.iconst X181.here hx rfl (hb hby at_147) (XS.istore X181.here hx rfl (hb hby at_148) rfl (l' := #[.val (.int i0), .val (.int i1), .val (.int i2), .val (.int i3), .val (.int i4), .val (.int (i0 &&& (15 : Int32))), .val (.int (i1 &&& (15 : Int32))), .val (.int (i2 &&& (15 : Int32))), .val (.int (i3 &&& (15 : Int32))), .val (.int ((i4 &&& (7 : Int32)) + (1 : Int32))), .val (.ref b163), .val (.int r_173), .val (.int (i3 &&& (15 : Int32))), .val (.int ((i2 &&& (15 : Int32)) + (i3 &&& (15 : Int32)))), .val (.int ((i1 &&& (15 : Int32)) + ((i2 &&& (15 : Int32)) + (i3 &&& (15 : Int32))))), .val (.int ((i0 &&& (15 : Int32)) + ((i1 &&& (15 : Int32)) + ((i2 &&& (15 : Int32)) + (i3 &&& (15 : Int32)))))), .val (.int ((4 : Int32) - ((i4 &&& (7 : Int32)) + (1 : Int32)))), .val (.int (1 : Int32))]) rfl (XS.goto X181.here hx rfl (pc0 := 150) (pc' := 204) rfl (hb hby at_150) (by decide) (by decide) (XS.iload X181.here hx rfl (hb hby at_204) rfl k)))) ?_
        show Go p e below _ T181 (mkF m 206 #[.val (.int i0), .val (.int i1), .val (.int i2), .val (.int i3), .val (.int i4), .val (.int (i0 &&& (15 : Int32))), .val (.int (i1 &&& (15 : Int32))), .val (.int (i2 &&& (15 : Int32))), .val (.int (i3 &&& (15 : Int32))), .val (.int ((i4 &&& (7 : Int32)) + (1 : Int32))), .val (.ref b163), .val (.int r_173), .val (.int (i3 &&& (15 : Int32))), .val (.int ((i2 &&& (15 : Int32)) + (i3 &&& (15 : Int32)))), .val (.int ((i1 &&& (15 : Int32)) + ((i2 &&& (15 : Int32)) + (i3 &&& (15 : Int32))))), .val (.int ((i0 &&& (15 : Int32)) + ((i1 &&& (15 : Int32)) + ((i2 &&& (15 : Int32)) + (i3 &&& (15 : Int32)))))), .val (.int ((4 : Int32) - ((i4 &&& (7 : Int32)) + (1 : Int32)))), .val (.int (1 : Int32))] [(.int r_173)])
        refine Go.by (fun t k => XS.iload X181.here hx rfl (hb hby at_206) rfl k) ?_
        show Go p e below _ T181 (mkF m 208 #[.val (.int i0), .val (.int i1), .val (.int i2), .val (.int i3), .val (.int i4), .val (.int (i0 &&& (15 : Int32))), .val (.int (i1 &&& (15 : Int32))), .val (.int (i2 &&& (15 : Int32))), .val (.int (i3 &&& (15 : Int32))), .val (.int ((i4 &&& (7 : Int32)) + (1 : Int32))), .val (.ref b163), .val (.int r_173), .val (.int (i3 &&& (15 : Int32))), .val (.int ((i2 &&& (15 : Int32)) + (i3 &&& (15 : Int32)))), .val (.int ((i1 &&& (15 : Int32)) + ((i2 &&& (15 : Int32)) + (i3 &&& (15 : Int32))))), .val (.int ((i0 &&& (15 : Int32)) + ((i1 &&& (15 : Int32)) + ((i2 &&& (15 : Int32)) + (i3 &&& (15 : Int32)))))), .val (.int ((4 : Int32) - ((i4 &&& (7 : Int32)) + (1 : Int32)))), .val (.int (1 : Int32))] [(.int (1 : Int32)), (.int r_173)])
        have kA : ((i4 &&& (7 : Int32)) + (1 : Int32)).toInt ≤ 3 := by
          have q : ¬ 4 - ((i4 &&& (7 : Int32)) + (1 : Int32)).toInt < (1 : Int32).toInt := fun q => hA1 ((lt4 BK).mpr q)
          have e : (1 : Int32).toInt = 1 := by decide
          rw [e] at q; omega
        have okk : okZ (i1 &&& (15 : Int32)).toInt ((i3 &&& (15 : Int32)).toInt + (i2 &&& (15 : Int32)).toInt + (i1 &&& (15 : Int32)).toInt) ((i4 &&& (7 : Int32)) + (1 : Int32)).toInt := by
          rw [Int32.lt_iff_toInt_lt, es1] at hp; rw [Int32.lt_iff_toInt_lt, es1, Sm.mul BK B1] at hq
          have e : (0 : Int32).toInt = 0 := by decide
          rw [e] at hp; exact ⟨hp, by omega⟩
        refine Go.by (fun t k => XS.icmpNo X181.here hx rfl (hb hby at_208) rfl (teq (show r_173 = (1 : Int32) from (hr0.trans (by unfold lhZ; rw [if_neg no0, if_pos ⟨kA, okk⟩])))).2 k) ?_
        show Go p e below _ T181 (mkF m 211 #[.val (.int i0), .val (.int i1), .val (.int i2), .val (.int i3), .val (.int i4), .val (.int (i0 &&& (15 : Int32))), .val (.int (i1 &&& (15 : Int32))), .val (.int (i2 &&& (15 : Int32))), .val (.int (i3 &&& (15 : Int32))), .val (.int ((i4 &&& (7 : Int32)) + (1 : Int32))), .val (.ref b163), .val (.int r_173), .val (.int (i3 &&& (15 : Int32))), .val (.int ((i2 &&& (15 : Int32)) + (i3 &&& (15 : Int32)))), .val (.int ((i1 &&& (15 : Int32)) + ((i2 &&& (15 : Int32)) + (i3 &&& (15 : Int32))))), .val (.int ((i0 &&& (15 : Int32)) + ((i1 &&& (15 : Int32)) + ((i2 &&& (15 : Int32)) + (i3 &&& (15 : Int32)))))), .val (.int ((4 : Int32) - ((i4 &&& (7 : Int32)) + (1 : Int32)))), .val (.int (1 : Int32))] [])
        refine Go.by (fun t k => XS.iconst X181.here hx rfl (hb hby at_211) (XS.goto X181.here hx rfl (pc0 := 212) (pc' := 216) rfl (hb hby at_212) (by decide) (by decide) k)) ?_
        show Go p e below _ T181 (mkF m 216 #[.val (.int i0), .val (.int i1), .val (.int i2), .val (.int i3), .val (.int i4), .val (.int (i0 &&& (15 : Int32))), .val (.int (i1 &&& (15 : Int32))), .val (.int (i2 &&& (15 : Int32))), .val (.int (i3 &&& (15 : Int32))), .val (.int ((i4 &&& (7 : Int32)) + (1 : Int32))), .val (.ref b163), .val (.int r_173), .val (.int (i3 &&& (15 : Int32))), .val (.int ((i2 &&& (15 : Int32)) + (i3 &&& (15 : Int32)))), .val (.int ((i1 &&& (15 : Int32)) + ((i2 &&& (15 : Int32)) + (i3 &&& (15 : Int32))))), .val (.int ((i0 &&& (15 : Int32)) + ((i1 &&& (15 : Int32)) + ((i2 &&& (15 : Int32)) + (i3 &&& (15 : Int32)))))), .val (.int ((4 : Int32) - ((i4 &&& (7 : Int32)) + (1 : Int32)))), .val (.int (1 : Int32))] [(.int (1 : Int32))])
        exact Go.retN X181 hx (t := .boolean) hret (by simp) hlk (hb hby at_216) (by first | (rw [e181]; exact ⟨rfl, N181, K174⟩) | exact ⟨rfl, N181, K174⟩) (by decide) (by decide)
      · show Go p e below _ T181 (mkF m 144 #[.val (.int i0), .val (.int i1), .val (.int i2), .val (.int i3), .val (.int i4), .val (.int (i0 &&& (15 : Int32))), .val (.int (i1 &&& (15 : Int32))), .val (.int (i2 &&& (15 : Int32))), .val (.int (i3 &&& (15 : Int32))), .val (.int ((i4 &&& (7 : Int32)) + (1 : Int32))), .val (.ref b163), .val (.int r_173), .val (.int (i3 &&& (15 : Int32))), .val (.int ((i2 &&& (15 : Int32)) + (i3 &&& (15 : Int32)))), .val (.int ((i1 &&& (15 : Int32)) + ((i2 &&& (15 : Int32)) + (i3 &&& (15 : Int32))))), .val (.int ((i0 &&& (15 : Int32)) + ((i1 &&& (15 : Int32)) + ((i2 &&& (15 : Int32)) + (i3 &&& (15 : Int32)))))), .val (.int ((4 : Int32) - ((i4 &&& (7 : Int32)) + (1 : Int32)))), .unset] [(.int (0 : Int32))])
        refine Go.by (fun t k => XS.ifYes X181.here hx rfl (pc0 := 144) (pc' := 153) rfl (hb hby at_144) rfl ((if0 _ _).trans (teq (show (0 : Int32) = (0 : Int32) from (by decide))).1) (by decide) (by decide) k) ?_
        show Go p e below _ T181 (mkF m 153 #[.val (.int i0), .val (.int i1), .val (.int i2), .val (.int i3), .val (.int i4), .val (.int (i0 &&& (15 : Int32))), .val (.int (i1 &&& (15 : Int32))), .val (.int (i2 &&& (15 : Int32))), .val (.int (i3 &&& (15 : Int32))), .val (.int ((i4 &&& (7 : Int32)) + (1 : Int32))), .val (.ref b163), .val (.int r_173), .val (.int (i3 &&& (15 : Int32))), .val (.int ((i2 &&& (15 : Int32)) + (i3 &&& (15 : Int32)))), .val (.int ((i1 &&& (15 : Int32)) + ((i2 &&& (15 : Int32)) + (i3 &&& (15 : Int32))))), .val (.int ((i0 &&& (15 : Int32)) + ((i1 &&& (15 : Int32)) + ((i2 &&& (15 : Int32)) + (i3 &&& (15 : Int32)))))), .val (.int ((4 : Int32) - ((i4 &&& (7 : Int32)) + (1 : Int32)))), .unset] [])
        exact nx1 _ _ X181 e181 N181 (fun z => hno ⟨by rw [Int32.lt_iff_toInt_lt, es1]; exact z.2.1, by rw [Int32.lt_iff_toInt_lt, es1, Sm.mul BK B1]; have := z.2.2; omega⟩)
  by_cases hA0 : ((4 : Int32) - ((i4 &&& (7 : Int32)) + (1 : Int32))) < (0 : Int32)
  · refine Go.by (fun t k => XS.ifYes X173.here hx rfl (pc0 := 108) (pc' := 129) rfl (hb hby at_108) rfl ((if0 _ _).trans (tlt (show ((4 : Int32) - ((i4 &&& (7 : Int32)) + (1 : Int32))) < (0 : Int32) from hA0)).1) (by decide) (by decide) k) ?_
    show Go p e below _ T173 (mkF m 129 #[.val (.int i0), .val (.int i1), .val (.int i2), .val (.int i3), .val (.int i4), .val (.int (i0 &&& (15 : Int32))), .val (.int (i1 &&& (15 : Int32))), .val (.int (i2 &&& (15 : Int32))), .val (.int (i3 &&& (15 : Int32))), .val (.int ((i4 &&& (7 : Int32)) + (1 : Int32))), .val (.ref b163), .val (.int r_173), .val (.int (i3 &&& (15 : Int32))), .val (.int ((i2 &&& (15 : Int32)) + (i3 &&& (15 : Int32)))), .val (.int ((i1 &&& (15 : Int32)) + ((i2 &&& (15 : Int32)) + (i3 &&& (15 : Int32))))), .val (.int ((i0 &&& (15 : Int32)) + ((i1 &&& (15 : Int32)) + ((i2 &&& (15 : Int32)) + (i3 &&& (15 : Int32)))))), .val (.int ((4 : Int32) - ((i4 &&& (7 : Int32)) + (1 : Int32)))), .unset] [])
    exact nx0 _ _ X173 rfl N173 (fun z => absurd z.1 (by have u : _ < _ := hA0; rw [Int32.lt_iff_toInt_lt, sub4 BK] at u; have e : (0 : Int32).toInt = 0 := (by decide); rw [e] at u; omega))
  · refine Go.by (fun t k => XS.ifNo X173.here hx rfl (hb hby at_108) rfl ((if0 _ _).trans (flt (show ¬ (((4 : Int32) - ((i4 &&& (7 : Int32)) + (1 : Int32))) < (0 : Int32)) from hA0)).1) k) ?_
    show Go p e below _ T173 (mkF m 111 #[.val (.int i0), .val (.int i1), .val (.int i2), .val (.int i3), .val (.int i4), .val (.int (i0 &&& (15 : Int32))), .val (.int (i1 &&& (15 : Int32))), .val (.int (i2 &&& (15 : Int32))), .val (.int (i3 &&& (15 : Int32))), .val (.int ((i4 &&& (7 : Int32)) + (1 : Int32))), .val (.ref b163), .val (.int r_173), .val (.int (i3 &&& (15 : Int32))), .val (.int ((i2 &&& (15 : Int32)) + (i3 &&& (15 : Int32)))), .val (.int ((i1 &&& (15 : Int32)) + ((i2 &&& (15 : Int32)) + (i3 &&& (15 : Int32))))), .val (.int ((i0 &&& (15 : Int32)) + ((i1 &&& (15 : Int32)) + ((i2 &&& (15 : Int32)) + (i3 &&& (15 : Int32)))))), .val (.int ((4 : Int32) - ((i4 &&& (7 : Int32)) + (1 : Int32)))), .unset] [])
    refine Go.by (fun t k => XS.iload X173.here hx rfl (hb hby at_111) rfl (XS.iload X173.here hx rfl (hb hby at_113) rfl (XS.iload X173.here hx rfl (hb hby at_115) rfl k))) ?_
    show Go p e below _ T173 (mkF m 117 #[.val (.int i0), .val (.int i1), .val (.int i2), .val (.int i3), .val (.int i4), .val (.int (i0 &&& (15 : Int32))), .val (.int (i1 &&& (15 : Int32))), .val (.int (i2 &&& (15 : Int32))), .val (.int (i3 &&& (15 : Int32))), .val (.int ((i4 &&& (7 : Int32)) + (1 : Int32))), .val (.ref b163), .val (.int r_173), .val (.int (i3 &&& (15 : Int32))), .val (.int ((i2 &&& (15 : Int32)) + (i3 &&& (15 : Int32)))), .val (.int ((i1 &&& (15 : Int32)) + ((i2 &&& (15 : Int32)) + (i3 &&& (15 : Int32))))), .val (.int ((i0 &&& (15 : Int32)) + ((i1 &&& (15 : Int32)) + ((i2 &&& (15 : Int32)) + (i3 &&& (15 : Int32)))))), .val (.int ((4 : Int32) - ((i4 &&& (7 : Int32)) + (1 : Int32)))), .unset] [(.int ((i4 &&& (7 : Int32)) + (1 : Int32))), (.int ((i0 &&& (15 : Int32)) + ((i1 &&& (15 : Int32)) + ((i2 &&& (15 : Int32)) + (i3 &&& (15 : Int32)))))), (.int (i0 &&& (15 : Int32)))])
    obtain ⟨_, _, ⟨T182, L182, k182, n182⟩, -, X182, ⟨Lc182, hQ182, l182, y182, z182⟩, st182⟩ := Jvm.LawKit.callS X173 hx (y := (⟨"com/example/shardpick/shardpick/generate/TopicModelLargestHeadPinLaw", "ok", "(III)Z"⟩ : MethodName)) hown (mvT hZ (ow5 hw)) (mvT hZ (ow6 hw)) (mvT hZ (ow7 hw)) (mvT hZ (ow8 hw)) (by decide) (backOf (W := 0) (rm_ok l Z a0 hw [] (i0 &&& (15 : Int32)) ((i0 &&& (15 : Int32)) + ((i1 &&& (15 : Int32)) + ((i2 &&& (15 : Int32)) + (i3 &&& (15 : Int32))))) ((i4 &&& (7 : Int32)) + (1 : Int32)) T173.heap n0 (Nat.le_trans Z0 (Nat.le_trans (Nat.le_trans (Nat.le_trans (Nat.le_trans (Nat.le_trans E163.1 (Keep.of_wr W165).1) (Keep.of_wr W167).1) (Keep.of_wr W169).1) (Keep.of_wr W171).1) K173q.1)) ) hZ (ow8 hw) (ow7 hw) (by decide) (by decide)) (g := (mkF m 117 #[.val (.int i0), .val (.int i1), .val (.int i2), .val (.int i3), .val (.int i4), .val (.int (i0 &&& (15 : Int32))), .val (.int (i1 &&& (15 : Int32))), .val (.int (i2 &&& (15 : Int32))), .val (.int (i3 &&& (15 : Int32))), .val (.int ((i4 &&& (7 : Int32)) + (1 : Int32))), .val (.ref b163), .val (.int r_173), .val (.int (i3 &&& (15 : Int32))), .val (.int ((i2 &&& (15 : Int32)) + (i3 &&& (15 : Int32)))), .val (.int ((i1 &&& (15 : Int32)) + ((i2 &&& (15 : Int32)) + (i3 &&& (15 : Int32))))), .val (.int ((i0 &&& (15 : Int32)) + ((i1 &&& (15 : Int32)) + ((i2 &&& (15 : Int32)) + (i3 &&& (15 : Int32)))))), .val (.int ((4 : Int32) - ((i4 &&& (7 : Int32)) + (1 : Int32)))), .unset] [(.int ((i4 &&& (7 : Int32)) + (1 : Int32))), (.int ((i0 &&& (15 : Int32)) + ((i1 &&& (15 : Int32)) + ((i2 &&& (15 : Int32)) + (i3 &&& (15 : Int32)))))), (.int (i0 &&& (15 : Int32)))])) rfl (by rw [hml]; rfl) (argsL := [(.int (i0 &&& (15 : Int32))), (.int ((i0 &&& (15 : Int32)) + ((i1 &&& (15 : Int32)) + ((i2 &&& (15 : Int32)) + (i3 &&& (15 : Int32)))))), (.int ((i4 &&& (7 : Int32)) + (1 : Int32)))]) (rest := []) (lenOf opd_1 rfl) rfl (by show 2 * 0 + _ ≤ _; exact Nat.le_of_eq rfl) (hb hby at_117) (fun _ _ => ⟨rfl, rfl, (by decide : 2 + 0 ≤ _), (by decide : 9 + 0 ≤ _)⟩)
    dsimp only [Pt.U, Pt.locs, Pt.cells, Pt.slots] at X182 l182 y182 z182 st182 hQ182
    subst l182 y182 z182
    obtain ⟨r_182, rfl, N182q, e182, P182_0⟩ := hQ182
    have N182 := Fr.app N173 N182q
    refine Go.by st182 ?_
    show Go p e below _ T182 (mkF m 120 #[.val (.int i0), .val (.int i1), .val (.int i2), .val (.int i3), .val (.int i4), .val (.int (i0 &&& (15 : Int32))), .val (.int (i1 &&& (15 : Int32))), .val (.int (i2 &&& (15 : Int32))), .val (.int (i3 &&& (15 : Int32))), .val (.int ((i4 &&& (7 : Int32)) + (1 : Int32))), .val (.ref b163), .val (.int r_173), .val (.int (i3 &&& (15 : Int32))), .val (.int ((i2 &&& (15 : Int32)) + (i3 &&& (15 : Int32)))), .val (.int ((i1 &&& (15 : Int32)) + ((i2 &&& (15 : Int32)) + (i3 &&& (15 : Int32))))), .val (.int ((i0 &&& (15 : Int32)) + ((i1 &&& (15 : Int32)) + ((i2 &&& (15 : Int32)) + (i3 &&& (15 : Int32)))))), .val (.int ((4 : Int32) - ((i4 &&& (7 : Int32)) + (1 : Int32)))), .unset] [(.int r_182)])
    rcases P182_0 with ⟨hr, hp, hq⟩ | ⟨hr, hno⟩
    all_goals subst hr
    · show Go p e below _ T182 (mkF m 120 #[.val (.int i0), .val (.int i1), .val (.int i2), .val (.int i3), .val (.int i4), .val (.int (i0 &&& (15 : Int32))), .val (.int (i1 &&& (15 : Int32))), .val (.int (i2 &&& (15 : Int32))), .val (.int (i3 &&& (15 : Int32))), .val (.int ((i4 &&& (7 : Int32)) + (1 : Int32))), .val (.ref b163), .val (.int r_173), .val (.int (i3 &&& (15 : Int32))), .val (.int ((i2 &&& (15 : Int32)) + (i3 &&& (15 : Int32)))), .val (.int ((i1 &&& (15 : Int32)) + ((i2 &&& (15 : Int32)) + (i3 &&& (15 : Int32))))), .val (.int ((i0 &&& (15 : Int32)) + ((i1 &&& (15 : Int32)) + ((i2 &&& (15 : Int32)) + (i3 &&& (15 : Int32)))))), .val (.int ((4 : Int32) - ((i4 &&& (7 : Int32)) + (1 : Int32)))), .unset] [(.int (1 : Int32))])
      refine Go.by (fun t k => XS.ifNo X182.here hx rfl (hb hby at_120) rfl ((if0 _ _).trans (feq (show ¬ ((1 : Int32) = (0 : Int32)) from (by decide))).1) k) ?_
      show Go p e below _ T182 (mkF m 123 #[.val (.int i0), .val (.int i1), .val (.int i2), .val (.int i3), .val (.int i4), .val (.int (i0 &&& (15 : Int32))), .val (.int (i1 &&& (15 : Int32))), .val (.int (i2 &&& (15 : Int32))), .val (.int (i3 &&& (15 : Int32))), .val (.int ((i4 &&& (7 : Int32)) + (1 : Int32))), .val (.ref b163), .val (.int r_173), .val (.int (i3 &&& (15 : Int32))), .val (.int ((i2 &&& (15 : Int32)) + (i3 &&& (15 : Int32)))), .val (.int ((i1 &&& (15 : Int32)) + ((i2 &&& (15 : Int32)) + (i3 &&& (15 : Int32))))), .val (.int ((i0 &&& (15 : Int32)) + ((i1 &&& (15 : Int32)) + ((i2 &&& (15 : Int32)) + (i3 &&& (15 : Int32)))))), .val (.int ((4 : Int32) - ((i4 &&& (7 : Int32)) + (1 : Int32)))), .unset] [])
      refine Go.by (fun t k => XS.iconst X182.here hx rfl (hb hby at_123) (XS.istore X182.here hx rfl (hb hby at_124) rfl (l' := #[.val (.int i0), .val (.int i1), .val (.int i2), .val (.int i3), .val (.int i4), .val (.int (i0 &&& (15 : Int32))), .val (.int (i1 &&& (15 : Int32))), .val (.int (i2 &&& (15 : Int32))), .val (.int (i3 &&& (15 : Int32))), .val (.int ((i4 &&& (7 : Int32)) + (1 : Int32))), .val (.ref b163), .val (.int r_173), .val (.int (i3 &&& (15 : Int32))), .val (.int ((i2 &&& (15 : Int32)) + (i3 &&& (15 : Int32)))), .val (.int ((i1 &&& (15 : Int32)) + ((i2 &&& (15 : Int32)) + (i3 &&& (15 : Int32))))), .val (.int ((i0 &&& (15 : Int32)) + ((i1 &&& (15 : Int32)) + ((i2 &&& (15 : Int32)) + (i3 &&& (15 : Int32)))))), .val (.int ((4 : Int32) - ((i4 &&& (7 : Int32)) + (1 : Int32)))), .val (.int (0 : Int32))]) rfl (XS.goto X182.here hx rfl (pc0 := 126) (pc' := 204) rfl (hb hby at_126) (by decide) (by decide) (XS.iload X182.here hx rfl (hb hby at_204) rfl k)))) ?_
      show Go p e below _ T182 (mkF m 206 #[.val (.int i0), .val (.int i1), .val (.int i2), .val (.int i3), .val (.int i4), .val (.int (i0 &&& (15 : Int32))), .val (.int (i1 &&& (15 : Int32))), .val (.int (i2 &&& (15 : Int32))), .val (.int (i3 &&& (15 : Int32))), .val (.int ((i4 &&& (7 : Int32)) + (1 : Int32))), .val (.ref b163), .val (.int r_173), .val (.int (i3 &&& (15 : Int32))), .val (.int ((i2 &&& (15 : Int32)) + (i3 &&& (15 : Int32)))), .val (.int ((i1 &&& (15 : Int32)) + ((i2 &&& (15 : Int32)) + (i3 &&& (15 : Int32))))), .val (.int ((i0 &&& (15 : Int32)) + ((i1 &&& (15 : Int32)) + ((i2 &&& (15 : Int32)) + (i3 &&& (15 : Int32)))))), .val (.int ((4 : Int32) - ((i4 &&& (7 : Int32)) + (1 : Int32)))), .val (.int (0 : Int32))] [(.int r_173)])
      refine Go.by (fun t k => XS.iload X182.here hx rfl (hb hby at_206) rfl k) ?_
      show Go p e below _ T182 (mkF m 208 #[.val (.int i0), .val (.int i1), .val (.int i2), .val (.int i3), .val (.int i4), .val (.int (i0 &&& (15 : Int32))), .val (.int (i1 &&& (15 : Int32))), .val (.int (i2 &&& (15 : Int32))), .val (.int (i3 &&& (15 : Int32))), .val (.int ((i4 &&& (7 : Int32)) + (1 : Int32))), .val (.ref b163), .val (.int r_173), .val (.int (i3 &&& (15 : Int32))), .val (.int ((i2 &&& (15 : Int32)) + (i3 &&& (15 : Int32)))), .val (.int ((i1 &&& (15 : Int32)) + ((i2 &&& (15 : Int32)) + (i3 &&& (15 : Int32))))), .val (.int ((i0 &&& (15 : Int32)) + ((i1 &&& (15 : Int32)) + ((i2 &&& (15 : Int32)) + (i3 &&& (15 : Int32)))))), .val (.int ((4 : Int32) - ((i4 &&& (7 : Int32)) + (1 : Int32)))), .val (.int (0 : Int32))] [(.int (0 : Int32)), (.int r_173)])
      have kA : ((i4 &&& (7 : Int32)) + (1 : Int32)).toInt ≤ 4 := by
        have q : ¬ 4 - ((i4 &&& (7 : Int32)) + (1 : Int32)).toInt < (0 : Int32).toInt := fun q => hA0 (by rw [Int32.lt_iff_toInt_lt, sub4 BK]; exact q)
        have e : (0 : Int32).toInt = 0 := by decide
        rw [e] at q; omega
      have okk : okZ (i0 &&& (15 : Int32)).toInt ((i3 &&& (15 : Int32)).toInt + (i2 &&& (15 : Int32)).toInt + (i1 &&& (15 : Int32)).toInt + (i0 &&& (15 : Int32)).toInt) ((i4 &&& (7 : Int32)) + (1 : Int32)).toInt := by
        rw [Int32.lt_iff_toInt_lt, es0] at hp; rw [Int32.lt_iff_toInt_lt, es0, Sm.mul BK B0] at hq
        have e : (0 : Int32).toInt = 0 := by decide
        rw [e] at hp; exact ⟨hp, by omega⟩
      refine Go.by (fun t k => XS.icmpNo X182.here hx rfl (hb hby at_208) rfl (teq (show r_173 = (0 : Int32) from (hr0.trans (by unfold lhZ; rw [if_pos ⟨kA, okk⟩])))).2 k) ?_
      show Go p e below _ T182 (mkF m 211 #[.val (.int i0), .val (.int i1), .val (.int i2), .val (.int i3), .val (.int i4), .val (.int (i0 &&& (15 : Int32))), .val (.int (i1 &&& (15 : Int32))), .val (.int (i2 &&& (15 : Int32))), .val (.int (i3 &&& (15 : Int32))), .val (.int ((i4 &&& (7 : Int32)) + (1 : Int32))), .val (.ref b163), .val (.int r_173), .val (.int (i3 &&& (15 : Int32))), .val (.int ((i2 &&& (15 : Int32)) + (i3 &&& (15 : Int32)))), .val (.int ((i1 &&& (15 : Int32)) + ((i2 &&& (15 : Int32)) + (i3 &&& (15 : Int32))))), .val (.int ((i0 &&& (15 : Int32)) + ((i1 &&& (15 : Int32)) + ((i2 &&& (15 : Int32)) + (i3 &&& (15 : Int32)))))), .val (.int ((4 : Int32) - ((i4 &&& (7 : Int32)) + (1 : Int32)))), .val (.int (0 : Int32))] [])
      refine Go.by (fun t k => XS.iconst X182.here hx rfl (hb hby at_211) (XS.goto X182.here hx rfl (pc0 := 212) (pc' := 216) rfl (hb hby at_212) (by decide) (by decide) k)) ?_
      show Go p e below _ T182 (mkF m 216 #[.val (.int i0), .val (.int i1), .val (.int i2), .val (.int i3), .val (.int i4), .val (.int (i0 &&& (15 : Int32))), .val (.int (i1 &&& (15 : Int32))), .val (.int (i2 &&& (15 : Int32))), .val (.int (i3 &&& (15 : Int32))), .val (.int ((i4 &&& (7 : Int32)) + (1 : Int32))), .val (.ref b163), .val (.int r_173), .val (.int (i3 &&& (15 : Int32))), .val (.int ((i2 &&& (15 : Int32)) + (i3 &&& (15 : Int32)))), .val (.int ((i1 &&& (15 : Int32)) + ((i2 &&& (15 : Int32)) + (i3 &&& (15 : Int32))))), .val (.int ((i0 &&& (15 : Int32)) + ((i1 &&& (15 : Int32)) + ((i2 &&& (15 : Int32)) + (i3 &&& (15 : Int32)))))), .val (.int ((4 : Int32) - ((i4 &&& (7 : Int32)) + (1 : Int32)))), .val (.int (0 : Int32))] [(.int (1 : Int32))])
      exact Go.retN X182 hx (t := .boolean) hret (by simp) hlk (hb hby at_216) (by first | (rw [e182]; exact ⟨rfl, N182, K174⟩) | exact ⟨rfl, N182, K174⟩) (by decide) (by decide)
    · show Go p e below _ T182 (mkF m 120 #[.val (.int i0), .val (.int i1), .val (.int i2), .val (.int i3), .val (.int i4), .val (.int (i0 &&& (15 : Int32))), .val (.int (i1 &&& (15 : Int32))), .val (.int (i2 &&& (15 : Int32))), .val (.int (i3 &&& (15 : Int32))), .val (.int ((i4 &&& (7 : Int32)) + (1 : Int32))), .val (.ref b163), .val (.int r_173), .val (.int (i3 &&& (15 : Int32))), .val (.int ((i2 &&& (15 : Int32)) + (i3 &&& (15 : Int32)))), .val (.int ((i1 &&& (15 : Int32)) + ((i2 &&& (15 : Int32)) + (i3 &&& (15 : Int32))))), .val (.int ((i0 &&& (15 : Int32)) + ((i1 &&& (15 : Int32)) + ((i2 &&& (15 : Int32)) + (i3 &&& (15 : Int32)))))), .val (.int ((4 : Int32) - ((i4 &&& (7 : Int32)) + (1 : Int32)))), .unset] [(.int (0 : Int32))])
      refine Go.by (fun t k => XS.ifYes X182.here hx rfl (pc0 := 120) (pc' := 129) rfl (hb hby at_120) rfl ((if0 _ _).trans (teq (show (0 : Int32) = (0 : Int32) from (by decide))).1) (by decide) (by decide) k) ?_
      show Go p e below _ T182 (mkF m 129 #[.val (.int i0), .val (.int i1), .val (.int i2), .val (.int i3), .val (.int i4), .val (.int (i0 &&& (15 : Int32))), .val (.int (i1 &&& (15 : Int32))), .val (.int (i2 &&& (15 : Int32))), .val (.int (i3 &&& (15 : Int32))), .val (.int ((i4 &&& (7 : Int32)) + (1 : Int32))), .val (.ref b163), .val (.int r_173), .val (.int (i3 &&& (15 : Int32))), .val (.int ((i2 &&& (15 : Int32)) + (i3 &&& (15 : Int32)))), .val (.int ((i1 &&& (15 : Int32)) + ((i2 &&& (15 : Int32)) + (i3 &&& (15 : Int32))))), .val (.int ((i0 &&& (15 : Int32)) + ((i1 &&& (15 : Int32)) + ((i2 &&& (15 : Int32)) + (i3 &&& (15 : Int32)))))), .val (.int ((4 : Int32) - ((i4 &&& (7 : Int32)) + (1 : Int32)))), .unset] [])
      exact nx0 _ _ X182 e182 N182 (fun z => hno ⟨by rw [Int32.lt_iff_toInt_lt, es0]; exact z.2.1, by rw [Int32.lt_iff_toInt_lt, es0, Sm.mul BK B0]; have := z.2.2; omega⟩)
set_option maxRecDepth 65536 in
set_option maxHeartbeats 40000000 in
theorem comes_1 {Post : Tables → Env → Array Value → State → Outcome → State → Prop} (hpost : ∀ tb e args s v u, (limb_1_1.after args s (.returned v) u = true ∧ limb_1_2.after args s (.returned v) u = true ∧ True) → FrameEnd s (.returned v) u (Jvm.fieldLocs frame_1_writes args s ++ Jvm.arrayLocs frame_1_arrays args s ++ Jvm.staticLocs frame_1_statics s) 16 128 → Post tb e args s (.returned v) u) :
    ArmFor flags0 classFile x code maxLocals ret World_1 tables_1 room_1 Calls_1 rest_1 Pre_1 Post := by
  intro l hfl _ _ p e ha hc hk s m args below hf hA hF happ hP
  obtain ⟨hcalls, hrest, hpre⟩ := hP
  obtain ⟨-, -, -, hnamed, -, -, -, hat⟩ := (Spec.applies_iff hf).mp happ
  obtain ⟨hg, hn⟩ := and_e (Cond.before_iff.mp (show (Jvm.Cond.and given_1 narrow_1).before args s = true from hpre))
  obtain ⟨hcount, r0⟩ := and_e hg
  obtain ⟨k0, r1⟩ := and_e r0
  obtain ⟨k1, r2⟩ := and_e r1
  obtain ⟨k2, r3⟩ := and_e r2
  obtain ⟨k3, r4⟩ := and_e r3
  obtain ⟨w0, w1, w2, w3, w4, rfl⟩ : ∃ w0 w1 w2 w3 w4 : Value, args = #[w0, w1, w2, w3, w4] := by
    have hs : args.size = 5 := by simpa [Cond.value, given_1] using hcount
    obtain ⟨L⟩ := args
    match L, hs with
    | [w0, w1, w2, w3, w4], _ => exact ⟨w0, w1, w2, w3, w4, rfl⟩
  have hw := fun d (hd : d ∈ tables_1) => atoms_spec (ws := Jvm.Cond.code x code maxLocals ret :: tables_1) hat d (List.mem_cons_of_mem _ hd)
  obtain ⟨i0, e0⟩ := is_v k0
  obtain rfl : w0 = (.int i0) := Option.some.inj e0
  obtain ⟨i1, e1⟩ := is_v k1
  obtain rfl : w1 = (.int i1) := Option.some.inj e1
  obtain ⟨i2, e2⟩ := is_v k2
  obtain rfl : w2 = (.int i2) := Option.some.inj e2
  obtain ⟨i3, e3⟩ := is_v k3
  obtain rfl : w3 = (.int i3) := Option.some.inj e3
  obtain ⟨i4, e4⟩ := is_v r4
  obtain rfl : w4 = (.int i4) := Option.some.inj e4
  obtain ⟨n, o, h1, h2, h3, _, L, rfl, ⟨rfl, N, -⟩, hq⟩ := rm_law l s _ hw tables_1 i0 i1 i2 i3 i4  s.heap s.heap.size (Nat.le_refl _)  p e ha hc hk s m _ below hf ((Spec.applies_iff_loose hf).mp happ).1 ⟨rfl, State.Warmed39.refl s, rfl⟩ trivial
  refine ⟨n, _, h1, h2, h3, hpost _ _ _ _ _ _ ⟨Cond.after_iff.mpr rfl, Cond.after_iff.mpr (eq_i res_at (Term.int_eval (1)) rfl), trivial⟩ ⟨hq.1, hq.2.1, (hq.2.2.sift fun y hy => Or.inr (N y hy)).mono (by decide) (by decide)⟩⟩
theorem main_1_1 : Claimed_1_1 := comes_1 fun _ _ _ _ _ _ h hF => ⟨h.1, hF⟩
theorem main_1_2 : Claimed_1_2 := comes_1 fun _ _ _ _ _ _ h hF => ⟨h.2.1, hF⟩
end Jvm.Pilot.@@N@@
namespace Jvm.Pilot.@@N@@
open Jvm Jvm.ClassFile Sem Op Lib Jvm.Free Jvm.Stand Jvm.Pilot.@@N@@.Jvm.D
/-! MADE BY PROGRAM (witnessworld.py) out of the Statement's table words and the real class files: 9 classes; the members and pool entries that the words name. The judged class is class 1, her method 1. -/
namespace start1
open Jvm.ClassFile
def u (s : String) : CpInfo := .utf8 (stringToUtf16 s)
/-- a pool by its gaps: so many unusable entries, then the entry; so many at the end -/
def gap : Nat → List CpInfo → List CpInfo
  | 0, r => r
  | n + 1, r => .unusable :: gap n r
def poolList (es : List (Nat × CpInfo)) (last : Nat) : List CpInfo := es.foldr (fun e r => gap e.1 (e.2 :: r)) (gap last [])
def pool (es : List (Nat × CpInfo)) (last : Nat) : Array CpInfo := ⟨poolList es last⟩
def fileOf (pool : Array CpInfo) (this : Nat) (attrs : Array Attribute := #[]) (ms : Array MethodInfo := #[]) (fl : Nat := 33) (sup : Nat := 0) (ifs : Array Nat := #[]) (fds : Array FieldInfo := #[]) : ClassFile where
  minorVersion := 0
  majorVersion := 65
  constantPool := pool
  accessFlags := fl
  thisClass := this
  superClass := sup
  interfaces := ifs
  fields := fds
  methods := ms
  attributes := attrs
def plain (name : String) (sup : Option ClassId) : Class where
  name := name
  kind := .ordinary
  loader := none
  accessFlags := 33
  super := sup
  interfaces := #[]
  cf := none
  fields := #[]
  methods := #[]
  instanceTypes := #[]
  staticTypes := #[]
  resolved := #[]
  callSites := []
  init := .initialized
  statics := none
  mirror := none

def pool0 : Array CpInfo := pool [(5, u "<init>"), (0, u "()V"), (1, .class_ 10), (1, u "java/lang/Object")] 113

def k0m0 : Method := { name := "<init>", desc := "()V", sig := { parameters := [], returnType := none }, accessFlags := 1, code := none }
/-- java/lang/Object -/
def k0 : Class := { plain "java/lang/Object" none with
  accessFlags := 33
  interfaces := #[]
  cf := some (fileOf pool0 8 #[] #[{ accessFlags := 1, nameIndex := 5, descriptorIndex := 6, attributes := #[] }] 33 0 #[] #[])
  fields := #[]
  methods := #[k0m0]
  instanceTypes := #[]
  staticTypes := #[]
  resolved := Array.replicate 124 none
  statics := none }

def pool1 : Array CpInfo := pool [(2, .class_ 4), (1, u "java/lang/Object"), (0, u "<init>"), (0, u "()V"), (0, .methodref 8 9), (0, .class_ 10), (0, .nameAndType 11 12), (0, u "com/example/shardpick/shardpick/generate/TopicModel"), (0, u "largestHead"), (0, u "([DI)I"), (0, .methodref 14 15), (0, .class_ 16), (0, .nameAndType 17 18), (0, u "com/example/shardpick/shardpick/generate/TopicModelLargestHeadPinLaw"), (0, u "ok"), (0, u "(III)Z"), (2, u "law"), (0, u "(IIIII)Z")] 5

def k1m0 : Method := { name := "<init>", desc := "()V", sig := { parameters := [], returnType := none }, accessFlags := 1, code := none }
def k1c1 : Code := { maxStack := 4, maxLocals := 18, code := code, exceptionTable := #[], attributes := #[] }
def k1m1 : Method := { name := "law", desc := "(IIIII)Z", sig := { parameters := [.int, .int, .int, .int, .int], returnType := some .boolean }, accessFlags := 9, code := some k1c1 }
def k1c2 : Code := { maxStack := 2, maxLocals := 3, code := method_3_code, exceptionTable := #[], attributes := #[] }
def k1m2 : Method := { name := "ok", desc := "(III)Z", sig := { parameters := [.int, .int, .int], returnType := some .boolean }, accessFlags := 10, code := some k1c2 }
/-- com/example/shardpick/shardpick/generate/TopicModelLargestHeadPinLaw -/
def k1 : Class := { plain "com/example/shardpick/shardpick/generate/TopicModelLargestHeadPinLaw" (some 0) with
  accessFlags := 49
  interfaces := #[]
  cf := some (fileOf pool1 14 #[] #[{ accessFlags := 1, nameIndex := 5, descriptorIndex := 6, attributes := #[] }, { accessFlags := 9, nameIndex := 21, descriptorIndex := 22, attributes := #[] }, { accessFlags := 10, nameIndex := 17, descriptorIndex := 18, attributes := #[] }] 49 2 #[] #[])
  fields := #[]
  methods := #[k1m0, k1m1, k1m2]
  instanceTypes := #[]
  staticTypes := #[]
  resolved := Array.replicate 28 none
  statics := none }

def pool2 : Array CpInfo := pool [(2, .class_ 4), (1, u "java/lang/Object"), (3, .class_ 10), (1, u "com/example/shardpick/shardpick/generate/TopicModel"), (0, u "weights"), (0, u "[D"), (2, u "topicWords"), (0, u "I"), (2, u "share"), (0, u "D"), (2, u "own"), (0, u "[I"), (2, u "owners"), (2, u "ownedShare"), (4, u "ownWords"), (0, u "[Lcom/example/shardpick/shardpick/generate/WeightedDraw;"), (13, u "topics"), (0, u "Lcom/example/shardpick/shardpick/generate/WeightedDraw;"), (8, u "vocabulary"), (44, u "largestHead"), (0, u "([DI)I")] 8

def k2c0 : Code := { maxStack := 6, maxLocals := 4, code := prog_21_method_2_code, exceptionTable := #[], attributes := #[] }
def k2m0 : Method := { name := "largestHead", desc := "([DI)I", sig := { parameters := [(.array .double), .int], returnType := some .int }, accessFlags := 8, code := some k2c0 }
/-- com/example/shardpick/shardpick/generate/TopicModel -/
def k2 : Class := { plain "com/example/shardpick/shardpick/generate/TopicModel" (some 0) with
  accessFlags := 48
  interfaces := #[]
  cf := some (fileOf pool2 8 #[] #[{ accessFlags := 8, nameIndex := 105, descriptorIndex := 106, attributes := #[] }] 48 2 #[] #[{ accessFlags := 18, nameIndex := 11, descriptorIndex := 12, attributes := #[] }, { accessFlags := 18, nameIndex := 15, descriptorIndex := 16, attributes := #[] }, { accessFlags := 18, nameIndex := 19, descriptorIndex := 20, attributes := #[] }, { accessFlags := 18, nameIndex := 23, descriptorIndex := 24, attributes := #[] }, { accessFlags := 18, nameIndex := 27, descriptorIndex := 24, attributes := #[] }, { accessFlags := 18, nameIndex := 30, descriptorIndex := 20, attributes := #[] }, { accessFlags := 18, nameIndex := 50, descriptorIndex := 51, attributes := #[] }, { accessFlags := 18, nameIndex := 35, descriptorIndex := 36, attributes := #[] }, { accessFlags := 18, nameIndex := 60, descriptorIndex := 51, attributes := #[] }])
  fields := #[{ name := "weights", type := (.array .double), accessFlags := 18, slot := 0, constantValue := 0 }, { name := "topicWords", type := .int, accessFlags := 18, slot := 1, constantValue := 0 }, { name := "share", type := .double, accessFlags := 18, slot := 2, constantValue := 0 }, { name := "own", type := (.array .int), accessFlags := 18, slot := 3, constantValue := 0 }, { name := "owners", type := (.array .int), accessFlags := 18, slot := 4, constantValue := 0 }, { name := "ownedShare", type := .double, accessFlags := 18, slot := 5, constantValue := 0 }, { name := "topics", type := (.object "com/example/shardpick/shardpick/generate/WeightedDraw"), accessFlags := 18, slot := 6, constantValue := 0 }, { name := "ownWords", type := (.array (.object "com/example/shardpick/shardpick/generate/WeightedDraw")), accessFlags := 18, slot := 7, constantValue := 0 }, { name := "vocabulary", type := (.object "com/example/shardpick/shardpick/generate/WeightedDraw"), accessFlags := 18, slot := 8, constantValue := 0 }]
  methods := #[k2m0]
  instanceTypes := #[(.array .double), .int, .double, (.array .int), (.array .int), .double, (.object "com/example/shardpick/shardpick/generate/WeightedDraw"), (.array (.object "com/example/shardpick/shardpick/generate/WeightedDraw")), (.object "com/example/shardpick/shardpick/generate/WeightedDraw")]
  staticTypes := #[]
  resolved := Array.replicate 115 none
  statics := none }

def pool3 : Array CpInfo := pool [(1, u "java/lang/Cloneable"), (0, .class_ 1), (0, u "java/lang/Object"), (0, .class_ 3)] 3

/-- java/lang/Cloneable -/
def k3 : Class := { plain "java/lang/Cloneable" (some 0) with
  accessFlags := 1537
  interfaces := #[]
  cf := some (fileOf pool3 2 #[] #[] 1537 4 #[] #[])
  fields := #[]
  methods := #[]
  instanceTypes := #[]
  staticTypes := #[]
  resolved := Array.replicate 8 none
  statics := none }

def pool4 : Array CpInfo := pool [(1, u "java/io/Serializable"), (0, .class_ 1), (0, u "java/lang/Object"), (0, .class_ 3)] 3

/-- java/io/Serializable -/
def k4 : Class := { plain "java/io/Serializable" (some 0) with
  accessFlags := 1537
  interfaces := #[]
  cf := some (fileOf pool4 2 #[] #[] 1537 4 #[] #[])
  fields := #[]
  methods := #[]
  instanceTypes := #[]
  staticTypes := #[]
  resolved := Array.replicate 8 none
  statics := none }

/-- the primitive byte -/
def k5 : Class := { plain "byte" none with kind := .primitive 'B', accessFlags := 0x411 }
/-- [B -/
def k6 : Class := { plain "[B" (some 0) with kind := .array 5 .byte, interfaces := #[3, 4], accessFlags := 1041 }

/-- the primitive int -/
def k7 : Class := { plain "int" none with kind := .primitive 'I', accessFlags := 0x411 }
/-- [I -/
def k8 : Class := { plain "[I" (some 0) with kind := .array 7 .int, interfaces := #[3, 4], accessFlags := 1041 }

def k_double : Class := { plain "double" none with kind := .primitive 'D', accessFlags := 0x411 }
def k_doubles : Class := { plain "[D" (some 0) with kind := .array 9 .double, interfaces := #[3, 4], accessFlags := 1041 }
def heap : Heap := #[]
def classes : Array Class := #[k0, k1, k2, k3, k4, k5, k6, k7, k8, k_double, k_doubles]
def interned : List (Array UInt16 × Addr) := []
def slotsUsed : Nat := 0
def theMethod : MethodId := ⟨1, 1⟩
def args0 : Array Value := #[.int 5, .int 3, .int 7, .int 9, .int 11]
def aboutOver (below : List Frame) : State where
  vm := { classes := classes, interned := interned.toArray }
  heap := heap
  slotsUsed := slotsUsed
  threads := #[{ frames := .invoking theMethod args0 :: below }]
def below0 : List Frame := [.native { method := ⟨0, 0⟩, args := #[] }]
def about1 : State := aboutOver below0
def p0 : Program := .bare "" "" ""
def e0 : Env := launch0.env 0 0 0
theorem w_frames : about1.frames = Frame.invoking theMethod args0 :: below0 := rfl
set_option maxRecDepth 65536 in
theorem w_args : argsFit about1.vm theMethod args0 = true := by decide +kernel
set_option maxRecDepth 65536 in
theorem w_heap : heapFits about1 = true := by decide +kernel
set_option maxRecDepth 65536 in
theorem w_runnable : about1.curStatus? = some .runnable := by decide +kernel
set_option maxRecDepth 65536 in
theorem w_alone : about1.alone = true := by decide +kernel
set_option maxRecDepth 65536 in
theorem w_named : about1.methodNamed? x = some theMethod := by decide +kernel
set_option maxRecDepth 65536 in
theorem w_hears : about1.hears theMethod below0 = true := by decide +kernel
set_option maxRecDepth 65536 in
theorem w_ripe : about1.ripe theMethod args0 below0 = true := by decide +kernel
theorem w_running : about1.status = .running := rfl
set_option maxRecDepth 65536 in
theorem w_room : about1.hasRoom e0.platform room_1 = true :=
  launch0.hasRoom_least _ room_1 (by decide +kernel) (by decide +kernel) (by decide +kernel) (by decide +kernel) (by decide +kernel) (by decide +kernel)
theorem allAtoms_all (ts : List Jvm.Cond) (a : Array Jvm.Value) (st : Jvm.State) : (allAtoms ts).before a st = ts.all (fun c => c.before a st) := by
  induction ts with
  | nil => rfl
  | cons c t ih =>
    show (Jvm.Cond.and c (allAtoms t)).before a st = _
    rw [Jvm.Cond.before_and, ih, List.all_cons]
def words1 : List Jvm.Cond := Jvm.Cond.code x code maxLocals ret :: tables_1
/-- a 'code' word, met by the world's own term for the bytes: nothing is compared byte by byte -/
theorem code_word {y : MethodName} {bytes : ByteArray} {mx : Nat} {rt : Option FieldType} {a : Array Value} {s : State} {m : MethodId} {meth : Method} {c : Code} (h1 : s.methodNamed? y = some m) (h2 : s.vm.method? m = some meth) (h3 : meth.code = some c) (h4 : c.code = bytes)
    (h5 : (c.maxLocals == mx && c.exceptionTable.isEmpty && decide (c.maxStack ≤ mostOperands) && decide (meth.sig.returnType = rt) && !meth.locks && decide (parseMethodDescriptor y.desc = some meth.sig)) = true) : (Jvm.Cond.code y bytes mx rt).before a s = true := by
  simp only [Bool.and_eq_true, beq_iff_eq, Bool.not_eq_true', decide_eq_true_eq] at h5
  obtain ⟨⟨⟨⟨⟨g1, g2⟩, g3⟩, g4⟩, g5⟩, g6⟩ := h5
  simp [Cond.before, Cond.holds, Cond.value, h1, h2, h3, h4, g1, g2, g3, g4, g5, g6]
def isCode : Jvm.Cond → Bool
  | .code _ _ _ _ => true
  | _ => false
theorem all_split {L : List Jvm.Cond} {P : Jvm.Cond → Bool} (h1 : L.all (fun c => isCode c || P c) = true) (h2 : ∀ c ∈ L.filter isCode, P c = true) : L.all P = true := by
  refine List.all_eq_true.mpr fun c hc => ?_
  have h := List.all_eq_true.mp h1 c hc
  rcases Bool.eq_false_or_eq_true (isCode c) with hi | hi
  · exact h2 c (List.mem_filter.mpr ⟨hc, hi⟩)
  · simpa [hi] using h
set_option maxRecDepth 65536 in
theorem w_c0 : (Jvm.Cond.code x code maxLocals ret).before args0 about1 = true := code_word (m := ⟨1, 1⟩) (meth := k1m1) (c := k1c1) (by decide +kernel) rfl rfl rfl (by decide +kernel)
set_option maxRecDepth 65536 in
theorem w_c1 : (Jvm.Cond.code ({ cls := "com/example/shardpick/shardpick/generate/TopicModel", name := "largestHead", desc := "([DI)I" } : Jvm.MethodName) prog_21_method_2_code (4 : Nat) (Option.some Jvm.ClassFile.FieldType.int)).before args0 about1 = true := code_word (m := ⟨2, 0⟩) (meth := k2m0) (c := k2c0) (by decide +kernel) rfl rfl rfl (by decide +kernel)
set_option maxRecDepth 65536 in
theorem w_c2 : (Jvm.Cond.code ({ cls := "com/example/shardpick/shardpick/generate/TopicModelLargestHeadPinLaw", name := "ok", desc := "(III)Z" } : Jvm.MethodName) method_3_code (3 : Nat) (Option.some Jvm.ClassFile.FieldType.boolean)).before args0 about1 = true := code_word (m := ⟨1, 2⟩) (meth := k1m2) (c := k1c2) (by decide +kernel) rfl rfl rfl (by decide +kernel)
def codes1 : List Jvm.Cond := [Jvm.Cond.code x code maxLocals ret, Jvm.Cond.code ({ cls := "com/example/shardpick/shardpick/generate/TopicModel", name := "largestHead", desc := "([DI)I" } : Jvm.MethodName) prog_21_method_2_code (4 : Nat) (Option.some Jvm.ClassFile.FieldType.int), Jvm.Cond.code ({ cls := "com/example/shardpick/shardpick/generate/TopicModelLargestHeadPinLaw", name := "ok", desc := "(III)Z" } : Jvm.MethodName) method_3_code (3 : Nat) (Option.some Jvm.ClassFile.FieldType.boolean)]
set_option maxRecDepth 65536 in
theorem codes_eq : words1.filter isCode = codes1 := rfl
theorem w_codes : ∀ c ∈ words1.filter isCode, c.before args0 about1 = true := by
  rw [codes_eq]
  intro c hc
  simp only [codes1, List.mem_cons, List.not_mem_nil, or_false] at hc
  rcases hc with rfl | rfl | rfl
  · exact w_c0
  · exact w_c1
  · exact w_c2
set_option maxRecDepth 65536 in
theorem w_t1 : words1.all (fun c => isCode c || c.before args0 about1) = true := by decide +kernel
theorem w_tables : (allAtoms (Jvm.Cond.code x code maxLocals ret :: tables_1)).before args0 about1 = true := by
  rw [allAtoms_all]
  show words1.all (fun c => c.before args0 about1) = true
  refine all_split ?_ w_codes
  rw [w_t1]
set_option maxRecDepth 65536 in
theorem w_case : (Jvm.Cond.and given_1 narrow_1).before args0 about1 = true := by decide +kernel
theorem w_applies : (headSpec (Jvm.Cond.code x code maxLocals ret :: tables_1) room_1).applies x e0.platform about1 = true :=
  (Spec.applies_iff w_frames).mpr ⟨w_running, w_runnable, w_alone, w_named, w_hears, w_ripe, w_room, w_tables⟩
theorem atStart : AtStart classFile x code maxLocals ret World_1 tables_1 room_1 Calls_1 rest_1 Pre_1 launch0 p0 e0 about1 theMethod args0 below0 :=
  ⟨lists_1, trivial, launch0.admits_env _ _ _, launch0.least_env, fairChoices_fair.cas, fairChoices_fair.clock, w_frames, w_args, w_heap, w_applies, trivial, trivial, w_case⟩
end start1
theorem witness_1 : WitnessClaimed_1 := ⟨start1.p0, start1.e0, start1.about1, start1.theMethod, start1.args0, start1.below0, start1.atStart⟩
end Jvm.Pilot.@@N@@
