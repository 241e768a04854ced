import JvmDerived
import JvmDerived.Pilot.@@N@@Statement
import JvmDerived.Pilot.@@N@@Code
set_option linter.unusedVariables false
set_option linter.unusedSimpArgs false
namespace Jvm.Pilot.@@N@@
open Jvm Jvm.ClassFile Sem Op Lib Jvm.Free Jvm.Stand Jvm.LawKit Jvm.RoadKit Bundle Jvm.Pilot.@@N@@.Jvm.D
/-- the road from here on ends, and G holds of its end -/
def Go (p : Program) (e : Env) (below : List Frame) (G : Outcome → State → Prop) (T : State) (g : JFrame) : Prop :=
  ∃ U o, Steps p.tables e below (T.setTop g) U ∧ U.status = .running ∧ Ended U below o ∧ G o U
/-- what a body leaves: it returned v, Q holds, the frame is kept -/
def Out (s : State) (Q : Option Value → Heap → List Loc → Prop) (C S : Nat) (o : Outcome) (U : State) : Prop :=
  ∃ v L, o = .returned v ∧ Q v U.heap L ∧ FrameEnd s o U L C S
section GoLaws
variable {p : Program} {l : Launch} {e : Env} {R : Room} {s : State} {m : MethodId} {args : Array Value} {below : List Frame} {meth : Method} {c : Code} {T T' : State} {locs : List Loc} {cells slots : Nat} {g g' : JFrame} {G : Outcome → State → Prop} {Q : Option Value → Heap → List Loc → Prop} {C S : Nat}
theorem Go.by (st : ∀ t, Steps p.tables e below (T'.setTop g') t → Steps p.tables e below (T.setTop g) t) (k : Go p e below G T' g') : Go p e below G T g := by
  obtain ⟨U, o, h, r⟩ := k
  exact ⟨U, o, st _ h, r⟩
theorem Go.tr (st : Steps p.tables e below (T.setTop g) (T'.setTop g')) (k : Go p e below G T' g') : Go p e below G T g := by
  obtain ⟨U, o, h, r⟩ := k
  exact ⟨U, o, st.trans h, r⟩
theorem Go.cast (q : g = g') (k : Go p e below G T g') : Go p e below G T g := by subst q; exact k
theorem Go.ends (X : Stand p l e R s m args below meth c T locs cells slots) {v : Option Value} (hlk : meth.locks = false) (hv : meth.sig.returnType = none → v = none)
    (st : ∀ fs, (∀ (f : JFrame) (acts : List Action), f.method = m → f.locked = none → f.entered = [] → (doReturn e (T.setTop f) acts v).1 = T.setFrames fs) → Steps p.tables e below (T.setTop g) (T.setFrames fs))
    (hQ : Q v T.heap locs) (hc : cells ≤ C) (hs : slots ≤ S) : Go p e below (Out s Q C S) T g := by
  obtain ⟨fs, hr, hrun, hended, hW, hsame⟩ := X.leave (v := v) hv hlk
  exact ⟨_, _, st fs hr, hrun, hended, _, _, rfl, hQ, ⟨_, rfl⟩, hW, hsame.mono hc hs⟩
theorem Go.ret0 (X : Stand p l e R s m args below meth c T locs cells slots) (hx : p.tables.exec = Jvm.exec) (hret : meth.sig.returnType = none) (hlk : meth.locks = false) {pc : Nat} {Ls : Array Slot} (hd : decode c.code pc = .ok (.return_, 1))
    (hQ : Q none T.heap locs) (hc : cells ≤ C) (hs : slots ≤ S) : Go p e below (Out s Q C S) T (mkF m pc Ls []) :=
  Go.ends X hlk (fun _ => rfl) (fun fs hr => X.returnOut hx hret hd hr) hQ hc hs
theorem Go.retN (X : Stand p l e R s m args below meth c T locs cells slots) (hx : p.tables.exec = Jvm.exec) {t : FieldType} (hret : meth.sig.returnType = some t) (ht : t = .boolean ∨ t = .byte ∨ t = .char ∨ t = .short) (hlk : meth.locks = false) {pc : Nat} {Ls : Array Slot} {z : Int32} {rest : List Value} (hd : decode c.code pc = .ok (.ireturn, 1))
    (hQ : Q (some (.int (nar t z))) T.heap locs) (hc : cells ≤ C) (hs : slots ≤ S) : Go p e below (Out s Q C S) T (mkF m pc Ls (.int z :: rest)) :=
  Go.ends X hlk (fun h => by rw [hret] at h; cases h) (fun fs hr => RoadKit.retN X hx hret ht hd hr) hQ hc hs
theorem Go.retI (X : Stand p l e R s m args below meth c T locs cells slots) (hx : p.tables.exec = Jvm.exec) (hret : meth.sig.returnType = some .int) (hlk : meth.locks = false) {pc : Nat} {Ls : Array Slot} {z : Int32} {rest : List Value} (hd : decode c.code pc = .ok (.ireturn, 1))
    (hQ : Q (some (.int z)) T.heap locs) (hc : cells ≤ C) (hs : slots ≤ S) : Go p e below (Out s Q C S) T (mkF m pc Ls (.int z :: rest)) :=
  Go.ends X hlk (fun h => by rw [hret] at h; cases h) (fun fs hr => retOut X hx hret rfl (Or.inl ⟨rfl, Or.inl rfl, z, rfl⟩) hd hr) hQ hc hs
theorem Go.retL (X : Stand p l e R s m args below meth c T locs cells slots) (hx : p.tables.exec = Jvm.exec) (hret : meth.sig.returnType = some .long) (hlk : meth.locks = false) {pc : Nat} {Ls : Array Slot} {z : Int64} {rest : List Value} (hd : decode c.code pc = .ok (.lreturn, 1))
    (hQ : Q (some (.long z)) T.heap locs) (hc : cells ≤ C) (hs : slots ≤ S) : Go p e below (Out s Q C S) T (mkF m pc Ls (.long z :: rest)) :=
  Go.ends X hlk (fun h => by rw [hret] at h; cases h) (fun fs hr => retOut X hx hret rfl (Or.inr (Or.inl ⟨rfl, rfl, z, rfl⟩)) hd hr) hQ hc hs
theorem Go.retD (X : Stand p l e R s m args below meth c T locs cells slots) (hx : p.tables.exec = Jvm.exec) (hret : meth.sig.returnType = some .double) (hlk : meth.locks = false) {pc : Nat} {Ls : Array Slot} {z : UInt64} {rest : List Value} (hd : decode c.code pc = .ok (.dreturn, 1))
    (hQ : Q (some (.double z)) T.heap locs) (hc : cells ≤ C) (hs : slots ≤ S) : Go p e below (Out s Q C S) T (mkF m pc Ls (.double z :: rest)) :=
  Go.ends X hlk (fun h => by rw [hret] at h; cases h) (fun fs hr => retOut X hx hret rfl (Or.inr (Or.inr (Or.inl ⟨rfl, rfl, z, rfl⟩))) hd hr) hQ hc hs
theorem Go.retR (X : Stand p l e R s m args below meth c T locs cells slots) (hx : p.tables.exec = Jvm.exec) {t : FieldType} {w : Value} (hret : meth.sig.returnType = some t) (hn : narrow t w = w) (ht : t.isReference = true) (hw : w.isRef = true) (hlk : meth.locks = false) {pc : Nat} {Ls : Array Slot} {rest : List Value} (hd : decode c.code pc = .ok (.areturn, 1))
    (hQ : Q (some w) T.heap locs) (hc : cells ≤ C) (hs : slots ≤ S) : Go p e below (Out s Q C S) T (mkF m pc Ls (w :: rest)) :=
  Go.ends X hlk (fun h => by rw [hret] at h; cases h) (fun fs hr => retOut X hx hret hn (Or.inr (Or.inr (Or.inr (Or.inr ⟨rfl, ht, hw⟩)))) hd hr) hQ hc hs
theorem Stand_grow {cells' slots' : Nat} (X : Stand p l e R s m args below meth c T locs cells slots) (hc : cells ≤ cells') (hs : slots ≤ slots') : Stand p l e R s m args below meth c T locs cells' slots' :=
  { X with same := X.same.mono hc hs }
end GoLaws
theorem ne_arv {Z : State} {h : Heap} {a b : Addr} {C : String} {a0 : Array Value} {k : Nat} {kc : ClassId} {ty : FieldType} {z : Int32} {vs : List Value} {dv : Value} (F : Exa Z h a C) (wi : (Jvm.Cond.instantiable C k).before a0 Z = true) (G : Arv Z h b kc ty z vs dv) : a ≠ b := by
  obtain ⟨c, A, -⟩ := G
  exact ne_arr F wi A
theorem chars_lo (x : Int32) : ¬ nar .char ((x &&& (255 : Int32)).toUInt32.toUInt16.toUInt32.toInt32) < 0 ∧ ¬ (255 : Int32) < nar .char ((x &&& (255 : Int32)).toUInt32.toUInt16.toUInt32.toInt32) := by
  have t : ∀ k : Fin 256, ¬ nar .char ((Int32.ofNat k.val).toUInt32.toUInt16.toUInt32.toInt32) < 0 ∧ ¬ (255 : Int32) < nar .char ((Int32.ofNat k.val).toUInt32.toUInt16.toUInt32.toInt32) := by decide +kernel
  have h : (x &&& 255).toBitVec.toNat < 256 := by
    simp only [Int32.toBitVec_and, BitVec.toNat_and]
    exact Nat.lt_succ_of_le Nat.and_le_right
  have e : (x &&& 255) = Int32.ofNat (x &&& 255).toBitVec.toNat := by
    apply Int32.toBitVec_inj.mp
    show _ = BitVec.ofNat 32 _
    rw [BitVec.ofNat_toNat]; simp
  rw [e]
  exact t ⟨_, h⟩

/-- a long from 0 to K -/
def In (K : Int) (a : Int64) : Prop := 0 ≤ a.toInt ∧ a.toInt ≤ K
theorem In.b {K : Int} {a : Int64} (h : In K a) (hK : K < 9007199254740992) : B53 a := ⟨by have := h.1; omega, Int.lt_of_le_of_lt h.2 hK⟩
theorem In.add {A B : Int} {a b : Int64} (ha : In A a) (hb : In B b) (hA : A < 9007199254740992) (hB : B < 9007199254740992) : In (A + B) (a + b) := by
  have q := add64 (ha.b hA) (hb.b hB)
  exact ⟨by rw [q]; exact Int.add_nonneg ha.1 hb.1, by rw [q]; exact Int.add_le_add ha.2 hb.2⟩
theorem in_mask (x : Int32) : In 2147483647 (x &&& (2147483647 : Int32)).toInt64 := by
  have h := c_and x (2147483647 : Int32) (by decide)
  exact ⟨by rw [c_i2l]; exact h.1, by rw [c_i2l]; exact h.2⟩
theorem in_zero : In 0 (0 : Int64) := ⟨by decide, by decide⟩
theorem mask3 (x : Int32) : (x &&& (3 : Int32)) = (0 : Int32) ∨ (x &&& (3 : Int32)) = (1 : Int32) ∨ (x &&& (3 : Int32)) = (2 : Int32) ∨ (x &&& (3 : Int32)) = (3 : Int32) := by
  have h := c_and x (3 : Int32) (by decide)
  have e3 : (3 : Int32).toInt = 3 := by decide
  rw [e3] at h
  have : (x &&& 3).toInt = 0 ∨ (x &&& 3).toInt = 1 ∨ (x &&& 3).toInt = 2 ∨ (x &&& 3).toInt = 3 := by omega
  rcases this with q | q | q | q
  · exact Or.inl (Int32.toInt_inj.mp (by rw [q]; decide))
  · exact Or.inr (Or.inl (Int32.toInt_inj.mp (by rw [q]; decide)))
  · exact Or.inr (Or.inr (Or.inl (Int32.toInt_inj.mp (by rw [q]; decide))))
  · exact Or.inr (Or.inr (Or.inr (Int32.toInt_inj.mp (by rw [q]; decide))))
abbrev HW (a0 : Array Value) (Z : State) : Prop := ∀ d ∈ tables_1, d.before a0 Z = true
theorem ow0 {a0 : Array Value} {Z : State} (hw : HW a0 Z) : (Jvm.Cond.constant "com/example/shardpick/shardpick/generate/WeightedDrawTotalPinLaw" (7 : Nat) (2147483647 : Int32)).before a0 Z = true := hw _ (List.mem_of_getElem? (i := 0) rfl)
theorem ow1 {a0 : Array Value} {Z : State} (hw : HW a0 Z) : (Jvm.Cond.arrayClass Jvm.ClassFile.FieldType.double).before a0 Z = true := hw _ (List.mem_of_getElem? (i := 1) rfl)
theorem ow2 {a0 : Array Value} {Z : State} (hw : HW a0 Z) : (Jvm.Cond.classLink "com/example/shardpick/shardpick/generate/WeightedDrawTotalPinLaw" (8 : Nat) "com/example/shardpick/shardpick/generate/WeightedDraw").before a0 Z = true := hw _ (List.mem_of_getElem? (i := 2) rfl)
theorem ow3 {a0 : Array Value} {Z : State} (hw : HW a0 Z) : (Jvm.Cond.instantiable "com/example/shardpick/shardpick/generate/WeightedDraw" (1 : Nat)).before a0 Z = true := hw _ (List.mem_of_getElem? (i := 3) rfl)
theorem ow4 {a0 : Array Value} {Z : State} (hw : HW a0 Z) : (Jvm.Cond.initialized "com/example/shardpick/shardpick/generate/WeightedDraw").before a0 Z = true := hw _ (List.mem_of_getElem? (i := 4) rfl)
theorem ow5 {a0 : Array Value} {Z : State} (hw : HW a0 Z) : (Jvm.Cond.methodLink "com/example/shardpick/shardpick/generate/WeightedDrawTotalPinLaw" (10 : Nat) ({ cls := "com/example/shardpick/shardpick/generate/WeightedDraw", name := "<init>", desc := "([D)V" } : Jvm.MethodName)).before a0 Z = true := hw _ (List.mem_of_getElem? (i := 5) rfl)
theorem ow6 {a0 : Array Value} {Z : State} (hw : HW a0 Z) : (Jvm.Cond.instanceMethod ({ cls := "com/example/shardpick/shardpick/generate/WeightedDraw", name := "<init>", desc := "([D)V" } : Jvm.MethodName)).before a0 Z = true := hw _ (List.mem_of_getElem? (i := 6) rfl)
theorem ow7 {a0 : Array Value} {Z : State} (hw : HW a0 Z) : (Jvm.Cond.code ({ cls := "com/example/shardpick/shardpick/generate/WeightedDraw", name := "<init>", desc := "([D)V" } : Jvm.MethodName) prog_22_method_1_code (5 : Nat) (Option.none : Option Jvm.ClassFile.FieldType)).before a0 Z = true := hw _ (List.mem_of_getElem? (i := 7) rfl)
theorem ow8 {a0 : Array Value} {Z : State} (hw : HW a0 Z) : (Jvm.Cond.methodLink "com/example/shardpick/shardpick/generate/WeightedDraw" (1 : Nat) ({ cls := "java/lang/Object", name := "<init>", desc := "()V" } : Jvm.MethodName)).before a0 Z = true := hw _ (List.mem_of_getElem? (i := 8) rfl)
theorem ow9 {a0 : Array Value} {Z : State} (hw : HW a0 Z) : (Jvm.Cond.instanceMethod ({ cls := "java/lang/Object", name := "<init>", desc := "()V" } : Jvm.MethodName)).before a0 Z = true := hw _ (List.mem_of_getElem? (i := 9) rfl)
theorem ow10 {a0 : Array Value} {Z : State} (hw : HW a0 Z) : (Jvm.Cond.code ({ cls := "java/lang/Object", name := "<init>", desc := "()V" } : Jvm.MethodName) object_method_1_code (1 : Nat) (Option.none : Option Jvm.ClassFile.FieldType)).before a0 Z = true := hw _ (List.mem_of_getElem? (i := 10) rfl)
theorem ow11 {a0 : Array Value} {Z : State} (hw : HW a0 Z) : (Jvm.Cond.fieldLink "com/example/shardpick/shardpick/generate/WeightedDraw" (7 : Nat) "com/example/shardpick/shardpick/generate/WeightedDraw" "ends" "[D").before a0 Z = true := hw _ (List.mem_of_getElem? (i := 11) rfl)
theorem ow12 {a0 : Array Value} {Z : State} (hw : HW a0 Z) : (Jvm.Cond.laysFinal "com/example/shardpick/shardpick/generate/WeightedDraw" "com/example/shardpick/shardpick/generate/WeightedDraw" "ends" "[D").before a0 Z = true := hw _ (List.mem_of_getElem? (i := 12) rfl)
theorem ow13 {a0 : Array Value} {Z : State} (hw : HW a0 Z) : (Jvm.Cond.methodLink "com/example/shardpick/shardpick/generate/WeightedDrawTotalPinLaw" (13 : Nat) ({ cls := "com/example/shardpick/shardpick/generate/WeightedDraw", name := "total", desc := "()D" } : Jvm.MethodName)).before a0 Z = true := hw _ (List.mem_of_getElem? (i := 13) rfl)
theorem ow14 {a0 : Array Value} {Z : State} (hw : HW a0 Z) : (Jvm.Cond.declares ({ cls := "com/example/shardpick/shardpick/generate/WeightedDraw", name := "total", desc := "()D" } : Jvm.MethodName)).before a0 Z = true := hw _ (List.mem_of_getElem? (i := 14) rfl)
theorem ow15 {a0 : Array Value} {Z : State} (hw : HW a0 Z) : (Jvm.Cond.instanceMethod ({ cls := "com/example/shardpick/shardpick/generate/WeightedDraw", name := "total", desc := "()D" } : Jvm.MethodName)).before a0 Z = true := hw _ (List.mem_of_getElem? (i := 15) rfl)
theorem ow16 {a0 : Array Value} {Z : State} (hw : HW a0 Z) : (Jvm.Cond.selects "com/example/shardpick/shardpick/generate/WeightedDraw" ({ cls := "com/example/shardpick/shardpick/generate/WeightedDraw", name := "total", desc := "()D" } : Jvm.MethodName) ({ cls := "com/example/shardpick/shardpick/generate/WeightedDraw", name := "total", desc := "()D" } : Jvm.MethodName)).before a0 Z = true := hw _ (List.mem_of_getElem? (i := 16) rfl)
theorem ow17 {a0 : Array Value} {Z : State} (hw : HW a0 Z) : (Jvm.Cond.code ({ cls := "com/example/shardpick/shardpick/generate/WeightedDraw", name := "total", desc := "()D" } : Jvm.MethodName) prog_22_method_2_code (1 : Nat) (Option.some Jvm.ClassFile.FieldType.double)).before a0 Z = true := hw _ (List.mem_of_getElem? (i := 17) rfl)
theorem od_prog_22_m_1_0 : decode prog_22_method_1_code 0 = .ok (.aload_n 0, 1) := by decide +kernel
theorem od_prog_22_m_1_1 : decode prog_22_method_1_code 1 = .ok (.invokespecial 1, 3) := by decide +kernel
theorem od_prog_22_m_1_4 : decode prog_22_method_1_code 4 = .ok (.aload_n 0, 1) := by decide +kernel
theorem od_prog_22_m_1_5 : decode prog_22_method_1_code 5 = .ok (.aload_n 1, 1) := by decide +kernel
theorem od_prog_22_m_1_6 : decode prog_22_method_1_code 6 = .ok (.arraylength, 1) := by decide +kernel
theorem od_prog_22_m_1_7 : decode prog_22_method_1_code 7 = .ok (.newarray .double, 2) := by decide +kernel
theorem od_prog_22_m_1_9 : decode prog_22_method_1_code 9 = .ok (.putfield 7, 3) := by decide +kernel
theorem od_prog_22_m_1_12 : decode prog_22_method_1_code 12 = .ok (.dconst 0, 1) := by decide +kernel
theorem od_prog_22_m_1_13 : decode prog_22_method_1_code 13 = .ok (.dstore_n 2, 1) := by decide +kernel
theorem od_prog_22_m_1_14 : decode prog_22_method_1_code 14 = .ok (.iconst 0, 1) := by decide +kernel
theorem od_prog_22_m_1_15 : decode prog_22_method_1_code 15 = .ok (.istore 4, 2) := by decide +kernel
theorem od_prog_22_m_1_17 : decode prog_22_method_1_code 17 = .ok (.iload 4, 2) := by decide +kernel
theorem od_prog_22_m_1_19 : decode prog_22_method_1_code 19 = .ok (.aload_n 1, 1) := by decide +kernel
theorem od_prog_22_m_1_20 : decode prog_22_method_1_code 20 = .ok (.arraylength, 1) := by decide +kernel
theorem od_prog_22_m_1_21 : decode prog_22_method_1_code 21 = .ok (.if_icmp .ge 24, 3) := by decide +kernel
theorem od_prog_22_m_1_24 : decode prog_22_method_1_code 24 = .ok (.dload_n 2, 1) := by decide +kernel
theorem od_prog_22_m_1_25 : decode prog_22_method_1_code 25 = .ok (.aload_n 1, 1) := by decide +kernel
theorem od_prog_22_m_1_26 : decode prog_22_method_1_code 26 = .ok (.iload 4, 2) := by decide +kernel
theorem od_prog_22_m_1_28 : decode prog_22_method_1_code 28 = .ok (.daload, 1) := by decide +kernel
theorem od_prog_22_m_1_29 : decode prog_22_method_1_code 29 = .ok (.dadd, 1) := by decide +kernel
theorem od_prog_22_m_1_30 : decode prog_22_method_1_code 30 = .ok (.dstore_n 2, 1) := by decide +kernel
theorem od_prog_22_m_1_31 : decode prog_22_method_1_code 31 = .ok (.aload_n 0, 1) := by decide +kernel
theorem od_prog_22_m_1_32 : decode prog_22_method_1_code 32 = .ok (.getfield 7, 3) := by decide +kernel
theorem od_prog_22_m_1_35 : decode prog_22_method_1_code 35 = .ok (.iload 4, 2) := by decide +kernel
theorem od_prog_22_m_1_37 : decode prog_22_method_1_code 37 = .ok (.dload_n 2, 1) := by decide +kernel
theorem od_prog_22_m_1_38 : decode prog_22_method_1_code 38 = .ok (.dastore, 1) := by decide +kernel
theorem od_prog_22_m_1_39 : decode prog_22_method_1_code 39 = .ok (.iinc 4 1, 3) := by decide +kernel
theorem od_prog_22_m_1_42 : decode prog_22_method_1_code 42 = .ok (.goto (-25), 3) := by decide +kernel
theorem od_prog_22_m_1_45 : decode prog_22_method_1_code 45 = .ok (.return_, 1) := by decide +kernel
theorem od_prog_22_m_2_0 : decode prog_22_method_2_code 0 = .ok (.aload_n 0, 1) := by decide +kernel
theorem od_prog_22_m_2_1 : decode prog_22_method_2_code 1 = .ok (.getfield 7, 3) := by decide +kernel
theorem od_prog_22_m_2_4 : decode prog_22_method_2_code 4 = .ok (.aload_n 0, 1) := by decide +kernel
theorem od_prog_22_m_2_5 : decode prog_22_method_2_code 5 = .ok (.getfield 7, 3) := by decide +kernel
theorem od_prog_22_m_2_8 : decode prog_22_method_2_code 8 = .ok (.arraylength, 1) := by decide +kernel
theorem od_prog_22_m_2_9 : decode prog_22_method_2_code 9 = .ok (.iconst 1, 1) := by decide +kernel
theorem od_prog_22_m_2_10 : decode prog_22_method_2_code 10 = .ok (.isub, 1) := by decide +kernel
theorem od_prog_22_m_2_11 : decode prog_22_method_2_code 11 = .ok (.daload, 1) := by decide +kernel
theorem od_prog_22_m_2_12 : decode prog_22_method_2_code 12 = .ok (.dreturn, 1) := by decide +kernel
theorem opd_0 : parseMethodDescriptor "([D)V" = some ⟨[(.array .double)], none⟩ := by decide +kernel
theorem opd_1 : parseMethodDescriptor "()D" = some ⟨[], some .double⟩ := by decide +kernel
theorem opn_0 : plainName "com/example/shardpick/shardpick/generate/WeightedDraw" = true := by first | (simp [plainName, overriddenIn]; done) | decide +kernel
theorem opn_1 : plainName "com/example/shardpick/shardpick/generate/WeightedDrawTotalPinLaw" = true := by first | (simp [plainName, overriddenIn]; done) | decide +kernel
theorem oef_wd1 (m : MethodId) (x0 : Addr) (x1 : Addr) : entryFrame m #[(.ref x0), (.ref x1)] 5 = mkF m 0 #[.val (.ref x0), .val (.ref x1), .unset, .unset, .unset] [] := by first | (simp [entryFrame, mkF, argsToLocals, Value.category, maxLocals]; done) | rfl
theorem oef_tot1 (m : MethodId) (x0 : Addr) : entryFrame m #[(.ref x0)] 1 = mkF m 0 #[.val (.ref x0)] [] := by first | (simp [entryFrame, mkF, argsToLocals, Value.category, maxLocals]; done) | rfl
theorem oef_wd2 (m : MethodId) (x0 : Addr) (x1 : Addr) : entryFrame m #[(.ref x0), (.ref x1)] 5 = mkF m 0 #[.val (.ref x0), .val (.ref x1), .unset, .unset, .unset] [] := by first | (simp [entryFrame, mkF, argsToLocals, Value.category, maxLocals]; done) | rfl
theorem oef_tot2 (m : MethodId) (x0 : Addr) : entryFrame m #[(.ref x0)] 1 = mkF m 0 #[.val (.ref x0)] [] := by first | (simp [entryFrame, mkF, argsToLocals, Value.category, maxLocals]; done) | rfl
theorem oef_wd3 (m : MethodId) (x0 : Addr) (x1 : Addr) : entryFrame m #[(.ref x0), (.ref x1)] 5 = mkF m 0 #[.val (.ref x0), .val (.ref x1), .unset, .unset, .unset] [] := by first | (simp [entryFrame, mkF, argsToLocals, Value.category, maxLocals]; done) | rfl
theorem oef_tot3 (m : MethodId) (x0 : Addr) : entryFrame m #[(.ref x0)] 1 = mkF m 0 #[.val (.ref x0)] [] := by first | (simp [entryFrame, mkF, argsToLocals, Value.category, maxLocals]; done) | rfl
theorem oef_wd4 (m : MethodId) (x0 : Addr) (x1 : Addr) : entryFrame m #[(.ref x0), (.ref x1)] 5 = mkF m 0 #[.val (.ref x0), .val (.ref x1), .unset, .unset, .unset] [] := by first | (simp [entryFrame, mkF, argsToLocals, Value.category, maxLocals]; done) | rfl
theorem oef_tot4 (m : MethodId) (x0 : Addr) : entryFrame m #[(.ref x0)] 1 = mkF m 0 #[.val (.ref x0)] [] := by first | (simp [entryFrame, mkF, argsToLocals, Value.category, maxLocals]; done) | rfl
theorem oef_law (m : MethodId) (x0 : Int32) (x1 : Int32) (x2 : Int32) (x3 : Int32) (x4 : Int32) : entryFrame m #[(.int x0), (.int x1), (.int x2), (.int x3), (.int x4)] maxLocals = mkF m 0 #[.val (.int x0), .val (.int x1), .val (.int x2), .val (.int x3), .val (.int x4), .unset, .unset, .unset, .unset, .unset, .unset, .unset, .unset, .unset] [] := by first | (simp [entryFrame, mkF, argsToLocals, Value.category, maxLocals]; done) | rfl
def Q_wd1 (Z : State) (a1 : Addr) (a2 : Addr) (k2 : ClassId) (x0 : Int64) (h0 : Heap) (n0 : Nat) (v : Option Value) (h : Heap) (L : List Loc) : Prop := ∃ bt : Addr, ∃ kt : ClassId, v = none ∧ Fr n0 L ∧ Keep h0 h [a1] ∧ (Exa Z h a1 "com/example/shardpick/shardpick/generate/WeightedDraw") ∧ (Fld Z h a1 "com/example/shardpick/shardpick/generate/WeightedDraw" "ends" "[D" (.ref bt)) ∧ (Arv Z h bt kt .double (1 : Int32) ([(.double (FP.l2d ((0 : Int64) + x0)))]) (.double (FP.l2d 0)))
set_option maxRecDepth 65536 in
set_option maxHeartbeats 40000000 in
theorem rm_wd1 (l : Launch) (Z : State) (a0 : Array Value) (hw : HW a0 Z) (ws : List Jvm.Cond) (a1 : Addr) (a2 : Addr) (k2 : ClassId) (x0 : Int64) (h0 : Heap) (n0 : Nat) (Z0 : n0 ≤ h0.size) (E1 : Exa Z h0 a1 "com/example/shardpick/shardpick/generate/WeightedDraw") (g_a1 : n0 ≤ a1) (F1 : Fld Z h0 a1 "com/example/shardpick/shardpick/generate/WeightedDraw" "ends" "[D" .null) (V2 : Arv Z h0 a2 k2 .double (1 : Int32) ([(.double (FP.l2d x0))]) (.double (FP.l2d 0))) (I0 : In 2147483647 x0) :
    MetFree l (⟨"com/example/shardpick/shardpick/generate/WeightedDraw", "<init>", "([D)V"⟩ : MethodName) (head1 (Jvm.Cond.code (⟨"com/example/shardpick/shardpick/generate/WeightedDraw", "<init>", "([D)V"⟩ : MethodName) prog_22_method_1_code 5 (Option.none : Option Jvm.ClassFile.FieldType) :: ws) ({ frames := 1, cells := 1, slots := 1, locals := 12 } : Room)) (fun a U => a = #[(.ref a1), (.ref a2)] ∧ Z.Warmed39 U.vm ∧ U.heap = h0) (fun _ _ _ _ _ => True) (fun _ U o U' => Out U (Q_wd1 Z a1 a2 k2 x0 h0 n0) ({ frames := 1, cells := 1, slots := 1, locals := 12 } : Room).cells ({ frames := 1, cells := 1, slots := 1, locals := 12 } : Room).slots o U') := by
  refine MetFree.of_bodySF (plainFor_of_name opn_0) hisR ?_
  intro p e s m args below meth c s₁ Bd hml0 hP hK
  obtain ⟨rfl, hZ, hh⟩ := hP
  have hx := Bd.exec
  have hby := Bd.bytes
  have hml : c.maxLocals = 5 := hml0
  have hret := Bd.returns
  have hlk : meth.locks = false := BodyLoose.notSynchronized Bd
  have hown : s.vm.findClass "com/example/shardpick/shardpick/generate/WeightedDraw" = some m.cls := findClass_of_methodNamed Bd.named
  have hnm := (name_of_methodNamed Bd.named Bd.method).1
  have X0 : Stand p l e ({ frames := 1, cells := 1, slots := 1, locals := 12 } : Room) s m #[(.ref a1), (.ref a2)] below meth c s₁ [] 0 0 := Stand.of_body Bd
  have e0 : s₁.heap = h0 := by rw [← hh, Bd.state]; rfl
  have N0 := Fr.nil n0
  have K0 : Keep h0 h0 [a1] := Keep.refl h0 _
  show Go p e below (Out s (Q_wd1 Z a1 a2 k2 x0 h0 n0) ({ frames := 1, cells := 1, slots := 1, locals := 12 } : Room).cells ({ frames := 1, cells := 1, slots := 1, locals := 12 } : Room).slots) s₁ (entryFrame m #[(.ref a1), (.ref a2)] 5)
  refine Go.cast (oef_wd1 m a1 a2) ?_
  show Go p e below _ s₁ (mkF m 0 #[.val (.ref a1), .val (.ref a2), .unset, .unset, .unset] [])
  refine Go.by (fun t k => XS.aloadN X0.here hx rfl (hb hby od_prog_22_m_1_0) rfl rfl k) ?_
  show Go p e below _ s₁ (mkF m 1 #[.val (.ref a1), .val (.ref a2), .unset, .unset, .unset] [(.ref a1)])
  obtain ⟨T101, X101, e101, st101⟩ := initO X0 hx hZ hown (ow8 hw) (ow9 hw) (ow10 hw) e0 (g := (mkF m 1 #[.val (.ref a1), .val (.ref a2), .unset, .unset, .unset] [(.ref a1)])) rfl (by rw [hml]; rfl) rfl (hb hby od_prog_22_m_1_1) (by decide) (W := 0) (by show 2 * 0 + _ ≤ _; exact Nat.le_of_eq rfl) (by decide)
  refine Go.by st101 ?_
  show Go p e below _ T101 (mkF m 4 #[.val (.ref a1), .val (.ref a2), .unset, .unset, .unset] [])
  refine Go.by (fun t k => XS.aloadN X101.here hx rfl (hb hby od_prog_22_m_1_4) rfl rfl (XS.aloadN X101.here hx rfl (hb hby od_prog_22_m_1_5) rfl rfl k)) ?_
  show Go p e below _ T101 (mkF m 6 #[.val (.ref a1), .val (.ref a2), .unset, .unset, .unset] [(.ref a2), (.ref a1)])
  obtain ⟨c102, A102, q102, S102, M102, G102, J102⟩ := id V2
  have l102 := len_of S102 M102
  refine Go.by (X101.arraylength hx (by rw [e101]; exact A102.1) (State.isArrayOf_alike hZ.alike A102.2.1) (g := (mkF m 6 #[.val (.ref a1), .val (.ref a2), .unset, .unset, .unset] [(.ref a2), (.ref a1)])) rfl rfl (hb hby od_prog_22_m_1_6)) ?_
  rw [l102]
  show Go p e below _ T101 (mkF m 7 #[.val (.ref a1), .val (.ref a2), .unset, .unset, .unset] [(.int (1 : Int32)), (.ref a1)])
  obtain ⟨T103, h103, k103, X103, e103, E103, A103, st103⟩ := newP X101 hx hZ (aty := .double) (ow1 hw) e101 (g := (mkF m 7 #[.val (.ref a1), .val (.ref a2), .unset, .unset, .unset] [(.int (1 : Int32)), (.ref a1)])) rfl (hb hby od_prog_22_m_1_7) rfl (by decide) (cap := 1) (by decide) (by decide) (by decide) (by decide)
  obtain ⟨b103, g103⟩ : ∃ z, z = h0.size := ⟨_, rfl⟩
  rw [← g103] at A103 st103
  refine Go.by st103 ?_
  have K104 : Keep h0 h103 [a1] := K0.ext E103
  show Go p e below _ T103 (mkF m 9 #[.val (.ref a1), .val (.ref a2), .unset, .unset, .unset] [(.ref b103), (.ref a1)])
  have V103 : Arv Z h103 b103 k103 .double (1 : Int32) [(.double (FP.l2d 0))] (.double (FP.l2d 0)) := (Arv.newD A103 (by decide)).pad (pad_rep [] (.double (FP.l2d 0)) 1)
  have F106 : Fld Z h103 a1 "com/example/shardpick/shardpick/generate/WeightedDraw" "ends" "[D" .null := (F1.ext E103)
  have F107 : Exa Z h103 a1 "com/example/shardpick/shardpick/generate/WeightedDraw" := (E1.ext E103)
  obtain ⟨T105, h105, X105, e105, W105, st105⟩ := putF X103 hx hZ hown (host := "") (Or.inl (ow11 hw)) Via.refl e103 F106 F107 (Or.inr ⟨(ow12 hw), rfl, hnm⟩) (ow3 hw) (ty := (.array .double)) (by decide) rfl rfl (g := (mkF m 9 #[.val (.ref a1), .val (.ref a2), .unset, .unset, .unset] [(.ref b103), (.ref a1)])) rfl rfl (hb hby od_prog_22_m_1_9)
  refine Go.by st105 ?_
  have N105 := Fr.snoc X105 N0 g_a1
  have K108 : Keep h0 h105 [a1] := K104.wr W105 (Or.inl (List.mem_of_getElem? (i := 0) rfl))
  show Go p e below _ T105 (mkF m 12 #[.val (.ref a1), .val (.ref a2), .unset, .unset, .unset] [])
  refine Go.by (fun t k => XS.dconst0 X105.here hx rfl (hb hby od_prog_22_m_1_12) (v := (FP.l2d 0)) (by decide +kernel) (XS.dstoreN X105.here hx rfl (hb hby od_prog_22_m_1_13) rfl (l' := #[.val (.ref a1), .val (.ref a2), .val (.double (FP.l2d 0)), .second, .unset]) rfl (XS.iconst X105.here hx rfl (hb hby od_prog_22_m_1_14) (XS.istore X105.here hx rfl (hb hby od_prog_22_m_1_15) rfl (l' := #[.val (.ref a1), .val (.ref a2), .val (.double (FP.l2d 0)), .second, .val (.int (0 : Int32))]) rfl k)))) ?_
  show Go p e below _ T105 (mkF m 17 #[.val (.ref a1), .val (.ref a2), .val (.double (FP.l2d 0)), .second, .val (.int (0 : Int32))] [])
  refine Go.by (fun t k => XS.iload X105.here hx rfl (hb hby od_prog_22_m_1_17) rfl (XS.aloadN X105.here hx rfl (hb hby od_prog_22_m_1_19) rfl rfl k)) ?_
  show Go p e below _ T105 (mkF m 20 #[.val (.ref a1), .val (.ref a2), .val (.double (FP.l2d 0)), .second, .val (.int (0 : Int32))] [(.ref a2), (.int (0 : Int32))])
  have J0 : In 0 (0 : Int64) := in_zero
  have F110 : Arv Z h105 a2 k2 .double (1 : Int32) ([(.double (FP.l2d x0))]) (.double (FP.l2d 0)) := ((V2.ext E103).other W105 (Ne.symm (ne_arv F107 (ow3 hw) (V2.ext E103))))
  obtain ⟨c109, A109, q109, S109, M109, G109, J109⟩ := id F110
  have l109 := len_of S109 M109
  refine Go.by (X105.arraylength hx (by rw [e105]; exact A109.1) (State.isArrayOf_alike hZ.alike A109.2.1) (g := (mkF m 20 #[.val (.ref a1), .val (.ref a2), .val (.double (FP.l2d 0)), .second, .val (.int (0 : Int32))] [(.ref a2), (.int (0 : Int32))])) rfl rfl (hb hby od_prog_22_m_1_20)) ?_
  rw [l109]
  show Go p e below _ T105 (mkF m 21 #[.val (.ref a1), .val (.ref a2), .val (.double (FP.l2d 0)), .second, .val (.int (0 : Int32))] [(.int (1 : Int32)), (.int (0 : Int32))])
  refine Go.by (fun t k => XS.icmpNo X105.here hx rfl (hb hby od_prog_22_m_1_21) rfl (tlt (show (0 : Int32) < (1 : Int32) from (by decide))).2.1 k) ?_
  show Go p e below _ T105 (mkF m 24 #[.val (.ref a1), .val (.ref a2), .val (.double (FP.l2d 0)), .second, .val (.int (0 : Int32))] [])
  refine Go.by (fun t k => XS.dloadN X105.here hx rfl (hb hby od_prog_22_m_1_24) rfl (XS.aloadN X105.here hx rfl (hb hby od_prog_22_m_1_25) rfl rfl (XS.iload X105.here hx rfl (hb hby od_prog_22_m_1_26) rfl k))) ?_
  show Go p e below _ T105 (mkF m 28 #[.val (.ref a1), .val (.ref a2), .val (.double (FP.l2d 0)), .second, .val (.int (0 : Int32))] [(.int (0 : Int32)), (.ref a2), (.double (FP.l2d 0))])
  obtain ⟨c111, A111, q111, S111, M111, G111, J111⟩ := id F110
  have i111 := inb_of S111 (j := (0 : Int32)) ⟨by decide, by decide⟩
  refine Go.by (X105.daload hx (j := (0 : Int32)) (v := (.double (FP.l2d x0))) (by rw [e105]; exact A111.1) (State.isArrayOf_alike hZ.alike A111.2.1) A111.2.2 i111 (G111.at i111 rfl) (g := (mkF m 28 #[.val (.ref a1), .val (.ref a2), .val (.double (FP.l2d 0)), .second, .val (.int (0 : Int32))] [(.int (0 : Int32)), (.ref a2), (.double (FP.l2d 0))])) rfl rfl (hb hby od_prog_22_m_1_28)) ?_
  show Go p e below _ T105 (mkF m 29 #[.val (.ref a1), .val (.ref a2), .val (.double (FP.l2d 0)), .second, .val (.int (0 : Int32))] [(.double (FP.l2d x0)), (.double (FP.l2d 0))])
  have q112 : FP.dadd (FP.l2d 0) (FP.l2d x0) = (FP.l2d ((0 : Int64) + x0)) := dadd_w (J0.b (by decide)) (I0.b (by decide))
  refine Go.by (fun t k => XS.daddS X105.here hx rfl (hb hby od_prog_22_m_1_29) rfl (nn_w q112) q112 k) ?_
  show Go p e below _ T105 (mkF m 30 #[.val (.ref a1), .val (.ref a2), .val (.double (FP.l2d 0)), .second, .val (.int (0 : Int32))] [(.double (FP.l2d ((0 : Int64) + x0)))])
  have J1 : In 2147483647 ((0 : Int64) + x0) := J0.add I0 (by decide) (by decide)
  refine Go.by (fun t k => XS.dstoreN X105.here hx rfl (hb hby od_prog_22_m_1_30) rfl (l' := #[.val (.ref a1), .val (.ref a2), .val (.double (FP.l2d ((0 : Int64) + x0))), .second, .val (.int (0 : Int32))]) rfl (XS.aloadN X105.here hx rfl (hb hby od_prog_22_m_1_31) rfl rfl k)) ?_
  show Go p e below _ T105 (mkF m 32 #[.val (.ref a1), .val (.ref a2), .val (.double (FP.l2d ((0 : Int64) + x0))), .second, .val (.int (0 : Int32))] [(.ref a1)])
  obtain ⟨T113, X113, e113, st113⟩ := getF X105 hx hZ hown (host := "") (Or.inl (ow11 hw)) Via.refl e105 (F106.same W105) (g := (mkF m 32 #[.val (.ref a1), .val (.ref a2), .val (.double (FP.l2d ((0 : Int64) + x0))), .second, .val (.int (0 : Int32))] [(.ref a1)])) rfl rfl (hb hby od_prog_22_m_1_32)
  refine Go.by st113 ?_
  show Go p e below _ T113 (mkF m 35 #[.val (.ref a1), .val (.ref a2), .val (.double (FP.l2d ((0 : Int64) + x0))), .second, .val (.int (0 : Int32))] [(.ref b103)])
  refine Go.by (fun t k => XS.iload X113.here hx rfl (hb hby od_prog_22_m_1_35) rfl (XS.dloadN X113.here hx rfl (hb hby od_prog_22_m_1_37) rfl k)) ?_
  show Go p e below _ T113 (mkF m 38 #[.val (.ref a1), .val (.ref a2), .val (.double (FP.l2d ((0 : Int64) + x0))), .second, .val (.int (0 : Int32))] [(.double (FP.l2d ((0 : Int64) + x0))), (.int (0 : Int32)), (.ref b103)])
  have F115 : Arv Z h105 b103 k103 .double (1 : Int32) ([(.double (FP.l2d 0))]) (.double (FP.l2d 0)) := (V103.other W105 (Ne.symm (Nat.ne_of_lt (Nat.lt_of_lt_of_le E1.lt (Nat.le_of_eq g103.symm)))))
  obtain ⟨c114, A114, q114, S114, M114, G114, J114⟩ := id F115
  obtain ⟨T114, h114, X114, e114, W114, st114⟩ := stD X113 hx hZ e113 A114 (j := (0 : Int32)) (inb_of S114 ⟨by decide, by decide⟩) (g := (mkF m 38 #[.val (.ref a1), .val (.ref a2), .val (.double (FP.l2d ((0 : Int64) + x0))), .second, .val (.int (0 : Int32))] [(.double (FP.l2d ((0 : Int64) + x0))), (.int (0 : Int32)), (.ref b103)])) rfl rfl (hb hby od_prog_22_m_1_38)
  refine Go.by st114 ?_
  have N114 := Fr.snoc X114 N105 (Nat.le_trans (Nat.le_trans Z0 (Nat.le_refl _)) (Nat.le_of_eq g103.symm))
  have K116 : Keep h0 h114 [a1] := K108.wr W114 (Or.inr (Nat.le_trans (Nat.le_refl _) (Nat.le_of_eq g103.symm)))
  show Go p e below _ T114 (mkF m 39 #[.val (.ref a1), .val (.ref a2), .val (.double (FP.l2d ((0 : Int64) + x0))), .second, .val (.int (0 : Int32))] [])
  have V114 : Arv Z h114 b103 k103 .double (1 : Int32) ([(.double (FP.l2d ((0 : Int64) + x0)))]) (.double (FP.l2d 0)) := Arv.set A114 q114 S114 M114 G114 J114 rfl W114 0 rfl (Nat.le_of_ble_eq_true rfl)
  refine Go.by (fun t k => XS.iinc X114.here hx rfl (hb hby od_prog_22_m_1_39) rfl (l' := #[.val (.ref a1), .val (.ref a2), .val (.double (FP.l2d ((0 : Int64) + x0))), .second, .val (.int (1 : Int32))]) rfl (XS.goto X114.here hx rfl (pc0 := 42) (pc' := 17) rfl (hb hby od_prog_22_m_1_42) (by decide) (by decide) (XS.iload X114.here hx rfl (hb hby od_prog_22_m_1_17) rfl (XS.aloadN X114.here hx rfl (hb hby od_prog_22_m_1_19) rfl rfl k)))) ?_
  show Go p e below _ T114 (mkF m 20 #[.val (.ref a1), .val (.ref a2), .val (.double (FP.l2d ((0 : Int64) + x0))), .second, .val (.int (1 : Int32))] [(.ref a2), (.int (1 : Int32))])
  have F118 : Arv Z h114 a2 k2 .double (1 : Int32) ([(.double (FP.l2d x0))]) (.double (FP.l2d 0)) := (F110.other W114 (Nat.ne_of_lt (Nat.lt_of_lt_of_le V2.lt (Nat.le_of_eq g103.symm))))
  obtain ⟨c117, A117, q117, S117, M117, G117, J117⟩ := id F118
  have l117 := len_of S117 M117
  refine Go.by (X114.arraylength hx (by rw [e114]; exact A117.1) (State.isArrayOf_alike hZ.alike A117.2.1) (g := (mkF m 20 #[.val (.ref a1), .val (.ref a2), .val (.double (FP.l2d ((0 : Int64) + x0))), .second, .val (.int (1 : Int32))] [(.ref a2), (.int (1 : Int32))])) rfl rfl (hb hby od_prog_22_m_1_20)) ?_
  rw [l117]
  show Go p e below _ T114 (mkF m 21 #[.val (.ref a1), .val (.ref a2), .val (.double (FP.l2d ((0 : Int64) + x0))), .second, .val (.int (1 : Int32))] [(.int (1 : Int32)), (.int (1 : Int32))])
  refine Go.by (fun t k => XS.icmpYes X114.here hx rfl (pc0 := 21) (pc' := 45) rfl (hb hby od_prog_22_m_1_21) rfl (flt (show ¬ ((1 : Int32) < (1 : Int32)) from (by decide))).2.1 (by decide) (by decide) k) ?_
  show Go p e below _ T114 (mkF m 45 #[.val (.ref a1), .val (.ref a2), .val (.double (FP.l2d ((0 : Int64) + x0))), .second, .val (.int (1 : Int32))] [])
  have F119 : Exa Z h114 a1 "com/example/shardpick/shardpick/generate/WeightedDraw" := ((F107.wr W105).wr W114)
  have F120 : Fld Z h114 a1 "com/example/shardpick/shardpick/generate/WeightedDraw" "ends" "[D" (.ref b103) := ((F106.same W105).other W114 (Or.inl (Nat.ne_of_lt (Nat.lt_of_lt_of_le E1.lt (Nat.le_of_eq g103.symm)))))
  exact Go.ret0 X114 hx hret hlk (hb hby od_prog_22_m_1_45) (by first | (rw [e114]; exact ⟨b103, k103, rfl, N114, K116, F119, F120, V114⟩) | exact ⟨b103, k103, rfl, N114, K116, F119, F120, V114⟩) (by decide) (by decide)
def Q_tot1 (Z : State) (a1 : Addr) (bt : Addr) (kt : ClassId) (x0 : Int64) (h0 : Heap) (n0 : Nat) (v : Option Value) (h : Heap) (L : List Loc) : Prop := v = some (.double (FP.l2d x0)) ∧ Fr n0 L ∧ h = h0
set_option maxRecDepth 65536 in
set_option maxHeartbeats 40000000 in
theorem rm_tot1 (l : Launch) (Z : State) (a0 : Array Value) (hw : HW a0 Z) (ws : List Jvm.Cond) (a1 : Addr) (bt : Addr) (kt : ClassId) (x0 : Int64) (h0 : Heap) (n0 : Nat) (Z0 : n0 ≤ h0.size) (F1 : Fld Z h0 a1 "com/example/shardpick/shardpick/generate/WeightedDraw" "ends" "[D" (.ref bt)) (V2 : Arv Z h0 bt kt .double (1 : Int32) ([(.double (FP.l2d x0))]) (.double (FP.l2d 0))) :
    MetFree l (⟨"com/example/shardpick/shardpick/generate/WeightedDraw", "total", "()D"⟩ : MethodName) (head1 (Jvm.Cond.code (⟨"com/example/shardpick/shardpick/generate/WeightedDraw", "total", "()D"⟩ : MethodName) prog_22_method_2_code 1 (Option.some Jvm.ClassFile.FieldType.double) :: ws) ({ frames := 0, cells := 0, slots := 0, locals := 0 } : Room)) (fun a U => a = #[(.ref a1)] ∧ Z.Warmed39 U.vm ∧ U.heap = h0) (fun _ _ _ _ _ => True) (fun _ U o U' => Out U (Q_tot1 Z a1 bt kt x0 h0 n0) ({ frames := 0, cells := 0, slots := 0, locals := 0 } : Room).cells ({ frames := 0, cells := 0, slots := 0, locals := 0 } : Room).slots o U') := by
  refine MetFree.of_bodySF (plainFor_of_name opn_0) hisR ?_
  intro p e s m args below meth c s₁ Bd hml0 hP hK
  obtain ⟨rfl, hZ, hh⟩ := hP
  have hx := Bd.exec
  have hby := Bd.bytes
  have hml : c.maxLocals = 1 := hml0
  have hret := Bd.returns
  have hlk : meth.locks = false := BodyLoose.notSynchronized Bd
  have hown : s.vm.findClass "com/example/shardpick/shardpick/generate/WeightedDraw" = some m.cls := findClass_of_methodNamed Bd.named
  have hnm := (name_of_methodNamed Bd.named Bd.method).1
  have X0 : Stand p l e ({ frames := 0, cells := 0, slots := 0, locals := 0 } : Room) s m #[(.ref a1)] below meth c s₁ [] 0 0 := Stand.of_body Bd
  have e0 : s₁.heap = h0 := by rw [← hh, Bd.state]; rfl
  have N0 := Fr.nil n0
  show Go p e below (Out s (Q_tot1 Z a1 bt kt x0 h0 n0) ({ frames := 0, cells := 0, slots := 0, locals := 0 } : Room).cells ({ frames := 0, cells := 0, slots := 0, locals := 0 } : Room).slots) s₁ (entryFrame m #[(.ref a1)] 1)
  refine Go.cast (oef_tot1 m a1) ?_
  show Go p e below _ s₁ (mkF m 0 #[.val (.ref a1)] [])
  refine Go.by (fun t k => XS.aloadN X0.here hx rfl (hb hby od_prog_22_m_2_0) rfl rfl k) ?_
  show Go p e below _ s₁ (mkF m 1 #[.val (.ref a1)] [(.ref a1)])
  obtain ⟨T121, X121, e121, st121⟩ := getF X0 hx hZ hown (host := "") (Or.inl (ow11 hw)) Via.refl e0 F1 (g := (mkF m 1 #[.val (.ref a1)] [(.ref a1)])) rfl rfl (hb hby od_prog_22_m_2_1)
  refine Go.by st121 ?_
  show Go p e below _ T121 (mkF m 4 #[.val (.ref a1)] [(.ref bt)])
  refine Go.by (fun t k => XS.aloadN X121.here hx rfl (hb hby od_prog_22_m_2_4) rfl rfl k) ?_
  show Go p e below _ T121 (mkF m 5 #[.val (.ref a1)] [(.ref a1), (.ref bt)])
  obtain ⟨T122, X122, e122, st122⟩ := getF X121 hx hZ hown (host := "") (Or.inl (ow11 hw)) Via.refl e121 F1 (g := (mkF m 5 #[.val (.ref a1)] [(.ref a1), (.ref bt)])) rfl rfl (hb hby od_prog_22_m_2_5)
  refine Go.by st122 ?_
  show Go p e below _ T122 (mkF m 8 #[.val (.ref a1)] [(.ref bt), (.ref bt)])
  obtain ⟨c123, A123, q123, S123, M123, G123, J123⟩ := id V2
  have l123 := len_of S123 M123
  refine Go.by (X122.arraylength hx (by rw [e122]; exact A123.1) (State.isArrayOf_alike hZ.alike A123.2.1) (g := (mkF m 8 #[.val (.ref a1)] [(.ref bt), (.ref bt)])) rfl rfl (hb hby od_prog_22_m_2_8)) ?_
  rw [l123]
  show Go p e below _ T122 (mkF m 9 #[.val (.ref a1)] [(.int (1 : Int32)), (.ref bt)])
  refine Go.by (fun t k => XS.iconst X122.here hx rfl (hb hby od_prog_22_m_2_9) (XS.isub X122.here hx rfl (hb hby od_prog_22_m_2_10) rfl k)) ?_
  show Go p e below _ T122 (mkF m 11 #[.val (.ref a1)] [(.int (0 : Int32)), (.ref bt)])
  obtain ⟨c124, A124, q124, S124, M124, G124, J124⟩ := id V2
  have i124 := inb_of S124 (j := (0 : Int32)) ⟨by decide, by decide⟩
  refine Go.by (X122.daload hx (j := (0 : Int32)) (v := (.double (FP.l2d x0))) (by rw [e122]; exact A124.1) (State.isArrayOf_alike hZ.alike A124.2.1) A124.2.2 i124 (G124.at i124 rfl) (g := (mkF m 11 #[.val (.ref a1)] [(.int (0 : Int32)), (.ref bt)])) rfl rfl (hb hby od_prog_22_m_2_11)) ?_
  show Go p e below _ T122 (mkF m 12 #[.val (.ref a1)] [(.double (FP.l2d x0))])
  exact Go.retD X122 hx hret hlk (hb hby od_prog_22_m_2_12) (by first | (rw [e122]; exact ⟨rfl, N0, rfl⟩) | exact ⟨rfl, N0, rfl⟩) (by decide) (by decide)
def Q_wd2 (Z : State) (a1 : Addr) (a2 : Addr) (k2 : ClassId) (x0 : Int64) (x1 : Int64) (h0 : Heap) (n0 : Nat) (v : Option Value) (h : Heap) (L : List Loc) : Prop := ∃ bt : Addr, ∃ kt : ClassId, v = none ∧ Fr n0 L ∧ Keep h0 h [a1] ∧ (Exa Z h a1 "com/example/shardpick/shardpick/generate/WeightedDraw") ∧ (Fld Z h a1 "com/example/shardpick/shardpick/generate/WeightedDraw" "ends" "[D" (.ref bt)) ∧ (Arv Z h bt kt .double (2 : Int32) ([(.double (FP.l2d ((0 : Int64) + x0))), (.double (FP.l2d (((0 : Int64) + x0) + x1)))]) (.double (FP.l2d 0)))
set_option maxRecDepth 65536 in
set_option maxHeartbeats 40000000 in
theorem rm_wd2 (l : Launch) (Z : State) (a0 : Array Value) (hw : HW a0 Z) (ws : List Jvm.Cond) (a1 : Addr) (a2 : Addr) (k2 : ClassId) (x0 : Int64) (x1 : Int64) (h0 : Heap) (n0 : Nat) (Z0 : n0 ≤ h0.size) (E1 : Exa Z h0 a1 "com/example/shardpick/shardpick/generate/WeightedDraw") (g_a1 : n0 ≤ a1) (F1 : Fld Z h0 a1 "com/example/shardpick/shardpick/generate/WeightedDraw" "ends" "[D" .null) (V2 : Arv Z h0 a2 k2 .double (2 : Int32) ([(.double (FP.l2d x0)), (.double (FP.l2d x1))]) (.double (FP.l2d 0))) (I0 : In 2147483647 x0) (I1 : In 2147483647 x1) :
    MetFree l (⟨"com/example/shardpick/shardpick/generate/WeightedDraw", "<init>", "([D)V"⟩ : MethodName) (head1 (Jvm.Cond.code (⟨"com/example/shardpick/shardpick/generate/WeightedDraw", "<init>", "([D)V"⟩ : MethodName) prog_22_method_1_code 5 (Option.none : Option Jvm.ClassFile.FieldType) :: ws) ({ frames := 1, cells := 1, slots := 2, locals := 12 } : Room)) (fun a U => a = #[(.ref a1), (.ref a2)] ∧ Z.Warmed39 U.vm ∧ U.heap = h0) (fun _ _ _ _ _ => True) (fun _ U o U' => Out U (Q_wd2 Z a1 a2 k2 x0 x1 h0 n0) ({ frames := 1, cells := 1, slots := 2, locals := 12 } : Room).cells ({ frames := 1, cells := 1, slots := 2, locals := 12 } : Room).slots o U') := by
  refine MetFree.of_bodySF (plainFor_of_name opn_0) hisR ?_
  intro p e s m args below meth c s₁ Bd hml0 hP hK
  obtain ⟨rfl, hZ, hh⟩ := hP
  have hx := Bd.exec
  have hby := Bd.bytes
  have hml : c.maxLocals = 5 := hml0
  have hret := Bd.returns
  have hlk : meth.locks = false := BodyLoose.notSynchronized Bd
  have hown : s.vm.findClass "com/example/shardpick/shardpick/generate/WeightedDraw" = some m.cls := findClass_of_methodNamed Bd.named
  have hnm := (name_of_methodNamed Bd.named Bd.method).1
  have X0 : Stand p l e ({ frames := 1, cells := 1, slots := 2, locals := 12 } : Room) s m #[(.ref a1), (.ref a2)] below meth c s₁ [] 0 0 := Stand.of_body Bd
  have e0 : s₁.heap = h0 := by rw [← hh, Bd.state]; rfl
  have N0 := Fr.nil n0
  have K0 : Keep h0 h0 [a1] := Keep.refl h0 _
  show Go p e below (Out s (Q_wd2 Z a1 a2 k2 x0 x1 h0 n0) ({ frames := 1, cells := 1, slots := 2, locals := 12 } : Room).cells ({ frames := 1, cells := 1, slots := 2, locals := 12 } : Room).slots) s₁ (entryFrame m #[(.ref a1), (.ref a2)] 5)
  refine Go.cast (oef_wd2 m a1 a2) ?_
  show Go p e below _ s₁ (mkF m 0 #[.val (.ref a1), .val (.ref a2), .unset, .unset, .unset] [])
  refine Go.by (fun t k => XS.aloadN X0.here hx rfl (hb hby od_prog_22_m_1_0) rfl rfl k) ?_
  show Go p e below _ s₁ (mkF m 1 #[.val (.ref a1), .val (.ref a2), .unset, .unset, .unset] [(.ref a1)])
  obtain ⟨T125, X125, e125, st125⟩ := initO X0 hx hZ hown (ow8 hw) (ow9 hw) (ow10 hw) e0 (g := (mkF m 1 #[.val (.ref a1), .val (.ref a2), .unset, .unset, .unset] [(.ref a1)])) rfl (by rw [hml]; rfl) rfl (hb hby od_prog_22_m_1_1) (by decide) (W := 0) (by show 2 * 0 + _ ≤ _; exact Nat.le_of_eq rfl) (by decide)
  refine Go.by st125 ?_
  show Go p e below _ T125 (mkF m 4 #[.val (.ref a1), .val (.ref a2), .unset, .unset, .unset] [])
  refine Go.by (fun t k => XS.aloadN X125.here hx rfl (hb hby od_prog_22_m_1_4) rfl rfl (XS.aloadN X125.here hx rfl (hb hby od_prog_22_m_1_5) rfl rfl k)) ?_
  show Go p e below _ T125 (mkF m 6 #[.val (.ref a1), .val (.ref a2), .unset, .unset, .unset] [(.ref a2), (.ref a1)])
  obtain ⟨c126, A126, q126, S126, M126, G126, J126⟩ := id V2
  have l126 := len_of S126 M126
  refine Go.by (X125.arraylength hx (by rw [e125]; exact A126.1) (State.isArrayOf_alike hZ.alike A126.2.1) (g := (mkF m 6 #[.val (.ref a1), .val (.ref a2), .unset, .unset, .unset] [(.ref a2), (.ref a1)])) rfl rfl (hb hby od_prog_22_m_1_6)) ?_
  rw [l126]
  show Go p e below _ T125 (mkF m 7 #[.val (.ref a1), .val (.ref a2), .unset, .unset, .unset] [(.int (2 : Int32)), (.ref a1)])
  obtain ⟨T127, h127, k127, X127, e127, E127, A127, st127⟩ := newP X125 hx hZ (aty := .double) (ow1 hw) e125 (g := (mkF m 7 #[.val (.ref a1), .val (.ref a2), .unset, .unset, .unset] [(.int (2 : Int32)), (.ref a1)])) rfl (hb hby od_prog_22_m_1_7) rfl (by decide) (cap := 2) (by decide) (by decide) (by decide) (by decide)
  obtain ⟨b127, g127⟩ : ∃ z, z = h0.size := ⟨_, rfl⟩
  rw [← g127] at A127 st127
  refine Go.by st127 ?_
  have K128 : Keep h0 h127 [a1] := K0.ext E127
  show Go p e below _ T127 (mkF m 9 #[.val (.ref a1), .val (.ref a2), .unset, .unset, .unset] [(.ref b127), (.ref a1)])
  have V127 : Arv Z h127 b127 k127 .double (2 : Int32) [(.double (FP.l2d 0)), (.double (FP.l2d 0))] (.double (FP.l2d 0)) := (Arv.newD A127 (by decide)).pad (pad_rep [] (.double (FP.l2d 0)) 2)
  have F130 : Fld Z h127 a1 "com/example/shardpick/shardpick/generate/WeightedDraw" "ends" "[D" .null := (F1.ext E127)
  have F131 : Exa Z h127 a1 "com/example/shardpick/shardpick/generate/WeightedDraw" := (E1.ext E127)
  obtain ⟨T129, h129, X129, e129, W129, st129⟩ := putF X127 hx hZ hown (host := "") (Or.inl (ow11 hw)) Via.refl e127 F130 F131 (Or.inr ⟨(ow12 hw), rfl, hnm⟩) (ow3 hw) (ty := (.array .double)) (by decide) rfl rfl (g := (mkF m 9 #[.val (.ref a1), .val (.ref a2), .unset, .unset, .unset] [(.ref b127), (.ref a1)])) rfl rfl (hb hby od_prog_22_m_1_9)
  refine Go.by st129 ?_
  have N129 := Fr.snoc X129 N0 g_a1
  have K132 : Keep h0 h129 [a1] := K128.wr W129 (Or.inl (List.mem_of_getElem? (i := 0) rfl))
  show Go p e below _ T129 (mkF m 12 #[.val (.ref a1), .val (.ref a2), .unset, .unset, .unset] [])
  refine Go.by (fun t k => XS.dconst0 X129.here hx rfl (hb hby od_prog_22_m_1_12) (v := (FP.l2d 0)) (by decide +kernel) (XS.dstoreN X129.here hx rfl (hb hby od_prog_22_m_1_13) rfl (l' := #[.val (.ref a1), .val (.ref a2), .val (.double (FP.l2d 0)), .second, .unset]) rfl (XS.iconst X129.here hx rfl (hb hby od_prog_22_m_1_14) (XS.istore X129.here hx rfl (hb hby od_prog_22_m_1_15) rfl (l' := #[.val (.ref a1), .val (.ref a2), .val (.double (FP.l2d 0)), .second, .val (.int (0 : Int32))]) rfl k)))) ?_
  show Go p e below _ T129 (mkF m 17 #[.val (.ref a1), .val (.ref a2), .val (.double (FP.l2d 0)), .second, .val (.int (0 : Int32))] [])
  refine Go.by (fun t k => XS.iload X129.here hx rfl (hb hby od_prog_22_m_1_17) rfl (XS.aloadN X129.here hx rfl (hb hby od_prog_22_m_1_19) rfl rfl k)) ?_
  show Go p e below _ T129 (mkF m 20 #[.val (.ref a1), .val (.ref a2), .val (.double (FP.l2d 0)), .second, .val (.int (0 : Int32))] [(.ref a2), (.int (0 : Int32))])
  have J0 : In 0 (0 : Int64) := in_zero
  have F134 : Arv Z h129 a2 k2 .double (2 : Int32) ([(.double (FP.l2d x0)), (.double (FP.l2d x1))]) (.double (FP.l2d 0)) := ((V2.ext E127).other W129 (Ne.symm (ne_arv F131 (ow3 hw) (V2.ext E127))))
  obtain ⟨c133, A133, q133, S133, M133, G133, J133⟩ := id F134
  have l133 := len_of S133 M133
  refine Go.by (X129.arraylength hx (by rw [e129]; exact A133.1) (State.isArrayOf_alike hZ.alike A133.2.1) (g := (mkF m 20 #[.val (.ref a1), .val (.ref a2), .val (.double (FP.l2d 0)), .second, .val (.int (0 : Int32))] [(.ref a2), (.int (0 : Int32))])) rfl rfl (hb hby od_prog_22_m_1_20)) ?_
  rw [l133]
  show Go p e below _ T129 (mkF m 21 #[.val (.ref a1), .val (.ref a2), .val (.double (FP.l2d 0)), .second, .val (.int (0 : Int32))] [(.int (2 : Int32)), (.int (0 : Int32))])
  refine Go.by (fun t k => XS.icmpNo X129.here hx rfl (hb hby od_prog_22_m_1_21) rfl (tlt (show (0 : Int32) < (2 : Int32) from (by decide))).2.1 k) ?_
  show Go p e below _ T129 (mkF m 24 #[.val (.ref a1), .val (.ref a2), .val (.double (FP.l2d 0)), .second, .val (.int (0 : Int32))] [])
  refine Go.by (fun t k => XS.dloadN X129.here hx rfl (hb hby od_prog_22_m_1_24) rfl (XS.aloadN X129.here hx rfl (hb hby od_prog_22_m_1_25) rfl rfl (XS.iload X129.here hx rfl (hb hby od_prog_22_m_1_26) rfl k))) ?_
  show Go p e below _ T129 (mkF m 28 #[.val (.ref a1), .val (.ref a2), .val (.double (FP.l2d 0)), .second, .val (.int (0 : Int32))] [(.int (0 : Int32)), (.ref a2), (.double (FP.l2d 0))])
  obtain ⟨c135, A135, q135, S135, M135, G135, J135⟩ := id F134
  have i135 := inb_of S135 (j := (0 : Int32)) ⟨by decide, by decide⟩
  refine Go.by (X129.daload hx (j := (0 : Int32)) (v := (.double (FP.l2d x0))) (by rw [e129]; exact A135.1) (State.isArrayOf_alike hZ.alike A135.2.1) A135.2.2 i135 (G135.at i135 rfl) (g := (mkF m 28 #[.val (.ref a1), .val (.ref a2), .val (.double (FP.l2d 0)), .second, .val (.int (0 : Int32))] [(.int (0 : Int32)), (.ref a2), (.double (FP.l2d 0))])) rfl rfl (hb hby od_prog_22_m_1_28)) ?_
  show Go p e below _ T129 (mkF m 29 #[.val (.ref a1), .val (.ref a2), .val (.double (FP.l2d 0)), .second, .val (.int (0 : Int32))] [(.double (FP.l2d x0)), (.double (FP.l2d 0))])
  have q136 : FP.dadd (FP.l2d 0) (FP.l2d x0) = (FP.l2d ((0 : Int64) + x0)) := dadd_w (J0.b (by decide)) (I0.b (by decide))
  refine Go.by (fun t k => XS.daddS X129.here hx rfl (hb hby od_prog_22_m_1_29) rfl (nn_w q136) q136 k) ?_
  show Go p e below _ T129 (mkF m 30 #[.val (.ref a1), .val (.ref a2), .val (.double (FP.l2d 0)), .second, .val (.int (0 : Int32))] [(.double (FP.l2d ((0 : Int64) + x0)))])
  have J1 : In 2147483647 ((0 : Int64) + x0) := J0.add I0 (by decide) (by decide)
  refine Go.by (fun t k => XS.dstoreN X129.here hx rfl (hb hby od_prog_22_m_1_30) rfl (l' := #[.val (.ref a1), .val (.ref a2), .val (.double (FP.l2d ((0 : Int64) + x0))), .second, .val (.int (0 : Int32))]) rfl (XS.aloadN X129.here hx rfl (hb hby od_prog_22_m_1_31) rfl rfl k)) ?_
  show Go p e below _ T129 (mkF m 32 #[.val (.ref a1), .val (.ref a2), .val (.double (FP.l2d ((0 : Int64) + x0))), .second, .val (.int (0 : Int32))] [(.ref a1)])
  obtain ⟨T137, X137, e137, st137⟩ := getF X129 hx hZ hown (host := "") (Or.inl (ow11 hw)) Via.refl e129 (F130.same W129) (g := (mkF m 32 #[.val (.ref a1), .val (.ref a2), .val (.double (FP.l2d ((0 : Int64) + x0))), .second, .val (.int (0 : Int32))] [(.ref a1)])) rfl rfl (hb hby od_prog_22_m_1_32)
  refine Go.by st137 ?_
  show Go p e below _ T137 (mkF m 35 #[.val (.ref a1), .val (.ref a2), .val (.double (FP.l2d ((0 : Int64) + x0))), .second, .val (.int (0 : Int32))] [(.ref b127)])
  refine Go.by (fun t k => XS.iload X137.here hx rfl (hb hby od_prog_22_m_1_35) rfl (XS.dloadN X137.here hx rfl (hb hby od_prog_22_m_1_37) rfl k)) ?_
  show Go p e below _ T137 (mkF m 38 #[.val (.ref a1), .val (.ref a2), .val (.double (FP.l2d ((0 : Int64) + x0))), .second, .val (.int (0 : Int32))] [(.double (FP.l2d ((0 : Int64) + x0))), (.int (0 : Int32)), (.ref b127)])
  have F139 : Arv Z h129 b127 k127 .double (2 : Int32) ([(.double (FP.l2d 0)), (.double (FP.l2d 0))]) (.double (FP.l2d 0)) := (V127.other W129 (Ne.symm (Nat.ne_of_lt (Nat.lt_of_lt_of_le E1.lt (Nat.le_of_eq g127.symm)))))
  obtain ⟨c138, A138, q138, S138, M138, G138, J138⟩ := id F139
  obtain ⟨T138, h138, X138, e138, W138, st138⟩ := stD X137 hx hZ e137 A138 (j := (0 : Int32)) (inb_of S138 ⟨by decide, by decide⟩) (g := (mkF m 38 #[.val (.ref a1), .val (.ref a2), .val (.double (FP.l2d ((0 : Int64) + x0))), .second, .val (.int (0 : Int32))] [(.double (FP.l2d ((0 : Int64) + x0))), (.int (0 : Int32)), (.ref b127)])) rfl rfl (hb hby od_prog_22_m_1_38)
  refine Go.by st138 ?_
  have N138 := Fr.snoc X138 N129 (Nat.le_trans (Nat.le_trans Z0 (Nat.le_refl _)) (Nat.le_of_eq g127.symm))
  have K140 : Keep h0 h138 [a1] := K132.wr W138 (Or.inr (Nat.le_trans (Nat.le_refl _) (Nat.le_of_eq g127.symm)))
  show Go p e below _ T138 (mkF m 39 #[.val (.ref a1), .val (.ref a2), .val (.double (FP.l2d ((0 : Int64) + x0))), .second, .val (.int (0 : Int32))] [])
  have V138 : Arv Z h138 b127 k127 .double (2 : Int32) ([(.double (FP.l2d ((0 : Int64) + x0))), (.double (FP.l2d 0))]) (.double (FP.l2d 0)) := Arv.set A138 q138 S138 M138 G138 J138 rfl W138 0 rfl (Nat.le_of_ble_eq_true rfl)
  refine Go.by (fun t k => XS.iinc X138.here hx rfl (hb hby od_prog_22_m_1_39) rfl (l' := #[.val (.ref a1), .val (.ref a2), .val (.double (FP.l2d ((0 : Int64) + x0))), .second, .val (.int (1 : Int32))]) rfl (XS.goto X138.here hx rfl (pc0 := 42) (pc' := 17) rfl (hb hby od_prog_22_m_1_42) (by decide) (by decide) (XS.iload X138.here hx rfl (hb hby od_prog_22_m_1_17) rfl (XS.aloadN X138.here hx rfl (hb hby od_prog_22_m_1_19) rfl rfl k)))) ?_
  show Go p e below _ T138 (mkF m 20 #[.val (.ref a1), .val (.ref a2), .val (.double (FP.l2d ((0 : Int64) + x0))), .second, .val (.int (1 : Int32))] [(.ref a2), (.int (1 : Int32))])
  have F142 : Arv Z h138 a2 k2 .double (2 : Int32) ([(.double (FP.l2d x0)), (.double (FP.l2d x1))]) (.double (FP.l2d 0)) := (F134.other W138 (Nat.ne_of_lt (Nat.lt_of_lt_of_le V2.lt (Nat.le_of_eq g127.symm))))
  obtain ⟨c141, A141, q141, S141, M141, G141, J141⟩ := id F142
  have l141 := len_of S141 M141
  refine Go.by (X138.arraylength hx (by rw [e138]; exact A141.1) (State.isArrayOf_alike hZ.alike A141.2.1) (g := (mkF m 20 #[.val (.ref a1), .val (.ref a2), .val (.double (FP.l2d ((0 : Int64) + x0))), .second, .val (.int (1 : Int32))] [(.ref a2), (.int (1 : Int32))])) rfl rfl (hb hby od_prog_22_m_1_20)) ?_
  rw [l141]
  show Go p e below _ T138 (mkF m 21 #[.val (.ref a1), .val (.ref a2), .val (.double (FP.l2d ((0 : Int64) + x0))), .second, .val (.int (1 : Int32))] [(.int (2 : Int32)), (.int (1 : Int32))])
  refine Go.by (fun t k => XS.icmpNo X138.here hx rfl (hb hby od_prog_22_m_1_21) rfl (tlt (show (1 : Int32) < (2 : Int32) from (by decide))).2.1 k) ?_
  show Go p e below _ T138 (mkF m 24 #[.val (.ref a1), .val (.ref a2), .val (.double (FP.l2d ((0 : Int64) + x0))), .second, .val (.int (1 : Int32))] [])
  refine Go.by (fun t k => XS.dloadN X138.here hx rfl (hb hby od_prog_22_m_1_24) rfl (XS.aloadN X138.here hx rfl (hb hby od_prog_22_m_1_25) rfl rfl (XS.iload X138.here hx rfl (hb hby od_prog_22_m_1_26) rfl k))) ?_
  show Go p e below _ T138 (mkF m 28 #[.val (.ref a1), .val (.ref a2), .val (.double (FP.l2d ((0 : Int64) + x0))), .second, .val (.int (1 : Int32))] [(.int (1 : Int32)), (.ref a2), (.double (FP.l2d ((0 : Int64) + x0)))])
  obtain ⟨c143, A143, q143, S143, M143, G143, J143⟩ := id F142
  have i143 := inb_of S143 (j := (1 : Int32)) ⟨by decide, by decide⟩
  refine Go.by (X138.daload hx (j := (1 : Int32)) (v := (.double (FP.l2d x1))) (by rw [e138]; exact A143.1) (State.isArrayOf_alike hZ.alike A143.2.1) A143.2.2 i143 (G143.at i143 rfl) (g := (mkF m 28 #[.val (.ref a1), .val (.ref a2), .val (.double (FP.l2d ((0 : Int64) + x0))), .second, .val (.int (1 : Int32))] [(.int (1 : Int32)), (.ref a2), (.double (FP.l2d ((0 : Int64) + x0)))])) rfl rfl (hb hby od_prog_22_m_1_28)) ?_
  show Go p e below _ T138 (mkF m 29 #[.val (.ref a1), .val (.ref a2), .val (.double (FP.l2d ((0 : Int64) + x0))), .second, .val (.int (1 : Int32))] [(.double (FP.l2d x1)), (.double (FP.l2d ((0 : Int64) + x0)))])
  have q144 : FP.dadd (FP.l2d ((0 : Int64) + x0)) (FP.l2d x1) = (FP.l2d (((0 : Int64) + x0) + x1)) := dadd_w (J1.b (by decide)) (I1.b (by decide))
  refine Go.by (fun t k => XS.daddS X138.here hx rfl (hb hby od_prog_22_m_1_29) rfl (nn_w q144) q144 k) ?_
  show Go p e below _ T138 (mkF m 30 #[.val (.ref a1), .val (.ref a2), .val (.double (FP.l2d ((0 : Int64) + x0))), .second, .val (.int (1 : Int32))] [(.double (FP.l2d (((0 : Int64) + x0) + x1)))])
  have J2 : In 4294967294 (((0 : Int64) + x0) + x1) := J1.add I1 (by decide) (by decide)
  refine Go.by (fun t k => XS.dstoreN X138.here hx rfl (hb hby od_prog_22_m_1_30) rfl (l' := #[.val (.ref a1), .val (.ref a2), .val (.double (FP.l2d (((0 : Int64) + x0) + x1))), .second, .val (.int (1 : Int32))]) rfl (XS.aloadN X138.here hx rfl (hb hby od_prog_22_m_1_31) rfl rfl k)) ?_
  show Go p e below _ T138 (mkF m 32 #[.val (.ref a1), .val (.ref a2), .val (.double (FP.l2d (((0 : Int64) + x0) + x1))), .second, .val (.int (1 : Int32))] [(.ref a1)])
  have F146 : Fld Z h138 a1 "com/example/shardpick/shardpick/generate/WeightedDraw" "ends" "[D" (.ref b127) := ((F130.same W129).other W138 (Or.inl (Nat.ne_of_lt (Nat.lt_of_lt_of_le E1.lt (Nat.le_of_eq g127.symm)))))
  obtain ⟨T145, X145, e145, st145⟩ := getF X138 hx hZ hown (host := "") (Or.inl (ow11 hw)) Via.refl e138 F146 (g := (mkF m 32 #[.val (.ref a1), .val (.ref a2), .val (.double (FP.l2d (((0 : Int64) + x0) + x1))), .second, .val (.int (1 : Int32))] [(.ref a1)])) rfl rfl (hb hby od_prog_22_m_1_32)
  refine Go.by st145 ?_
  show Go p e below _ T145 (mkF m 35 #[.val (.ref a1), .val (.ref a2), .val (.double (FP.l2d (((0 : Int64) + x0) + x1))), .second, .val (.int (1 : Int32))] [(.ref b127)])
  refine Go.by (fun t k => XS.iload X145.here hx rfl (hb hby od_prog_22_m_1_35) rfl (XS.dloadN X145.here hx rfl (hb hby od_prog_22_m_1_37) rfl k)) ?_
  show Go p e below _ T145 (mkF m 38 #[.val (.ref a1), .val (.ref a2), .val (.double (FP.l2d (((0 : Int64) + x0) + x1))), .second, .val (.int (1 : Int32))] [(.double (FP.l2d (((0 : Int64) + x0) + x1))), (.int (1 : Int32)), (.ref b127)])
  obtain ⟨c147, A147, q147, S147, M147, G147, J147⟩ := id V138
  obtain ⟨T147, h147, X147, e147, W147, st147⟩ := stD X145 hx hZ e145 A147 (j := (1 : Int32)) (inb_of S147 ⟨by decide, by decide⟩) (g := (mkF m 38 #[.val (.ref a1), .val (.ref a2), .val (.double (FP.l2d (((0 : Int64) + x0) + x1))), .second, .val (.int (1 : Int32))] [(.double (FP.l2d (((0 : Int64) + x0) + x1))), (.int (1 : Int32)), (.ref b127)])) rfl rfl (hb hby od_prog_22_m_1_38)
  refine Go.by st147 ?_
  have N147 := Fr.snoc X147 N138 (Nat.le_trans (Nat.le_trans Z0 (Nat.le_refl _)) (Nat.le_of_eq g127.symm))
  have K148 : Keep h0 h147 [a1] := K140.wr W147 (Or.inr (Nat.le_trans (Nat.le_refl _) (Nat.le_of_eq g127.symm)))
  show Go p e below _ T147 (mkF m 39 #[.val (.ref a1), .val (.ref a2), .val (.double (FP.l2d (((0 : Int64) + x0) + x1))), .second, .val (.int (1 : Int32))] [])
  have V147 : Arv Z h147 b127 k127 .double (2 : Int32) ([(.double (FP.l2d ((0 : Int64) + x0))), (.double (FP.l2d (((0 : Int64) + x0) + x1)))]) (.double (FP.l2d 0)) := Arv.set A147 q147 S147 M147 G147 J147 rfl W147 1 rfl (Nat.le_of_ble_eq_true rfl)
  refine Go.by (fun t k => XS.iinc X147.here hx rfl (hb hby od_prog_22_m_1_39) rfl (l' := #[.val (.ref a1), .val (.ref a2), .val (.double (FP.l2d (((0 : Int64) + x0) + x1))), .second, .val (.int (2 : Int32))]) rfl (XS.goto X147.here hx rfl (pc0 := 42) (pc' := 17) rfl (hb hby od_prog_22_m_1_42) (by decide) (by decide) (XS.iload X147.here hx rfl (hb hby od_prog_22_m_1_17) rfl (XS.aloadN X147.here hx rfl (hb hby od_prog_22_m_1_19) rfl rfl k)))) ?_
  show Go p e below _ T147 (mkF m 20 #[.val (.ref a1), .val (.ref a2), .val (.double (FP.l2d (((0 : Int64) + x0) + x1))), .second, .val (.int (2 : Int32))] [(.ref a2), (.int (2 : Int32))])
  have F150 : Arv Z h147 a2 k2 .double (2 : Int32) ([(.double (FP.l2d x0)), (.double (FP.l2d x1))]) (.double (FP.l2d 0)) := (F142.other W147 (Nat.ne_of_lt (Nat.lt_of_lt_of_le V2.lt (Nat.le_of_eq g127.symm))))
  obtain ⟨c149, A149, q149, S149, M149, G149, J149⟩ := id F150
  have l149 := len_of S149 M149
  refine Go.by (X147.arraylength hx (by rw [e147]; exact A149.1) (State.isArrayOf_alike hZ.alike A149.2.1) (g := (mkF m 20 #[.val (.ref a1), .val (.ref a2), .val (.double (FP.l2d (((0 : Int64) + x0) + x1))), .second, .val (.int (2 : Int32))] [(.ref a2), (.int (2 : Int32))])) rfl rfl (hb hby od_prog_22_m_1_20)) ?_
  rw [l149]
  show Go p e below _ T147 (mkF m 21 #[.val (.ref a1), .val (.ref a2), .val (.double (FP.l2d (((0 : Int64) + x0) + x1))), .second, .val (.int (2 : Int32))] [(.int (2 : Int32)), (.int (2 : Int32))])
  refine Go.by (fun t k => XS.icmpYes X147.here hx rfl (pc0 := 21) (pc' := 45) rfl (hb hby od_prog_22_m_1_21) rfl (flt (show ¬ ((2 : Int32) < (2 : Int32)) from (by decide))).2.1 (by decide) (by decide) k) ?_
  show Go p e below _ T147 (mkF m 45 #[.val (.ref a1), .val (.ref a2), .val (.double (FP.l2d (((0 : Int64) + x0) + x1))), .second, .val (.int (2 : Int32))] [])
  have F151 : Exa Z h147 a1 "com/example/shardpick/shardpick/generate/WeightedDraw" := (((F131.wr W129).wr W138).wr W147)
  have F152 : Fld Z h147 a1 "com/example/shardpick/shardpick/generate/WeightedDraw" "ends" "[D" (.ref b127) := (F146.other W147 (Or.inl (Nat.ne_of_lt (Nat.lt_of_lt_of_le E1.lt (Nat.le_of_eq g127.symm)))))
  exact Go.ret0 X147 hx hret hlk (hb hby od_prog_22_m_1_45) (by first | (rw [e147]; exact ⟨b127, k127, rfl, N147, K148, F151, F152, V147⟩) | exact ⟨b127, k127, rfl, N147, K148, F151, F152, V147⟩) (by decide) (by decide)
def Q_tot2 (Z : State) (a1 : Addr) (bt : Addr) (kt : ClassId) (x0 : Int64) (x1 : Int64) (h0 : Heap) (n0 : Nat) (v : Option Value) (h : Heap) (L : List Loc) : Prop := v = some (.double (FP.l2d x1)) ∧ Fr n0 L ∧ h = h0
set_option maxRecDepth 65536 in
set_option maxHeartbeats 40000000 in
theorem rm_tot2 (l : Launch) (Z : State) (a0 : Array Value) (hw : HW a0 Z) (ws : List Jvm.Cond) (a1 : Addr) (bt : Addr) (kt : ClassId) (x0 : Int64) (x1 : Int64) (h0 : Heap) (n0 : Nat) (Z0 : n0 ≤ h0.size) (F1 : Fld Z h0 a1 "com/example/shardpick/shardpick/generate/WeightedDraw" "ends" "[D" (.ref bt)) (V2 : Arv Z h0 bt kt .double (2 : Int32) ([(.double (FP.l2d x0)), (.double (FP.l2d x1))]) (.double (FP.l2d 0))) :
    MetFree l (⟨"com/example/shardpick/shardpick/generate/WeightedDraw", "total", "()D"⟩ : MethodName) (head1 (Jvm.Cond.code (⟨"com/example/shardpick/shardpick/generate/WeightedDraw", "total", "()D"⟩ : MethodName) prog_22_method_2_code 1 (Option.some Jvm.ClassFile.FieldType.double) :: ws) ({ frames := 0, cells := 0, slots := 0, locals := 0 } : Room)) (fun a U => a = #[(.ref a1)] ∧ Z.Warmed39 U.vm ∧ U.heap = h0) (fun _ _ _ _ _ => True) (fun _ U o U' => Out U (Q_tot2 Z a1 bt kt x0 x1 h0 n0) ({ frames := 0, cells := 0, slots := 0, locals := 0 } : Room).cells ({ frames := 0, cells := 0, slots := 0, locals := 0 } : Room).slots o U') := by
  refine MetFree.of_bodySF (plainFor_of_name opn_0) hisR ?_
  intro p e s m args below meth c s₁ Bd hml0 hP hK
  obtain ⟨rfl, hZ, hh⟩ := hP
  have hx := Bd.exec
  have hby := Bd.bytes
  have hml : c.maxLocals = 1 := hml0
  have hret := Bd.returns
  have hlk : meth.locks = false := BodyLoose.notSynchronized Bd
  have hown : s.vm.findClass "com/example/shardpick/shardpick/generate/WeightedDraw" = some m.cls := findClass_of_methodNamed Bd.named
  have hnm := (name_of_methodNamed Bd.named Bd.method).1
  have X0 : Stand p l e ({ frames := 0, cells := 0, slots := 0, locals := 0 } : Room) s m #[(.ref a1)] below meth c s₁ [] 0 0 := Stand.of_body Bd
  have e0 : s₁.heap = h0 := by rw [← hh, Bd.state]; rfl
  have N0 := Fr.nil n0
  show Go p e below (Out s (Q_tot2 Z a1 bt kt x0 x1 h0 n0) ({ frames := 0, cells := 0, slots := 0, locals := 0 } : Room).cells ({ frames := 0, cells := 0, slots := 0, locals := 0 } : Room).slots) s₁ (entryFrame m #[(.ref a1)] 1)
  refine Go.cast (oef_tot2 m a1) ?_
  show Go p e below _ s₁ (mkF m 0 #[.val (.ref a1)] [])
  refine Go.by (fun t k => XS.aloadN X0.here hx rfl (hb hby od_prog_22_m_2_0) rfl rfl k) ?_
  show Go p e below _ s₁ (mkF m 1 #[.val (.ref a1)] [(.ref a1)])
  obtain ⟨T153, X153, e153, st153⟩ := getF X0 hx hZ hown (host := "") (Or.inl (ow11 hw)) Via.refl e0 F1 (g := (mkF m 1 #[.val (.ref a1)] [(.ref a1)])) rfl rfl (hb hby od_prog_22_m_2_1)
  refine Go.by st153 ?_
  show Go p e below _ T153 (mkF m 4 #[.val (.ref a1)] [(.ref bt)])
  refine Go.by (fun t k => XS.aloadN X153.here hx rfl (hb hby od_prog_22_m_2_4) rfl rfl k) ?_
  show Go p e below _ T153 (mkF m 5 #[.val (.ref a1)] [(.ref a1), (.ref bt)])
  obtain ⟨T154, X154, e154, st154⟩ := getF X153 hx hZ hown (host := "") (Or.inl (ow11 hw)) Via.refl e153 F1 (g := (mkF m 5 #[.val (.ref a1)] [(.ref a1), (.ref bt)])) rfl rfl (hb hby od_prog_22_m_2_5)
  refine Go.by st154 ?_
  show Go p e below _ T154 (mkF m 8 #[.val (.ref a1)] [(.ref bt), (.ref bt)])
  obtain ⟨c155, A155, q155, S155, M155, G155, J155⟩ := id V2
  have l155 := len_of S155 M155
  refine Go.by (X154.arraylength hx (by rw [e154]; exact A155.1) (State.isArrayOf_alike hZ.alike A155.2.1) (g := (mkF m 8 #[.val (.ref a1)] [(.ref bt), (.ref bt)])) rfl rfl (hb hby od_prog_22_m_2_8)) ?_
  rw [l155]
  show Go p e below _ T154 (mkF m 9 #[.val (.ref a1)] [(.int (2 : Int32)), (.ref bt)])
  refine Go.by (fun t k => XS.iconst X154.here hx rfl (hb hby od_prog_22_m_2_9) (XS.isub X154.here hx rfl (hb hby od_prog_22_m_2_10) rfl k)) ?_
  show Go p e below _ T154 (mkF m 11 #[.val (.ref a1)] [(.int (1 : Int32)), (.ref bt)])
  obtain ⟨c156, A156, q156, S156, M156, G156, J156⟩ := id V2
  have i156 := inb_of S156 (j := (1 : Int32)) ⟨by decide, by decide⟩
  refine Go.by (X154.daload hx (j := (1 : Int32)) (v := (.double (FP.l2d x1))) (by rw [e154]; exact A156.1) (State.isArrayOf_alike hZ.alike A156.2.1) A156.2.2 i156 (G156.at i156 rfl) (g := (mkF m 11 #[.val (.ref a1)] [(.int (1 : Int32)), (.ref bt)])) rfl rfl (hb hby od_prog_22_m_2_11)) ?_
  show Go p e below _ T154 (mkF m 12 #[.val (.ref a1)] [(.double (FP.l2d x1))])
  exact Go.retD X154 hx hret hlk (hb hby od_prog_22_m_2_12) (by first | (rw [e154]; exact ⟨rfl, N0, rfl⟩) | exact ⟨rfl, N0, rfl⟩) (by decide) (by decide)
def Q_wd3 (Z : State) (a1 : Addr) (a2 : Addr) (k2 : ClassId) (x0 : Int64) (x1 : Int64) (x2 : Int64) (h0 : Heap) (n0 : Nat) (v : Option Value) (h : Heap) (L : List Loc) : Prop := ∃ bt : Addr, ∃ kt : ClassId, v = none ∧ Fr n0 L ∧ Keep h0 h [a1] ∧ (Exa Z h a1 "com/example/shardpick/shardpick/generate/WeightedDraw") ∧ (Fld Z h a1 "com/example/shardpick/shardpick/generate/WeightedDraw" "ends" "[D" (.ref bt)) ∧ (Arv Z h bt kt .double (3 : Int32) ([(.double (FP.l2d ((0 : Int64) + x0))), (.double (FP.l2d (((0 : Int64) + x0) + x1))), (.double (FP.l2d ((((0 : Int64) + x0) + x1) + x2)))]) (.double (FP.l2d 0)))
set_option maxRecDepth 65536 in
set_option maxHeartbeats 40000000 in
theorem rm_wd3 (l : Launch) (Z : State) (a0 : Array Value) (hw : HW a0 Z) (ws : List Jvm.Cond) (a1 : Addr) (a2 : Addr) (k2 : ClassId) (x0 : Int64) (x1 : Int64) (x2 : Int64) (h0 : Heap) (n0 : Nat) (Z0 : n0 ≤ h0.size) (E1 : Exa Z h0 a1 "com/example/shardpick/shardpick/generate/WeightedDraw") (g_a1 : n0 ≤ a1) (F1 : Fld Z h0 a1 "com/example/shardpick/shardpick/generate/WeightedDraw" "ends" "[D" .null) (V2 : Arv Z h0 a2 k2 .double (3 : Int32) ([(.double (FP.l2d x0)), (.double (FP.l2d x1)), (.double (FP.l2d x2))]) (.double (FP.l2d 0))) (I0 : In 2147483647 x0) (I1 : In 2147483647 x1) (I2 : In 2147483647 x2) :
    MetFree l (⟨"com/example/shardpick/shardpick/generate/WeightedDraw", "<init>", "([D)V"⟩ : MethodName) (head1 (Jvm.Cond.code (⟨"com/example/shardpick/shardpick/generate/WeightedDraw", "<init>", "([D)V"⟩ : MethodName) prog_22_method_1_code 5 (Option.none : Option Jvm.ClassFile.FieldType) :: ws) ({ frames := 1, cells := 1, slots := 3, locals := 12 } : Room)) (fun a U => a = #[(.ref a1), (.ref a2)] ∧ Z.Warmed39 U.vm ∧ U.heap = h0) (fun _ _ _ _ _ => True) (fun _ U o U' => Out U (Q_wd3 Z a1 a2 k2 x0 x1 x2 h0 n0) ({ frames := 1, cells := 1, slots := 3, locals := 12 } : Room).cells ({ frames := 1, cells := 1, slots := 3, locals := 12 } : Room).slots o U') := by
  refine MetFree.of_bodySF (plainFor_of_name opn_0) hisR ?_
  intro p e s m args below meth c s₁ Bd hml0 hP hK
  obtain ⟨rfl, hZ, hh⟩ := hP
  have hx := Bd.exec
  have hby := Bd.bytes
  have hml : c.maxLocals = 5 := hml0
  have hret := Bd.returns
  have hlk : meth.locks = false := BodyLoose.notSynchronized Bd
  have hown : s.vm.findClass "com/example/shardpick/shardpick/generate/WeightedDraw" = some m.cls := findClass_of_methodNamed Bd.named
  have hnm := (name_of_methodNamed Bd.named Bd.method).1
  have X0 : Stand p l e ({ frames := 1, cells := 1, slots := 3, locals := 12 } : Room) s m #[(.ref a1), (.ref a2)] below meth c s₁ [] 0 0 := Stand.of_body Bd
  have e0 : s₁.heap = h0 := by rw [← hh, Bd.state]; rfl
  have N0 := Fr.nil n0
  have K0 : Keep h0 h0 [a1] := Keep.refl h0 _
  show Go p e below (Out s (Q_wd3 Z a1 a2 k2 x0 x1 x2 h0 n0) ({ frames := 1, cells := 1, slots := 3, locals := 12 } : Room).cells ({ frames := 1, cells := 1, slots := 3, locals := 12 } : Room).slots) s₁ (entryFrame m #[(.ref a1), (.ref a2)] 5)
  refine Go.cast (oef_wd3 m a1 a2) ?_
  show Go p e below _ s₁ (mkF m 0 #[.val (.ref a1), .val (.ref a2), .unset, .unset, .unset] [])
  refine Go.by (fun t k => XS.aloadN X0.here hx rfl (hb hby od_prog_22_m_1_0) rfl rfl k) ?_
  show Go p e below _ s₁ (mkF m 1 #[.val (.ref a1), .val (.ref a2), .unset, .unset, .unset] [(.ref a1)])
  obtain ⟨T157, X157, e157, st157⟩ := initO X0 hx hZ hown (ow8 hw) (ow9 hw) (ow10 hw) e0 (g := (mkF m 1 #[.val (.ref a1), .val (.ref a2), .unset, .unset, .unset] [(.ref a1)])) rfl (by rw [hml]; rfl) rfl (hb hby od_prog_22_m_1_1) (by decide) (W := 0) (by show 2 * 0 + _ ≤ _; exact Nat.le_of_eq rfl) (by decide)
  refine Go.by st157 ?_
  show Go p e below _ T157 (mkF m 4 #[.val (.ref a1), .val (.ref a2), .unset, .unset, .unset] [])
  refine Go.by (fun t k => XS.aloadN X157.here hx rfl (hb hby od_prog_22_m_1_4) rfl rfl (XS.aloadN X157.here hx rfl (hb hby od_prog_22_m_1_5) rfl rfl k)) ?_
  show Go p e below _ T157 (mkF m 6 #[.val (.ref a1), .val (.ref a2), .unset, .unset, .unset] [(.ref a2), (.ref a1)])
  obtain ⟨c158, A158, q158, S158, M158, G158, J158⟩ := id V2
  have l158 := len_of S158 M158
  refine Go.by (X157.arraylength hx (by rw [e157]; exact A158.1) (State.isArrayOf_alike hZ.alike A158.2.1) (g := (mkF m 6 #[.val (.ref a1), .val (.ref a2), .unset, .unset, .unset] [(.ref a2), (.ref a1)])) rfl rfl (hb hby od_prog_22_m_1_6)) ?_
  rw [l158]
  show Go p e below _ T157 (mkF m 7 #[.val (.ref a1), .val (.ref a2), .unset, .unset, .unset] [(.int (3 : Int32)), (.ref a1)])
  obtain ⟨T159, h159, k159, X159, e159, E159, A159, st159⟩ := newP X157 hx hZ (aty := .double) (ow1 hw) e157 (g := (mkF m 7 #[.val (.ref a1), .val (.ref a2), .unset, .unset, .unset] [(.int (3 : Int32)), (.ref a1)])) rfl (hb hby od_prog_22_m_1_7) rfl (by decide) (cap := 3) (by decide) (by decide) (by decide) (by decide)
  obtain ⟨b159, g159⟩ : ∃ z, z = h0.size := ⟨_, rfl⟩
  rw [← g159] at A159 st159
  refine Go.by st159 ?_
  have K160 : Keep h0 h159 [a1] := K0.ext E159
  show Go p e below _ T159 (mkF m 9 #[.val (.ref a1), .val (.ref a2), .unset, .unset, .unset] [(.ref b159), (.ref a1)])
  have V159 : Arv Z h159 b159 k159 .double (3 : Int32) [(.double (FP.l2d 0)), (.double (FP.l2d 0)), (.double (FP.l2d 0))] (.double (FP.l2d 0)) := (Arv.newD A159 (by decide)).pad (pad_rep [] (.double (FP.l2d 0)) 3)
  have F162 : Fld Z h159 a1 "com/example/shardpick/shardpick/generate/WeightedDraw" "ends" "[D" .null := (F1.ext E159)
  have F163 : Exa Z h159 a1 "com/example/shardpick/shardpick/generate/WeightedDraw" := (E1.ext E159)
  obtain ⟨T161, h161, X161, e161, W161, st161⟩ := putF X159 hx hZ hown (host := "") (Or.inl (ow11 hw)) Via.refl e159 F162 F163 (Or.inr ⟨(ow12 hw), rfl, hnm⟩) (ow3 hw) (ty := (.array .double)) (by decide) rfl rfl (g := (mkF m 9 #[.val (.ref a1), .val (.ref a2), .unset, .unset, .unset] [(.ref b159), (.ref a1)])) rfl rfl (hb hby od_prog_22_m_1_9)
  refine Go.by st161 ?_
  have N161 := Fr.snoc X161 N0 g_a1
  have K164 : Keep h0 h161 [a1] := K160.wr W161 (Or.inl (List.mem_of_getElem? (i := 0) rfl))
  show Go p e below _ T161 (mkF m 12 #[.val (.ref a1), .val (.ref a2), .unset, .unset, .unset] [])
  refine Go.by (fun t k => XS.dconst0 X161.here hx rfl (hb hby od_prog_22_m_1_12) (v := (FP.l2d 0)) (by decide +kernel) (XS.dstoreN X161.here hx rfl (hb hby od_prog_22_m_1_13) rfl (l' := #[.val (.ref a1), .val (.ref a2), .val (.double (FP.l2d 0)), .second, .unset]) rfl (XS.iconst X161.here hx rfl (hb hby od_prog_22_m_1_14) (XS.istore X161.here hx rfl (hb hby od_prog_22_m_1_15) rfl (l' := #[.val (.ref a1), .val (.ref a2), .val (.double (FP.l2d 0)), .second, .val (.int (0 : Int32))]) rfl k)))) ?_
  show Go p e below _ T161 (mkF m 17 #[.val (.ref a1), .val (.ref a2), .val (.double (FP.l2d 0)), .second, .val (.int (0 : Int32))] [])
  refine Go.by (fun t k => XS.iload X161.here hx rfl (hb hby od_prog_22_m_1_17) rfl (XS.aloadN X161.here hx rfl (hb hby od_prog_22_m_1_19) rfl rfl k)) ?_
  show Go p e below _ T161 (mkF m 20 #[.val (.ref a1), .val (.ref a2), .val (.double (FP.l2d 0)), .second, .val (.int (0 : Int32))] [(.ref a2), (.int (0 : Int32))])
  have J0 : In 0 (0 : Int64) := in_zero
  have F166 : Arv Z h161 a2 k2 .double (3 : Int32) ([(.double (FP.l2d x0)), (.double (FP.l2d x1)), (.double (FP.l2d x2))]) (.double (FP.l2d 0)) := ((V2.ext E159).other W161 (Ne.symm (ne_arv F163 (ow3 hw) (V2.ext E159))))
  obtain ⟨c165, A165, q165, S165, M165, G165, J165⟩ := id F166
  have l165 := len_of S165 M165
  refine Go.by (X161.arraylength hx (by rw [e161]; exact A165.1) (State.isArrayOf_alike hZ.alike A165.2.1) (g := (mkF m 20 #[.val (.ref a1), .val (.ref a2), .val (.double (FP.l2d 0)), .second, .val (.int (0 : Int32))] [(.ref a2), (.int (0 : Int32))])) rfl rfl (hb hby od_prog_22_m_1_20)) ?_
  rw [l165]
  show Go p e below _ T161 (mkF m 21 #[.val (.ref a1), .val (.ref a2), .val (.double (FP.l2d 0)), .second, .val (.int (0 : Int32))] [(.int (3 : Int32)), (.int (0 : Int32))])
  refine Go.by (fun t k => XS.icmpNo X161.here hx rfl (hb hby od_prog_22_m_1_21) rfl (tlt (show (0 : Int32) < (3 : Int32) from (by decide))).2.1 k) ?_
  show Go p e below _ T161 (mkF m 24 #[.val (.ref a1), .val (.ref a2), .val (.double (FP.l2d 0)), .second, .val (.int (0 : Int32))] [])
  refine Go.by (fun t k => XS.dloadN X161.here hx rfl (hb hby od_prog_22_m_1_24) rfl (XS.aloadN X161.here hx rfl (hb hby od_prog_22_m_1_25) rfl rfl (XS.iload X161.here hx rfl (hb hby od_prog_22_m_1_26) rfl k))) ?_
  show Go p e below _ T161 (mkF m 28 #[.val (.ref a1), .val (.ref a2), .val (.double (FP.l2d 0)), .second, .val (.int (0 : Int32))] [(.int (0 : Int32)), (.ref a2), (.double (FP.l2d 0))])
  obtain ⟨c167, A167, q167, S167, M167, G167, J167⟩ := id F166
  have i167 := inb_of S167 (j := (0 : Int32)) ⟨by decide, by decide⟩
  refine Go.by (X161.daload hx (j := (0 : Int32)) (v := (.double (FP.l2d x0))) (by rw [e161]; exact A167.1) (State.isArrayOf_alike hZ.alike A167.2.1) A167.2.2 i167 (G167.at i167 rfl) (g := (mkF m 28 #[.val (.ref a1), .val (.ref a2), .val (.double (FP.l2d 0)), .second, .val (.int (0 : Int32))] [(.int (0 : Int32)), (.ref a2), (.double (FP.l2d 0))])) rfl rfl (hb hby od_prog_22_m_1_28)) ?_
  show Go p e below _ T161 (mkF m 29 #[.val (.ref a1), .val (.ref a2), .val (.double (FP.l2d 0)), .second, .val (.int (0 : Int32))] [(.double (FP.l2d x0)), (.double (FP.l2d 0))])
  have q168 : FP.dadd (FP.l2d 0) (FP.l2d x0) = (FP.l2d ((0 : Int64) + x0)) := dadd_w (J0.b (by decide)) (I0.b (by decide))
  refine Go.by (fun t k => XS.daddS X161.here hx rfl (hb hby od_prog_22_m_1_29) rfl (nn_w q168) q168 k) ?_
  show Go p e below _ T161 (mkF m 30 #[.val (.ref a1), .val (.ref a2), .val (.double (FP.l2d 0)), .second, .val (.int (0 : Int32))] [(.double (FP.l2d ((0 : Int64) + x0)))])
  have J1 : In 2147483647 ((0 : Int64) + x0) := J0.add I0 (by decide) (by decide)
  refine Go.by (fun t k => XS.dstoreN X161.here hx rfl (hb hby od_prog_22_m_1_30) rfl (l' := #[.val (.ref a1), .val (.ref a2), .val (.double (FP.l2d ((0 : Int64) + x0))), .second, .val (.int (0 : Int32))]) rfl (XS.aloadN X161.here hx rfl (hb hby od_prog_22_m_1_31) rfl rfl k)) ?_
  show Go p e below _ T161 (mkF m 32 #[.val (.ref a1), .val (.ref a2), .val (.double (FP.l2d ((0 : Int64) + x0))), .second, .val (.int (0 : Int32))] [(.ref a1)])
  obtain ⟨T169, X169, e169, st169⟩ := getF X161 hx hZ hown (host := "") (Or.inl (ow11 hw)) Via.refl e161 (F162.same W161) (g := (mkF m 32 #[.val (.ref a1), .val (.ref a2), .val (.double (FP.l2d ((0 : Int64) + x0))), .second, .val (.int (0 : Int32))] [(.ref a1)])) rfl rfl (hb hby od_prog_22_m_1_32)
  refine Go.by st169 ?_
  show Go p e below _ T169 (mkF m 35 #[.val (.ref a1), .val (.ref a2), .val (.double (FP.l2d ((0 : Int64) + x0))), .second, .val (.int (0 : Int32))] [(.ref b159)])
  refine Go.by (fun t k => XS.iload X169.here hx rfl (hb hby od_prog_22_m_1_35) rfl (XS.dloadN X169.here hx rfl (hb hby od_prog_22_m_1_37) rfl k)) ?_
  show Go p e below _ T169 (mkF m 38 #[.val (.ref a1), .val (.ref a2), .val (.double (FP.l2d ((0 : Int64) + x0))), .second, .val (.int (0 : Int32))] [(.double (FP.l2d ((0 : Int64) + x0))), (.int (0 : Int32)), (.ref b159)])
  have F171 : Arv Z h161 b159 k159 .double (3 : Int32) ([(.double (FP.l2d 0)), (.double (FP.l2d 0)), (.double (FP.l2d 0))]) (.double (FP.l2d 0)) := (V159.other W161 (Ne.symm (Nat.ne_of_lt (Nat.lt_of_lt_of_le E1.lt (Nat.le_of_eq g159.symm)))))
  obtain ⟨c170, A170, q170, S170, M170, G170, J170⟩ := id F171
  obtain ⟨T170, h170, X170, e170, W170, st170⟩ := stD X169 hx hZ e169 A170 (j := (0 : Int32)) (inb_of S170 ⟨by decide, by decide⟩) (g := (mkF m 38 #[.val (.ref a1), .val (.ref a2), .val (.double (FP.l2d ((0 : Int64) + x0))), .second, .val (.int (0 : Int32))] [(.double (FP.l2d ((0 : Int64) + x0))), (.int (0 : Int32)), (.ref b159)])) rfl rfl (hb hby od_prog_22_m_1_38)
  refine Go.by st170 ?_
  have N170 := Fr.snoc X170 N161 (Nat.le_trans (Nat.le_trans Z0 (Nat.le_refl _)) (Nat.le_of_eq g159.symm))
  have K172 : Keep h0 h170 [a1] := K164.wr W170 (Or.inr (Nat.le_trans (Nat.le_refl _) (Nat.le_of_eq g159.symm)))
  show Go p e below _ T170 (mkF m 39 #[.val (.ref a1), .val (.ref a2), .val (.double (FP.l2d ((0 : Int64) + x0))), .second, .val (.int (0 : Int32))] [])
  have V170 : Arv Z h170 b159 k159 .double (3 : Int32) ([(.double (FP.l2d ((0 : Int64) + x0))), (.double (FP.l2d 0)), (.double (FP.l2d 0))]) (.double (FP.l2d 0)) := Arv.set A170 q170 S170 M170 G170 J170 rfl W170 0 rfl (Nat.le_of_ble_eq_true rfl)
  refine Go.by (fun t k => XS.iinc X170.here hx rfl (hb hby od_prog_22_m_1_39) rfl (l' := #[.val (.ref a1), .val (.ref a2), .val (.double (FP.l2d ((0 : Int64) + x0))), .second, .val (.int (1 : Int32))]) rfl (XS.goto X170.here hx rfl (pc0 := 42) (pc' := 17) rfl (hb hby od_prog_22_m_1_42) (by decide) (by decide) (XS.iload X170.here hx rfl (hb hby od_prog_22_m_1_17) rfl (XS.aloadN X170.here hx rfl (hb hby od_prog_22_m_1_19) rfl rfl k)))) ?_
  show Go p e below _ T170 (mkF m 20 #[.val (.ref a1), .val (.ref a2), .val (.double (FP.l2d ((0 : Int64) + x0))), .second, .val (.int (1 : Int32))] [(.ref a2), (.int (1 : Int32))])
  have F174 : Arv Z h170 a2 k2 .double (3 : Int32) ([(.double (FP.l2d x0)), (.double (FP.l2d x1)), (.double (FP.l2d x2))]) (.double (FP.l2d 0)) := (F166.other W170 (Nat.ne_of_lt (Nat.lt_of_lt_of_le V2.lt (Nat.le_of_eq g159.symm))))
  obtain ⟨c173, A173, q173, S173, M173, G173, J173⟩ := id F174
  have l173 := len_of S173 M173
  refine Go.by (X170.arraylength hx (by rw [e170]; exact A173.1) (State.isArrayOf_alike hZ.alike A173.2.1) (g := (mkF m 20 #[.val (.ref a1), .val (.ref a2), .val (.double (FP.l2d ((0 : Int64) + x0))), .second, .val (.int (1 : Int32))] [(.ref a2), (.int (1 : Int32))])) rfl rfl (hb hby od_prog_22_m_1_20)) ?_
  rw [l173]
  show Go p e below _ T170 (mkF m 21 #[.val (.ref a1), .val (.ref a2), .val (.double (FP.l2d ((0 : Int64) + x0))), .second, .val (.int (1 : Int32))] [(.int (3 : Int32)), (.int (1 : Int32))])
  refine Go.by (fun t k => XS.icmpNo X170.here hx rfl (hb hby od_prog_22_m_1_21) rfl (tlt (show (1 : Int32) < (3 : Int32) from (by decide))).2.1 k) ?_
  show Go p e below _ T170 (mkF m 24 #[.val (.ref a1), .val (.ref a2), .val (.double (FP.l2d ((0 : Int64) + x0))), .second, .val (.int (1 : Int32))] [])
  refine Go.by (fun t k => XS.dloadN X170.here hx rfl (hb hby od_prog_22_m_1_24) rfl (XS.aloadN X170.here hx rfl (hb hby od_prog_22_m_1_25) rfl rfl (XS.iload X170.here hx rfl (hb hby od_prog_22_m_1_26) rfl k))) ?_
  show Go p e below _ T170 (mkF m 28 #[.val (.ref a1), .val (.ref a2), .val (.double (FP.l2d ((0 : Int64) + x0))), .second, .val (.int (1 : Int32))] [(.int (1 : Int32)), (.ref a2), (.double (FP.l2d ((0 : Int64) + x0)))])
  obtain ⟨c175, A175, q175, S175, M175, G175, J175⟩ := id F174
  have i175 := inb_of S175 (j := (1 : Int32)) ⟨by decide, by decide⟩
  refine Go.by (X170.daload hx (j := (1 : Int32)) (v := (.double (FP.l2d x1))) (by rw [e170]; exact A175.1) (State.isArrayOf_alike hZ.alike A175.2.1) A175.2.2 i175 (G175.at i175 rfl) (g := (mkF m 28 #[.val (.ref a1), .val (.ref a2), .val (.double (FP.l2d ((0 : Int64) + x0))), .second, .val (.int (1 : Int32))] [(.int (1 : Int32)), (.ref a2), (.double (FP.l2d ((0 : Int64) + x0)))])) rfl rfl (hb hby od_prog_22_m_1_28)) ?_
  show Go p e below _ T170 (mkF m 29 #[.val (.ref a1), .val (.ref a2), .val (.double (FP.l2d ((0 : Int64) + x0))), .second, .val (.int (1 : Int32))] [(.double (FP.l2d x1)), (.double (FP.l2d ((0 : Int64) + x0)))])
  have q176 : FP.dadd (FP.l2d ((0 : Int64) + x0)) (FP.l2d x1) = (FP.l2d (((0 : Int64) + x0) + x1)) := dadd_w (J1.b (by decide)) (I1.b (by decide))
  refine Go.by (fun t k => XS.daddS X170.here hx rfl (hb hby od_prog_22_m_1_29) rfl (nn_w q176) q176 k) ?_
  show Go p e below _ T170 (mkF m 30 #[.val (.ref a1), .val (.ref a2), .val (.double (FP.l2d ((0 : Int64) + x0))), .second, .val (.int (1 : Int32))] [(.double (FP.l2d (((0 : Int64) + x0) + x1)))])
  have J2 : In 4294967294 (((0 : Int64) + x0) + x1) := J1.add I1 (by decide) (by decide)
  refine Go.by (fun t k => XS.dstoreN X170.here hx rfl (hb hby od_prog_22_m_1_30) rfl (l' := #[.val (.ref a1), .val (.ref a2), .val (.double (FP.l2d (((0 : Int64) + x0) + x1))), .second, .val (.int (1 : Int32))]) rfl (XS.aloadN X170.here hx rfl (hb hby od_prog_22_m_1_31) rfl rfl k)) ?_
  show Go p e below _ T170 (mkF m 32 #[.val (.ref a1), .val (.ref a2), .val (.double (FP.l2d (((0 : Int64) + x0) + x1))), .second, .val (.int (1 : Int32))] [(.ref a1)])
  have F178 : Fld Z h170 a1 "com/example/shardpick/shardpick/generate/WeightedDraw" "ends" "[D" (.ref b159) := ((F162.same W161).other W170 (Or.inl (Nat.ne_of_lt (Nat.lt_of_lt_of_le E1.lt (Nat.le_of_eq g159.symm)))))
  obtain ⟨T177, X177, e177, st177⟩ := getF X170 hx hZ hown (host := "") (Or.inl (ow11 hw)) Via.refl e170 F178 (g := (mkF m 32 #[.val (.ref a1), .val (.ref a2), .val (.double (FP.l2d (((0 : Int64) + x0) + x1))), .second, .val (.int (1 : Int32))] [(.ref a1)])) rfl rfl (hb hby od_prog_22_m_1_32)
  refine Go.by st177 ?_
  show Go p e below _ T177 (mkF m 35 #[.val (.ref a1), .val (.ref a2), .val (.double (FP.l2d (((0 : Int64) + x0) + x1))), .second, .val (.int (1 : Int32))] [(.ref b159)])
  refine Go.by (fun t k => XS.iload X177.here hx rfl (hb hby od_prog_22_m_1_35) rfl (XS.dloadN X177.here hx rfl (hb hby od_prog_22_m_1_37) rfl k)) ?_
  show Go p e below _ T177 (mkF m 38 #[.val (.ref a1), .val (.ref a2), .val (.double (FP.l2d (((0 : Int64) + x0) + x1))), .second, .val (.int (1 : Int32))] [(.double (FP.l2d (((0 : Int64) + x0) + x1))), (.int (1 : Int32)), (.ref b159)])
  obtain ⟨c179, A179, q179, S179, M179, G179, J179⟩ := id V170
  obtain ⟨T179, h179, X179, e179, W179, st179⟩ := stD X177 hx hZ e177 A179 (j := (1 : Int32)) (inb_of S179 ⟨by decide, by decide⟩) (g := (mkF m 38 #[.val (.ref a1), .val (.ref a2), .val (.double (FP.l2d (((0 : Int64) + x0) + x1))), .second, .val (.int (1 : Int32))] [(.double (FP.l2d (((0 : Int64) + x0) + x1))), (.int (1 : Int32)), (.ref b159)])) rfl rfl (hb hby od_prog_22_m_1_38)
  refine Go.by st179 ?_
  have N179 := Fr.snoc X179 N170 (Nat.le_trans (Nat.le_trans Z0 (Nat.le_refl _)) (Nat.le_of_eq g159.symm))
  have K180 : Keep h0 h179 [a1] := K172.wr W179 (Or.inr (Nat.le_trans (Nat.le_refl _) (Nat.le_of_eq g159.symm)))
  show Go p e below _ T179 (mkF m 39 #[.val (.ref a1), .val (.ref a2), .val (.double (FP.l2d (((0 : Int64) + x0) + x1))), .second, .val (.int (1 : Int32))] [])
  have V179 : Arv Z h179 b159 k159 .double (3 : Int32) ([(.double (FP.l2d ((0 : Int64) + x0))), (.double (FP.l2d (((0 : Int64) + x0) + x1))), (.double (FP.l2d 0))]) (.double (FP.l2d 0)) := Arv.set A179 q179 S179 M179 G179 J179 rfl W179 1 rfl (Nat.le_of_ble_eq_true rfl)
  refine Go.by (fun t k => XS.iinc X179.here hx rfl (hb hby od_prog_22_m_1_39) rfl (l' := #[.val (.ref a1), .val (.ref a2), .val (.double (FP.l2d (((0 : Int64) + x0) + x1))), .second, .val (.int (2 : Int32))]) rfl (XS.goto X179.here hx rfl (pc0 := 42) (pc' := 17) rfl (hb hby od_prog_22_m_1_42) (by decide) (by decide) (XS.iload X179.here hx rfl (hb hby od_prog_22_m_1_17) rfl (XS.aloadN X179.here hx rfl (hb hby od_prog_22_m_1_19) rfl rfl k)))) ?_
  show Go p e below _ T179 (mkF m 20 #[.val (.ref a1), .val (.ref a2), .val (.double (FP.l2d (((0 : Int64) + x0) + x1))), .second, .val (.int (2 : Int32))] [(.ref a2), (.int (2 : Int32))])
  have F182 : Arv Z h179 a2 k2 .double (3 : Int32) ([(.double (FP.l2d x0)), (.double (FP.l2d x1)), (.double (FP.l2d x2))]) (.double (FP.l2d 0)) := (F174.other W179 (Nat.ne_of_lt (Nat.lt_of_lt_of_le V2.lt (Nat.le_of_eq g159.symm))))
  obtain ⟨c181, A181, q181, S181, M181, G181, J181⟩ := id F182
  have l181 := len_of S181 M181
  refine Go.by (X179.arraylength hx (by rw [e179]; exact A181.1) (State.isArrayOf_alike hZ.alike A181.2.1) (g := (mkF m 20 #[.val (.ref a1), .val (.ref a2), .val (.double (FP.l2d (((0 : Int64) + x0) + x1))), .second, .val (.int (2 : Int32))] [(.ref a2), (.int (2 : Int32))])) rfl rfl (hb hby od_prog_22_m_1_20)) ?_
  rw [l181]
  show Go p e below _ T179 (mkF m 21 #[.val (.ref a1), .val (.ref a2), .val (.double (FP.l2d (((0 : Int64) + x0) + x1))), .second, .val (.int (2 : Int32))] [(.int (3 : Int32)), (.int (2 : Int32))])
  refine Go.by (fun t k => XS.icmpNo X179.here hx rfl (hb hby od_prog_22_m_1_21) rfl (tlt (show (2 : Int32) < (3 : Int32) from (by decide))).2.1 k) ?_
  show Go p e below _ T179 (mkF m 24 #[.val (.ref a1), .val (.ref a2), .val (.double (FP.l2d (((0 : Int64) + x0) + x1))), .second, .val (.int (2 : Int32))] [])
  refine Go.by (fun t k => XS.dloadN X179.here hx rfl (hb hby od_prog_22_m_1_24) rfl (XS.aloadN X179.here hx rfl (hb hby od_prog_22_m_1_25) rfl rfl (XS.iload X179.here hx rfl (hb hby od_prog_22_m_1_26) rfl k))) ?_
  show Go p e below _ T179 (mkF m 28 #[.val (.ref a1), .val (.ref a2), .val (.double (FP.l2d (((0 : Int64) + x0) + x1))), .second, .val (.int (2 : Int32))] [(.int (2 : Int32)), (.ref a2), (.double (FP.l2d (((0 : Int64) + x0) + x1)))])
  obtain ⟨c183, A183, q183, S183, M183, G183, J183⟩ := id F182
  have i183 := inb_of S183 (j := (2 : Int32)) ⟨by decide, by decide⟩
  refine Go.by (X179.daload hx (j := (2 : Int32)) (v := (.double (FP.l2d x2))) (by rw [e179]; exact A183.1) (State.isArrayOf_alike hZ.alike A183.2.1) A183.2.2 i183 (G183.at i183 rfl) (g := (mkF m 28 #[.val (.ref a1), .val (.ref a2), .val (.double (FP.l2d (((0 : Int64) + x0) + x1))), .second, .val (.int (2 : Int32))] [(.int (2 : Int32)), (.ref a2), (.double (FP.l2d (((0 : Int64) + x0) + x1)))])) rfl rfl (hb hby od_prog_22_m_1_28)) ?_
  show Go p e below _ T179 (mkF m 29 #[.val (.ref a1), .val (.ref a2), .val (.double (FP.l2d (((0 : Int64) + x0) + x1))), .second, .val (.int (2 : Int32))] [(.double (FP.l2d x2)), (.double (FP.l2d (((0 : Int64) + x0) + x1)))])
  have q184 : FP.dadd (FP.l2d (((0 : Int64) + x0) + x1)) (FP.l2d x2) = (FP.l2d ((((0 : Int64) + x0) + x1) + x2)) := dadd_w (J2.b (by decide)) (I2.b (by decide))
  refine Go.by (fun t k => XS.daddS X179.here hx rfl (hb hby od_prog_22_m_1_29) rfl (nn_w q184) q184 k) ?_
  show Go p e below _ T179 (mkF m 30 #[.val (.ref a1), .val (.ref a2), .val (.double (FP.l2d (((0 : Int64) + x0) + x1))), .second, .val (.int (2 : Int32))] [(.double (FP.l2d ((((0 : Int64) + x0) + x1) + x2)))])
  have J3 : In 6442450941 ((((0 : Int64) + x0) + x1) + x2) := J2.add I2 (by decide) (by decide)
  refine Go.by (fun t k => XS.dstoreN X179.here hx rfl (hb hby od_prog_22_m_1_30) rfl (l' := #[.val (.ref a1), .val (.ref a2), .val (.double (FP.l2d ((((0 : Int64) + x0) + x1) + x2))), .second, .val (.int (2 : Int32))]) rfl (XS.aloadN X179.here hx rfl (hb hby od_prog_22_m_1_31) rfl rfl k)) ?_
  show Go p e below _ T179 (mkF m 32 #[.val (.ref a1), .val (.ref a2), .val (.double (FP.l2d ((((0 : Int64) + x0) + x1) + x2))), .second, .val (.int (2 : Int32))] [(.ref a1)])
  have F186 : Fld Z h179 a1 "com/example/shardpick/shardpick/generate/WeightedDraw" "ends" "[D" (.ref b159) := (F178.other W179 (Or.inl (Nat.ne_of_lt (Nat.lt_of_lt_of_le E1.lt (Nat.le_of_eq g159.symm)))))
  obtain ⟨T185, X185, e185, st185⟩ := getF X179 hx hZ hown (host := "") (Or.inl (ow11 hw)) Via.refl e179 F186 (g := (mkF m 32 #[.val (.ref a1), .val (.ref a2), .val (.double (FP.l2d ((((0 : Int64) + x0) + x1) + x2))), .second, .val (.int (2 : Int32))] [(.ref a1)])) rfl rfl (hb hby od_prog_22_m_1_32)
  refine Go.by st185 ?_
  show Go p e below _ T185 (mkF m 35 #[.val (.ref a1), .val (.ref a2), .val (.double (FP.l2d ((((0 : Int64) + x0) + x1) + x2))), .second, .val (.int (2 : Int32))] [(.ref b159)])
  refine Go.by (fun t k => XS.iload X185.here hx rfl (hb hby od_prog_22_m_1_35) rfl (XS.dloadN X185.here hx rfl (hb hby od_prog_22_m_1_37) rfl k)) ?_
  show Go p e below _ T185 (mkF m 38 #[.val (.ref a1), .val (.ref a2), .val (.double (FP.l2d ((((0 : Int64) + x0) + x1) + x2))), .second, .val (.int (2 : Int32))] [(.double (FP.l2d ((((0 : Int64) + x0) + x1) + x2))), (.int (2 : Int32)), (.ref b159)])
  obtain ⟨c187, A187, q187, S187, M187, G187, J187⟩ := id V179
  obtain ⟨T187, h187, X187, e187, W187, st187⟩ := stD X185 hx hZ e185 A187 (j := (2 : Int32)) (inb_of S187 ⟨by decide, by decide⟩) (g := (mkF m 38 #[.val (.ref a1), .val (.ref a2), .val (.double (FP.l2d ((((0 : Int64) + x0) + x1) + x2))), .second, .val (.int (2 : Int32))] [(.double (FP.l2d ((((0 : Int64) + x0) + x1) + x2))), (.int (2 : Int32)), (.ref b159)])) rfl rfl (hb hby od_prog_22_m_1_38)
  refine Go.by st187 ?_
  have N187 := Fr.snoc X187 N179 (Nat.le_trans (Nat.le_trans Z0 (Nat.le_refl _)) (Nat.le_of_eq g159.symm))
  have K188 : Keep h0 h187 [a1] := K180.wr W187 (Or.inr (Nat.le_trans (Nat.le_refl _) (Nat.le_of_eq g159.symm)))
  show Go p e below _ T187 (mkF m 39 #[.val (.ref a1), .val (.ref a2), .val (.double (FP.l2d ((((0 : Int64) + x0) + x1) + x2))), .second, .val (.int (2 : Int32))] [])
  have V187 : Arv Z h187 b159 k159 .double (3 : Int32) ([(.double (FP.l2d ((0 : Int64) + x0))), (.double (FP.l2d (((0 : Int64) + x0) + x1))), (.double (FP.l2d ((((0 : Int64) + x0) + x1) + x2)))]) (.double (FP.l2d 0)) := Arv.set A187 q187 S187 M187 G187 J187 rfl W187 2 rfl (Nat.le_of_ble_eq_true rfl)
  refine Go.by (fun t k => XS.iinc X187.here hx rfl (hb hby od_prog_22_m_1_39) rfl (l' := #[.val (.ref a1), .val (.ref a2), .val (.double (FP.l2d ((((0 : Int64) + x0) + x1) + x2))), .second, .val (.int (3 : Int32))]) rfl (XS.goto X187.here hx rfl (pc0 := 42) (pc' := 17) rfl (hb hby od_prog_22_m_1_42) (by decide) (by decide) (XS.iload X187.here hx rfl (hb hby od_prog_22_m_1_17) rfl (XS.aloadN X187.here hx rfl (hb hby od_prog_22_m_1_19) rfl rfl k)))) ?_
  show Go p e below _ T187 (mkF m 20 #[.val (.ref a1), .val (.ref a2), .val (.double (FP.l2d ((((0 : Int64) + x0) + x1) + x2))), .second, .val (.int (3 : Int32))] [(.ref a2), (.int (3 : Int32))])
  have F190 : Arv Z h187 a2 k2 .double (3 : Int32) ([(.double (FP.l2d x0)), (.double (FP.l2d x1)), (.double (FP.l2d x2))]) (.double (FP.l2d 0)) := (F182.other W187 (Nat.ne_of_lt (Nat.lt_of_lt_of_le V2.lt (Nat.le_of_eq g159.symm))))
  obtain ⟨c189, A189, q189, S189, M189, G189, J189⟩ := id F190
  have l189 := len_of S189 M189
  refine Go.by (X187.arraylength hx (by rw [e187]; exact A189.1) (State.isArrayOf_alike hZ.alike A189.2.1) (g := (mkF m 20 #[.val (.ref a1), .val (.ref a2), .val (.double (FP.l2d ((((0 : Int64) + x0) + x1) + x2))), .second, .val (.int (3 : Int32))] [(.ref a2), (.int (3 : Int32))])) rfl rfl (hb hby od_prog_22_m_1_20)) ?_
  rw [l189]
  show Go p e below _ T187 (mkF m 21 #[.val (.ref a1), .val (.ref a2), .val (.double (FP.l2d ((((0 : Int64) + x0) + x1) + x2))), .second, .val (.int (3 : Int32))] [(.int (3 : Int32)), (.int (3 : Int32))])
  refine Go.by (fun t k => XS.icmpYes X187.here hx rfl (pc0 := 21) (pc' := 45) rfl (hb hby od_prog_22_m_1_21) rfl (flt (show ¬ ((3 : Int32) < (3 : Int32)) from (by decide))).2.1 (by decide) (by decide) k) ?_
  show Go p e below _ T187 (mkF m 45 #[.val (.ref a1), .val (.ref a2), .val (.double (FP.l2d ((((0 : Int64) + x0) + x1) + x2))), .second, .val (.int (3 : Int32))] [])
  have F191 : Exa Z h187 a1 "com/example/shardpick/shardpick/generate/WeightedDraw" := ((((F163.wr W161).wr W170).wr W179).wr W187)
  have F192 : Fld Z h187 a1 "com/example/shardpick/shardpick/generate/WeightedDraw" "ends" "[D" (.ref b159) := (F186.other W187 (Or.inl (Nat.ne_of_lt (Nat.lt_of_lt_of_le E1.lt (Nat.le_of_eq g159.symm)))))
  exact Go.ret0 X187 hx hret hlk (hb hby od_prog_22_m_1_45) (by first | (rw [e187]; exact ⟨b159, k159, rfl, N187, K188, F191, F192, V187⟩) | exact ⟨b159, k159, rfl, N187, K188, F191, F192, V187⟩) (by decide) (by decide)
def Q_tot3 (Z : State) (a1 : Addr) (bt : Addr) (kt : ClassId) (x0 : Int64) (x1 : Int64) (x2 : Int64) (h0 : Heap) (n0 : Nat) (v : Option Value) (h : Heap) (L : List Loc) : Prop := v = some (.double (FP.l2d x2)) ∧ Fr n0 L ∧ h = h0
set_option maxRecDepth 65536 in
set_option maxHeartbeats 40000000 in
theorem rm_tot3 (l : Launch) (Z : State) (a0 : Array Value) (hw : HW a0 Z) (ws : List Jvm.Cond) (a1 : Addr) (bt : Addr) (kt : ClassId) (x0 : Int64) (x1 : Int64) (x2 : Int64) (h0 : Heap) (n0 : Nat) (Z0 : n0 ≤ h0.size) (F1 : Fld Z h0 a1 "com/example/shardpick/shardpick/generate/WeightedDraw" "ends" "[D" (.ref bt)) (V2 : Arv Z h0 bt kt .double (3 : Int32) ([(.double (FP.l2d x0)), (.double (FP.l2d x1)), (.double (FP.l2d x2))]) (.double (FP.l2d 0))) :
    MetFree l (⟨"com/example/shardpick/shardpick/generate/WeightedDraw", "total", "()D"⟩ : MethodName) (head1 (Jvm.Cond.code (⟨"com/example/shardpick/shardpick/generate/WeightedDraw", "total", "()D"⟩ : MethodName) prog_22_method_2_code 1 (Option.some Jvm.ClassFile.FieldType.double) :: ws) ({ frames := 0, cells := 0, slots := 0, locals := 0 } : Room)) (fun a U => a = #[(.ref a1)] ∧ Z.Warmed39 U.vm ∧ U.heap = h0) (fun _ _ _ _ _ => True) (fun _ U o U' => Out U (Q_tot3 Z a1 bt kt x0 x1 x2 h0 n0) ({ frames := 0, cells := 0, slots := 0, locals := 0 } : Room).cells ({ frames := 0, cells := 0, slots := 0, locals := 0 } : Room).slots o U') := by
  refine MetFree.of_bodySF (plainFor_of_name opn_0) hisR ?_
  intro p e s m args below meth c s₁ Bd hml0 hP hK
  obtain ⟨rfl, hZ, hh⟩ := hP
  have hx := Bd.exec
  have hby := Bd.bytes
  have hml : c.maxLocals = 1 := hml0
  have hret := Bd.returns
  have hlk : meth.locks = false := BodyLoose.notSynchronized Bd
  have hown : s.vm.findClass "com/example/shardpick/shardpick/generate/WeightedDraw" = some m.cls := findClass_of_methodNamed Bd.named
  have hnm := (name_of_methodNamed Bd.named Bd.method).1
  have X0 : Stand p l e ({ frames := 0, cells := 0, slots := 0, locals := 0 } : Room) s m #[(.ref a1)] below meth c s₁ [] 0 0 := Stand.of_body Bd
  have e0 : s₁.heap = h0 := by rw [← hh, Bd.state]; rfl
  have N0 := Fr.nil n0
  show Go p e below (Out s (Q_tot3 Z a1 bt kt x0 x1 x2 h0 n0) ({ frames := 0, cells := 0, slots := 0, locals := 0 } : Room).cells ({ frames := 0, cells := 0, slots := 0, locals := 0 } : Room).slots) s₁ (entryFrame m #[(.ref a1)] 1)
  refine Go.cast (oef_tot3 m a1) ?_
  show Go p e below _ s₁ (mkF m 0 #[.val (.ref a1)] [])
  refine Go.by (fun t k => XS.aloadN X0.here hx rfl (hb hby od_prog_22_m_2_0) rfl rfl k) ?_
  show Go p e below _ s₁ (mkF m 1 #[.val (.ref a1)] [(.ref a1)])
  obtain ⟨T193, X193, e193, st193⟩ := getF X0 hx hZ hown (host := "") (Or.inl (ow11 hw)) Via.refl e0 F1 (g := (mkF m 1 #[.val (.ref a1)] [(.ref a1)])) rfl rfl (hb hby od_prog_22_m_2_1)
  refine Go.by st193 ?_
  show Go p e below _ T193 (mkF m 4 #[.val (.ref a1)] [(.ref bt)])
  refine Go.by (fun t k => XS.aloadN X193.here hx rfl (hb hby od_prog_22_m_2_4) rfl rfl k) ?_
  show Go p e below _ T193 (mkF m 5 #[.val (.ref a1)] [(.ref a1), (.ref bt)])
  obtain ⟨T194, X194, e194, st194⟩ := getF X193 hx hZ hown (host := "") (Or.inl (ow11 hw)) Via.refl e193 F1 (g := (mkF m 5 #[.val (.ref a1)] [(.ref a1), (.ref bt)])) rfl rfl (hb hby od_prog_22_m_2_5)
  refine Go.by st194 ?_
  show Go p e below _ T194 (mkF m 8 #[.val (.ref a1)] [(.ref bt), (.ref bt)])
  obtain ⟨c195, A195, q195, S195, M195, G195, J195⟩ := id V2
  have l195 := len_of S195 M195
  refine Go.by (X194.arraylength hx (by rw [e194]; exact A195.1) (State.isArrayOf_alike hZ.alike A195.2.1) (g := (mkF m 8 #[.val (.ref a1)] [(.ref bt), (.ref bt)])) rfl rfl (hb hby od_prog_22_m_2_8)) ?_
  rw [l195]
  show Go p e below _ T194 (mkF m 9 #[.val (.ref a1)] [(.int (3 : Int32)), (.ref bt)])
  refine Go.by (fun t k => XS.iconst X194.here hx rfl (hb hby od_prog_22_m_2_9) (XS.isub X194.here hx rfl (hb hby od_prog_22_m_2_10) rfl k)) ?_
  show Go p e below _ T194 (mkF m 11 #[.val (.ref a1)] [(.int (2 : Int32)), (.ref bt)])
  obtain ⟨c196, A196, q196, S196, M196, G196, J196⟩ := id V2
  have i196 := inb_of S196 (j := (2 : Int32)) ⟨by decide, by decide⟩
  refine Go.by (X194.daload hx (j := (2 : Int32)) (v := (.double (FP.l2d x2))) (by rw [e194]; exact A196.1) (State.isArrayOf_alike hZ.alike A196.2.1) A196.2.2 i196 (G196.at i196 rfl) (g := (mkF m 11 #[.val (.ref a1)] [(.int (2 : Int32)), (.ref bt)])) rfl rfl (hb hby od_prog_22_m_2_11)) ?_
  show Go p e below _ T194 (mkF m 12 #[.val (.ref a1)] [(.double (FP.l2d x2))])
  exact Go.retD X194 hx hret hlk (hb hby od_prog_22_m_2_12) (by first | (rw [e194]; exact ⟨rfl, N0, rfl⟩) | exact ⟨rfl, N0, rfl⟩) (by decide) (by decide)
def Q_wd4 (Z : State) (a1 : Addr) (a2 : Addr) (k2 : ClassId) (x0 : Int64) (x1 : Int64) (x2 : Int64) (x3 : Int64) (h0 : Heap) (n0 : Nat) (v : Option Value) (h : Heap) (L : List Loc) : Prop := ∃ bt : Addr, ∃ kt : ClassId, v = none ∧ Fr n0 L ∧ Keep h0 h [a1] ∧ (Exa Z h a1 "com/example/shardpick/shardpick/generate/WeightedDraw") ∧ (Fld Z h a1 "com/example/shardpick/shardpick/generate/WeightedDraw" "ends" "[D" (.ref bt)) ∧ (Arv Z h bt kt .double (4 : Int32) ([(.double (FP.l2d ((0 : Int64) + x0))), (.double (FP.l2d (((0 : Int64) + x0) + x1))), (.double (FP.l2d ((((0 : Int64) + x0) + x1) + x2))), (.double (FP.l2d (((((0 : Int64) + x0) + x1) + x2) + x3)))]) (.double (FP.l2d 0)))
set_option maxRecDepth 65536 in
set_option maxHeartbeats 40000000 in
theorem rm_wd4 (l : Launch) (Z : State) (a0 : Array Value) (hw : HW a0 Z) (ws : List Jvm.Cond) (a1 : Addr) (a2 : Addr) (k2 : ClassId) (x0 : Int64) (x1 : Int64) (x2 : Int64) (x3 : Int64) (h0 : Heap) (n0 : Nat) (Z0 : n0 ≤ h0.size) (E1 : Exa Z h0 a1 "com/example/shardpick/shardpick/generate/WeightedDraw") (g_a1 : n0 ≤ a1) (F1 : Fld Z h0 a1 "com/example/shardpick/shardpick/generate/WeightedDraw" "ends" "[D" .null) (V2 : Arv Z h0 a2 k2 .double (4 : Int32) ([(.double (FP.l2d x0)), (.double (FP.l2d x1)), (.double (FP.l2d x2)), (.double (FP.l2d x3))]) (.double (FP.l2d 0))) (I0 : In 2147483647 x0) (I1 : In 2147483647 x1) (I2 : In 2147483647 x2) (I3 : In 2147483647 x3) :
    MetFree l (⟨"com/example/shardpick/shardpick/generate/WeightedDraw", "<init>", "([D)V"⟩ : MethodName) (head1 (Jvm.Cond.code (⟨"com/example/shardpick/shardpick/generate/WeightedDraw", "<init>", "([D)V"⟩ : MethodName) prog_22_method_1_code 5 (Option.none : Option Jvm.ClassFile.FieldType) :: ws) ({ frames := 1, cells := 1, slots := 4, locals := 12 } : Room)) (fun a U => a = #[(.ref a1), (.ref a2)] ∧ Z.Warmed39 U.vm ∧ U.heap = h0) (fun _ _ _ _ _ => True) (fun _ U o U' => Out U (Q_wd4 Z a1 a2 k2 x0 x1 x2 x3 h0 n0) ({ frames := 1, cells := 1, slots := 4, locals := 12 } : Room).cells ({ frames := 1, cells := 1, slots := 4, locals := 12 } : Room).slots o U') := by
  refine MetFree.of_bodySF (plainFor_of_name opn_0) hisR ?_
  intro p e s m args below meth c s₁ Bd hml0 hP hK
  obtain ⟨rfl, hZ, hh⟩ := hP
  have hx := Bd.exec
  have hby := Bd.bytes
  have hml : c.maxLocals = 5 := hml0
  have hret := Bd.returns
  have hlk : meth.locks = false := BodyLoose.notSynchronized Bd
  have hown : s.vm.findClass "com/example/shardpick/shardpick/generate/WeightedDraw" = some m.cls := findClass_of_methodNamed Bd.named
  have hnm := (name_of_methodNamed Bd.named Bd.method).1
  have X0 : Stand p l e ({ frames := 1, cells := 1, slots := 4, locals := 12 } : Room) s m #[(.ref a1), (.ref a2)] below meth c s₁ [] 0 0 := Stand.of_body Bd
  have e0 : s₁.heap = h0 := by rw [← hh, Bd.state]; rfl
  have N0 := Fr.nil n0
  have K0 : Keep h0 h0 [a1] := Keep.refl h0 _
  show Go p e below (Out s (Q_wd4 Z a1 a2 k2 x0 x1 x2 x3 h0 n0) ({ frames := 1, cells := 1, slots := 4, locals := 12 } : Room).cells ({ frames := 1, cells := 1, slots := 4, locals := 12 } : Room).slots) s₁ (entryFrame m #[(.ref a1), (.ref a2)] 5)
  refine Go.cast (oef_wd4 m a1 a2) ?_
  show Go p e below _ s₁ (mkF m 0 #[.val (.ref a1), .val (.ref a2), .unset, .unset, .unset] [])
  refine Go.by (fun t k => XS.aloadN X0.here hx rfl (hb hby od_prog_22_m_1_0) rfl rfl k) ?_
  show Go p e below _ s₁ (mkF m 1 #[.val (.ref a1), .val (.ref a2), .unset, .unset, .unset] [(.ref a1)])
  obtain ⟨T197, X197, e197, st197⟩ := initO X0 hx hZ hown (ow8 hw) (ow9 hw) (ow10 hw) e0 (g := (mkF m 1 #[.val (.ref a1), .val (.ref a2), .unset, .unset, .unset] [(.ref a1)])) rfl (by rw [hml]; rfl) rfl (hb hby od_prog_22_m_1_1) (by decide) (W := 0) (by show 2 * 0 + _ ≤ _; exact Nat.le_of_eq rfl) (by decide)
  refine Go.by st197 ?_
  show Go p e below _ T197 (mkF m 4 #[.val (.ref a1), .val (.ref a2), .unset, .unset, .unset] [])
  refine Go.by (fun t k => XS.aloadN X197.here hx rfl (hb hby od_prog_22_m_1_4) rfl rfl (XS.aloadN X197.here hx rfl (hb hby od_prog_22_m_1_5) rfl rfl k)) ?_
  show Go p e below _ T197 (mkF m 6 #[.val (.ref a1), .val (.ref a2), .unset, .unset, .unset] [(.ref a2), (.ref a1)])
  obtain ⟨c198, A198, q198, S198, M198, G198, J198⟩ := id V2
  have l198 := len_of S198 M198
  refine Go.by (X197.arraylength hx (by rw [e197]; exact A198.1) (State.isArrayOf_alike hZ.alike A198.2.1) (g := (mkF m 6 #[.val (.ref a1), .val (.ref a2), .unset, .unset, .unset] [(.ref a2), (.ref a1)])) rfl rfl (hb hby od_prog_22_m_1_6)) ?_
  rw [l198]
  show Go p e below _ T197 (mkF m 7 #[.val (.ref a1), .val (.ref a2), .unset, .unset, .unset] [(.int (4 : Int32)), (.ref a1)])
  obtain ⟨T199, h199, k199, X199, e199, E199, A199, st199⟩ := newP X197 hx hZ (aty := .double) (ow1 hw) e197 (g := (mkF m 7 #[.val (.ref a1), .val (.ref a2), .unset, .unset, .unset] [(.int (4 : Int32)), (.ref a1)])) rfl (hb hby od_prog_22_m_1_7) rfl (by decide) (cap := 4) (by decide) (by decide) (by decide) (by decide)
  obtain ⟨b199, g199⟩ : ∃ z, z = h0.size := ⟨_, rfl⟩
  rw [← g199] at A199 st199
  refine Go.by st199 ?_
  have K200 : Keep h0 h199 [a1] := K0.ext E199
  show Go p e below _ T199 (mkF m 9 #[.val (.ref a1), .val (.ref a2), .unset, .unset, .unset] [(.ref b199), (.ref a1)])
  have V199 : Arv Z h199 b199 k199 .double (4 : Int32) [(.double (FP.l2d 0)), (.double (FP.l2d 0)), (.double (FP.l2d 0)), (.double (FP.l2d 0))] (.double (FP.l2d 0)) := (Arv.newD A199 (by decide)).pad (pad_rep [] (.double (FP.l2d 0)) 4)
  have F202 : Fld Z h199 a1 "com/example/shardpick/shardpick/generate/WeightedDraw" "ends" "[D" .null := (F1.ext E199)
  have F203 : Exa Z h199 a1 "com/example/shardpick/shardpick/generate/WeightedDraw" := (E1.ext E199)
  obtain ⟨T201, h201, X201, e201, W201, st201⟩ := putF X199 hx hZ hown (host := "") (Or.inl (ow11 hw)) Via.refl e199 F202 F203 (Or.inr ⟨(ow12 hw), rfl, hnm⟩) (ow3 hw) (ty := (.array .double)) (by decide) rfl rfl (g := (mkF m 9 #[.val (.ref a1), .val (.ref a2), .unset, .unset, .unset] [(.ref b199), (.ref a1)])) rfl rfl (hb hby od_prog_22_m_1_9)
  refine Go.by st201 ?_
  have N201 := Fr.snoc X201 N0 g_a1
  have K204 : Keep h0 h201 [a1] := K200.wr W201 (Or.inl (List.mem_of_getElem? (i := 0) rfl))
  show Go p e below _ T201 (mkF m 12 #[.val (.ref a1), .val (.ref a2), .unset, .unset, .unset] [])
  refine Go.by (fun t k => XS.dconst0 X201.here hx rfl (hb hby od_prog_22_m_1_12) (v := (FP.l2d 0)) (by decide +kernel) (XS.dstoreN X201.here hx rfl (hb hby od_prog_22_m_1_13) rfl (l' := #[.val (.ref a1), .val (.ref a2), .val (.double (FP.l2d 0)), .second, .unset]) rfl (XS.iconst X201.here hx rfl (hb hby od_prog_22_m_1_14) (XS.istore X201.here hx rfl (hb hby od_prog_22_m_1_15) rfl (l' := #[.val (.ref a1), .val (.ref a2), .val (.double (FP.l2d 0)), .second, .val (.int (0 : Int32))]) rfl k)))) ?_
  show Go p e below _ T201 (mkF m 17 #[.val (.ref a1), .val (.ref a2), .val (.double (FP.l2d 0)), .second, .val (.int (0 : Int32))] [])
  refine Go.by (fun t k => XS.iload X201.here hx rfl (hb hby od_prog_22_m_1_17) rfl (XS.aloadN X201.here hx rfl (hb hby od_prog_22_m_1_19) rfl rfl k)) ?_
  show Go p e below _ T201 (mkF m 20 #[.val (.ref a1), .val (.ref a2), .val (.double (FP.l2d 0)), .second, .val (.int (0 : Int32))] [(.ref a2), (.int (0 : Int32))])
  have J0 : In 0 (0 : Int64) := in_zero
  have F206 : Arv Z h201 a2 k2 .double (4 : Int32) ([(.double (FP.l2d x0)), (.double (FP.l2d x1)), (.double (FP.l2d x2)), (.double (FP.l2d x3))]) (.double (FP.l2d 0)) := ((V2.ext E199).other W201 (Ne.symm (ne_arv F203 (ow3 hw) (V2.ext E199))))
  obtain ⟨c205, A205, q205, S205, M205, G205, J205⟩ := id F206
  have l205 := len_of S205 M205
  refine Go.by (X201.arraylength hx (by rw [e201]; exact A205.1) (State.isArrayOf_alike hZ.alike A205.2.1) (g := (mkF m 20 #[.val (.ref a1), .val (.ref a2), .val (.double (FP.l2d 0)), .second, .val (.int (0 : Int32))] [(.ref a2), (.int (0 : Int32))])) rfl rfl (hb hby od_prog_22_m_1_20)) ?_
  rw [l205]
  show Go p e below _ T201 (mkF m 21 #[.val (.ref a1), .val (.ref a2), .val (.double (FP.l2d 0)), .second, .val (.int (0 : Int32))] [(.int (4 : Int32)), (.int (0 : Int32))])
  refine Go.by (fun t k => XS.icmpNo X201.here hx rfl (hb hby od_prog_22_m_1_21) rfl (tlt (show (0 : Int32) < (4 : Int32) from (by decide))).2.1 k) ?_
  show Go p e below _ T201 (mkF m 24 #[.val (.ref a1), .val (.ref a2), .val (.double (FP.l2d 0)), .second, .val (.int (0 : Int32))] [])
  refine Go.by (fun t k => XS.dloadN X201.here hx rfl (hb hby od_prog_22_m_1_24) rfl (XS.aloadN X201.here hx rfl (hb hby od_prog_22_m_1_25) rfl rfl (XS.iload X201.here hx rfl (hb hby od_prog_22_m_1_26) rfl k))) ?_
  show Go p e below _ T201 (mkF m 28 #[.val (.ref a1), .val (.ref a2), .val (.double (FP.l2d 0)), .second, .val (.int (0 : Int32))] [(.int (0 : Int32)), (.ref a2), (.double (FP.l2d 0))])
  obtain ⟨c207, A207, q207, S207, M207, G207, J207⟩ := id F206
  have i207 := inb_of S207 (j := (0 : Int32)) ⟨by decide, by decide⟩
  refine Go.by (X201.daload hx (j := (0 : Int32)) (v := (.double (FP.l2d x0))) (by rw [e201]; exact A207.1) (State.isArrayOf_alike hZ.alike A207.2.1) A207.2.2 i207 (G207.at i207 rfl) (g := (mkF m 28 #[.val (.ref a1), .val (.ref a2), .val (.double (FP.l2d 0)), .second, .val (.int (0 : Int32))] [(.int (0 : Int32)), (.ref a2), (.double (FP.l2d 0))])) rfl rfl (hb hby od_prog_22_m_1_28)) ?_
  show Go p e below _ T201 (mkF m 29 #[.val (.ref a1), .val (.ref a2), .val (.double (FP.l2d 0)), .second, .val (.int (0 : Int32))] [(.double (FP.l2d x0)), (.double (FP.l2d 0))])
  have q208 : FP.dadd (FP.l2d 0) (FP.l2d x0) = (FP.l2d ((0 : Int64) + x0)) := dadd_w (J0.b (by decide)) (I0.b (by decide))
  refine Go.by (fun t k => XS.daddS X201.here hx rfl (hb hby od_prog_22_m_1_29) rfl (nn_w q208) q208 k) ?_
  show Go p e below _ T201 (mkF m 30 #[.val (.ref a1), .val (.ref a2), .val (.double (FP.l2d 0)), .second, .val (.int (0 : Int32))] [(.double (FP.l2d ((0 : Int64) + x0)))])
  have J1 : In 2147483647 ((0 : Int64) + x0) := J0.add I0 (by decide) (by decide)
  refine Go.by (fun t k => XS.dstoreN X201.here hx rfl (hb hby od_prog_22_m_1_30) rfl (l' := #[.val (.ref a1), .val (.ref a2), .val (.double (FP.l2d ((0 : Int64) + x0))), .second, .val (.int (0 : Int32))]) rfl (XS.aloadN X201.here hx rfl (hb hby od_prog_22_m_1_31) rfl rfl k)) ?_
  show Go p e below _ T201 (mkF m 32 #[.val (.ref a1), .val (.ref a2), .val (.double (FP.l2d ((0 : Int64) + x0))), .second, .val (.int (0 : Int32))] [(.ref a1)])
  obtain ⟨T209, X209, e209, st209⟩ := getF X201 hx hZ hown (host := "") (Or.inl (ow11 hw)) Via.refl e201 (F202.same W201) (g := (mkF m 32 #[.val (.ref a1), .val (.ref a2), .val (.double (FP.l2d ((0 : Int64) + x0))), .second, .val (.int (0 : Int32))] [(.ref a1)])) rfl rfl (hb hby od_prog_22_m_1_32)
  refine Go.by st209 ?_
  show Go p e below _ T209 (mkF m 35 #[.val (.ref a1), .val (.ref a2), .val (.double (FP.l2d ((0 : Int64) + x0))), .second, .val (.int (0 : Int32))] [(.ref b199)])
  refine Go.by (fun t k => XS.iload X209.here hx rfl (hb hby od_prog_22_m_1_35) rfl (XS.dloadN X209.here hx rfl (hb hby od_prog_22_m_1_37) rfl k)) ?_
  show Go p e below _ T209 (mkF m 38 #[.val (.ref a1), .val (.ref a2), .val (.double (FP.l2d ((0 : Int64) + x0))), .second, .val (.int (0 : Int32))] [(.double (FP.l2d ((0 : Int64) + x0))), (.int (0 : Int32)), (.ref b199)])
  have F211 : Arv Z h201 b199 k199 .double (4 : Int32) ([(.double (FP.l2d 0)), (.double (FP.l2d 0)), (.double (FP.l2d 0)), (.double (FP.l2d 0))]) (.double (FP.l2d 0)) := (V199.other W201 (Ne.symm (Nat.ne_of_lt (Nat.lt_of_lt_of_le E1.lt (Nat.le_of_eq g199.symm)))))
  obtain ⟨c210, A210, q210, S210, M210, G210, J210⟩ := id F211
  obtain ⟨T210, h210, X210, e210, W210, st210⟩ := stD X209 hx hZ e209 A210 (j := (0 : Int32)) (inb_of S210 ⟨by decide, by decide⟩) (g := (mkF m 38 #[.val (.ref a1), .val (.ref a2), .val (.double (FP.l2d ((0 : Int64) + x0))), .second, .val (.int (0 : Int32))] [(.double (FP.l2d ((0 : Int64) + x0))), (.int (0 : Int32)), (.ref b199)])) rfl rfl (hb hby od_prog_22_m_1_38)
  refine Go.by st210 ?_
  have N210 := Fr.snoc X210 N201 (Nat.le_trans (Nat.le_trans Z0 (Nat.le_refl _)) (Nat.le_of_eq g199.symm))
  have K212 : Keep h0 h210 [a1] := K204.wr W210 (Or.inr (Nat.le_trans (Nat.le_refl _) (Nat.le_of_eq g199.symm)))
  show Go p e below _ T210 (mkF m 39 #[.val (.ref a1), .val (.ref a2), .val (.double (FP.l2d ((0 : Int64) + x0))), .second, .val (.int (0 : Int32))] [])
  have V210 : Arv Z h210 b199 k199 .double (4 : Int32) ([(.double (FP.l2d ((0 : Int64) + x0))), (.double (FP.l2d 0)), (.double (FP.l2d 0)), (.double (FP.l2d 0))]) (.double (FP.l2d 0)) := Arv.set A210 q210 S210 M210 G210 J210 rfl W210 0 rfl (Nat.le_of_ble_eq_true rfl)
  refine Go.by (fun t k => XS.iinc X210.here hx rfl (hb hby od_prog_22_m_1_39) rfl (l' := #[.val (.ref a1), .val (.ref a2), .val (.double (FP.l2d ((0 : Int64) + x0))), .second, .val (.int (1 : Int32))]) rfl (XS.goto X210.here hx rfl (pc0 := 42) (pc' := 17) rfl (hb hby od_prog_22_m_1_42) (by decide) (by decide) (XS.iload X210.here hx rfl (hb hby od_prog_22_m_1_17) rfl (XS.aloadN X210.here hx rfl (hb hby od_prog_22_m_1_19) rfl rfl k)))) ?_
  show Go p e below _ T210 (mkF m 20 #[.val (.ref a1), .val (.ref a2), .val (.double (FP.l2d ((0 : Int64) + x0))), .second, .val (.int (1 : Int32))] [(.ref a2), (.int (1 : Int32))])
  have F214 : Arv Z h210 a2 k2 .double (4 : Int32) ([(.double (FP.l2d x0)), (.double (FP.l2d x1)), (.double (FP.l2d x2)), (.double (FP.l2d x3))]) (.double (FP.l2d 0)) := (F206.other W210 (Nat.ne_of_lt (Nat.lt_of_lt_of_le V2.lt (Nat.le_of_eq g199.symm))))
  obtain ⟨c213, A213, q213, S213, M213, G213, J213⟩ := id F214
  have l213 := len_of S213 M213
  refine Go.by (X210.arraylength hx (by rw [e210]; exact A213.1) (State.isArrayOf_alike hZ.alike A213.2.1) (g := (mkF m 20 #[.val (.ref a1), .val (.ref a2), .val (.double (FP.l2d ((0 : Int64) + x0))), .second, .val (.int (1 : Int32))] [(.ref a2), (.int (1 : Int32))])) rfl rfl (hb hby od_prog_22_m_1_20)) ?_
  rw [l213]
  show Go p e below _ T210 (mkF m 21 #[.val (.ref a1), .val (.ref a2), .val (.double (FP.l2d ((0 : Int64) + x0))), .second, .val (.int (1 : Int32))] [(.int (4 : Int32)), (.int (1 : Int32))])
  refine Go.by (fun t k => XS.icmpNo X210.here hx rfl (hb hby od_prog_22_m_1_21) rfl (tlt (show (1 : Int32) < (4 : Int32) from (by decide))).2.1 k) ?_
  show Go p e below _ T210 (mkF m 24 #[.val (.ref a1), .val (.ref a2), .val (.double (FP.l2d ((0 : Int64) + x0))), .second, .val (.int (1 : Int32))] [])
  refine Go.by (fun t k => XS.dloadN X210.here hx rfl (hb hby od_prog_22_m_1_24) rfl (XS.aloadN X210.here hx rfl (hb hby od_prog_22_m_1_25) rfl rfl (XS.iload X210.here hx rfl (hb hby od_prog_22_m_1_26) rfl k))) ?_
  show Go p e below _ T210 (mkF m 28 #[.val (.ref a1), .val (.ref a2), .val (.double (FP.l2d ((0 : Int64) + x0))), .second, .val (.int (1 : Int32))] [(.int (1 : Int32)), (.ref a2), (.double (FP.l2d ((0 : Int64) + x0)))])
  obtain ⟨c215, A215, q215, S215, M215, G215, J215⟩ := id F214
  have i215 := inb_of S215 (j := (1 : Int32)) ⟨by decide, by decide⟩
  refine Go.by (X210.daload hx (j := (1 : Int32)) (v := (.double (FP.l2d x1))) (by rw [e210]; exact A215.1) (State.isArrayOf_alike hZ.alike A215.2.1) A215.2.2 i215 (G215.at i215 rfl) (g := (mkF m 28 #[.val (.ref a1), .val (.ref a2), .val (.double (FP.l2d ((0 : Int64) + x0))), .second, .val (.int (1 : Int32))] [(.int (1 : Int32)), (.ref a2), (.double (FP.l2d ((0 : Int64) + x0)))])) rfl rfl (hb hby od_prog_22_m_1_28)) ?_
  show Go p e below _ T210 (mkF m 29 #[.val (.ref a1), .val (.ref a2), .val (.double (FP.l2d ((0 : Int64) + x0))), .second, .val (.int (1 : Int32))] [(.double (FP.l2d x1)), (.double (FP.l2d ((0 : Int64) + x0)))])
  have q216 : FP.dadd (FP.l2d ((0 : Int64) + x0)) (FP.l2d x1) = (FP.l2d (((0 : Int64) + x0) + x1)) := dadd_w (J1.b (by decide)) (I1.b (by decide))
  refine Go.by (fun t k => XS.daddS X210.here hx rfl (hb hby od_prog_22_m_1_29) rfl (nn_w q216) q216 k) ?_
  show Go p e below _ T210 (mkF m 30 #[.val (.ref a1), .val (.ref a2), .val (.double (FP.l2d ((0 : Int64) + x0))), .second, .val (.int (1 : Int32))] [(.double (FP.l2d (((0 : Int64) + x0) + x1)))])
  have J2 : In 4294967294 (((0 : Int64) + x0) + x1) := J1.add I1 (by decide) (by decide)
  refine Go.by (fun t k => XS.dstoreN X210.here hx rfl (hb hby od_prog_22_m_1_30) rfl (l' := #[.val (.ref a1), .val (.ref a2), .val (.double (FP.l2d (((0 : Int64) + x0) + x1))), .second, .val (.int (1 : Int32))]) rfl (XS.aloadN X210.here hx rfl (hb hby od_prog_22_m_1_31) rfl rfl k)) ?_
  show Go p e below _ T210 (mkF m 32 #[.val (.ref a1), .val (.ref a2), .val (.double (FP.l2d (((0 : Int64) + x0) + x1))), .second, .val (.int (1 : Int32))] [(.ref a1)])
  have F218 : Fld Z h210 a1 "com/example/shardpick/shardpick/generate/WeightedDraw" "ends" "[D" (.ref b199) := ((F202.same W201).other W210 (Or.inl (Nat.ne_of_lt (Nat.lt_of_lt_of_le E1.lt (Nat.le_of_eq g199.symm)))))
  obtain ⟨T217, X217, e217, st217⟩ := getF X210 hx hZ hown (host := "") (Or.inl (ow11 hw)) Via.refl e210 F218 (g := (mkF m 32 #[.val (.ref a1), .val (.ref a2), .val (.double (FP.l2d (((0 : Int64) + x0) + x1))), .second, .val (.int (1 : Int32))] [(.ref a1)])) rfl rfl (hb hby od_prog_22_m_1_32)
  refine Go.by st217 ?_
  show Go p e below _ T217 (mkF m 35 #[.val (.ref a1), .val (.ref a2), .val (.double (FP.l2d (((0 : Int64) + x0) + x1))), .second, .val (.int (1 : Int32))] [(.ref b199)])
  refine Go.by (fun t k => XS.iload X217.here hx rfl (hb hby od_prog_22_m_1_35) rfl (XS.dloadN X217.here hx rfl (hb hby od_prog_22_m_1_37) rfl k)) ?_
  show Go p e below _ T217 (mkF m 38 #[.val (.ref a1), .val (.ref a2), .val (.double (FP.l2d (((0 : Int64) + x0) + x1))), .second, .val (.int (1 : Int32))] [(.double (FP.l2d (((0 : Int64) + x0) + x1))), (.int (1 : Int32)), (.ref b199)])
  obtain ⟨c219, A219, q219, S219, M219, G219, J219⟩ := id V210
  obtain ⟨T219, h219, X219, e219, W219, st219⟩ := stD X217 hx hZ e217 A219 (j := (1 : Int32)) (inb_of S219 ⟨by decide, by decide⟩) (g := (mkF m 38 #[.val (.ref a1), .val (.ref a2), .val (.double (FP.l2d (((0 : Int64) + x0) + x1))), .second, .val (.int (1 : Int32))] [(.double (FP.l2d (((0 : Int64) + x0) + x1))), (.int (1 : Int32)), (.ref b199)])) rfl rfl (hb hby od_prog_22_m_1_38)
  refine Go.by st219 ?_
  have N219 := Fr.snoc X219 N210 (Nat.le_trans (Nat.le_trans Z0 (Nat.le_refl _)) (Nat.le_of_eq g199.symm))
  have K220 : Keep h0 h219 [a1] := K212.wr W219 (Or.inr (Nat.le_trans (Nat.le_refl _) (Nat.le_of_eq g199.symm)))
  show Go p e below _ T219 (mkF m 39 #[.val (.ref a1), .val (.ref a2), .val (.double (FP.l2d (((0 : Int64) + x0) + x1))), .second, .val (.int (1 : Int32))] [])
  have V219 : Arv Z h219 b199 k199 .double (4 : Int32) ([(.double (FP.l2d ((0 : Int64) + x0))), (.double (FP.l2d (((0 : Int64) + x0) + x1))), (.double (FP.l2d 0)), (.double (FP.l2d 0))]) (.double (FP.l2d 0)) := Arv.set A219 q219 S219 M219 G219 J219 rfl W219 1 rfl (Nat.le_of_ble_eq_true rfl)
  refine Go.by (fun t k => XS.iinc X219.here hx rfl (hb hby od_prog_22_m_1_39) rfl (l' := #[.val (.ref a1), .val (.ref a2), .val (.double (FP.l2d (((0 : Int64) + x0) + x1))), .second, .val (.int (2 : Int32))]) rfl (XS.goto X219.here hx rfl (pc0 := 42) (pc' := 17) rfl (hb hby od_prog_22_m_1_42) (by decide) (by decide) (XS.iload X219.here hx rfl (hb hby od_prog_22_m_1_17) rfl (XS.aloadN X219.here hx rfl (hb hby od_prog_22_m_1_19) rfl rfl k)))) ?_
  show Go p e below _ T219 (mkF m 20 #[.val (.ref a1), .val (.ref a2), .val (.double (FP.l2d (((0 : Int64) + x0) + x1))), .second, .val (.int (2 : Int32))] [(.ref a2), (.int (2 : Int32))])
  have F222 : Arv Z h219 a2 k2 .double (4 : Int32) ([(.double (FP.l2d x0)), (.double (FP.l2d x1)), (.double (FP.l2d x2)), (.double (FP.l2d x3))]) (.double (FP.l2d 0)) := (F214.other W219 (Nat.ne_of_lt (Nat.lt_of_lt_of_le V2.lt (Nat.le_of_eq g199.symm))))
  obtain ⟨c221, A221, q221, S221, M221, G221, J221⟩ := id F222
  have l221 := len_of S221 M221
  refine Go.by (X219.arraylength hx (by rw [e219]; exact A221.1) (State.isArrayOf_alike hZ.alike A221.2.1) (g := (mkF m 20 #[.val (.ref a1), .val (.ref a2), .val (.double (FP.l2d (((0 : Int64) + x0) + x1))), .second, .val (.int (2 : Int32))] [(.ref a2), (.int (2 : Int32))])) rfl rfl (hb hby od_prog_22_m_1_20)) ?_
  rw [l221]
  show Go p e below _ T219 (mkF m 21 #[.val (.ref a1), .val (.ref a2), .val (.double (FP.l2d (((0 : Int64) + x0) + x1))), .second, .val (.int (2 : Int32))] [(.int (4 : Int32)), (.int (2 : Int32))])
  refine Go.by (fun t k => XS.icmpNo X219.here hx rfl (hb hby od_prog_22_m_1_21) rfl (tlt (show (2 : Int32) < (4 : Int32) from (by decide))).2.1 k) ?_
  show Go p e below _ T219 (mkF m 24 #[.val (.ref a1), .val (.ref a2), .val (.double (FP.l2d (((0 : Int64) + x0) + x1))), .second, .val (.int (2 : Int32))] [])
  refine Go.by (fun t k => XS.dloadN X219.here hx rfl (hb hby od_prog_22_m_1_24) rfl (XS.aloadN X219.here hx rfl (hb hby od_prog_22_m_1_25) rfl rfl (XS.iload X219.here hx rfl (hb hby od_prog_22_m_1_26) rfl k))) ?_
  show Go p e below _ T219 (mkF m 28 #[.val (.ref a1), .val (.ref a2), .val (.double (FP.l2d (((0 : Int64) + x0) + x1))), .second, .val (.int (2 : Int32))] [(.int (2 : Int32)), (.ref a2), (.double (FP.l2d (((0 : Int64) + x0) + x1)))])
  obtain ⟨c223, A223, q223, S223, M223, G223, J223⟩ := id F222
  have i223 := inb_of S223 (j := (2 : Int32)) ⟨by decide, by decide⟩
  refine Go.by (X219.daload hx (j := (2 : Int32)) (v := (.double (FP.l2d x2))) (by rw [e219]; exact A223.1) (State.isArrayOf_alike hZ.alike A223.2.1) A223.2.2 i223 (G223.at i223 rfl) (g := (mkF m 28 #[.val (.ref a1), .val (.ref a2), .val (.double (FP.l2d (((0 : Int64) + x0) + x1))), .second, .val (.int (2 : Int32))] [(.int (2 : Int32)), (.ref a2), (.double (FP.l2d (((0 : Int64) + x0) + x1)))])) rfl rfl (hb hby od_prog_22_m_1_28)) ?_
  show Go p e below _ T219 (mkF m 29 #[.val (.ref a1), .val (.ref a2), .val (.double (FP.l2d (((0 : Int64) + x0) + x1))), .second, .val (.int (2 : Int32))] [(.double (FP.l2d x2)), (.double (FP.l2d (((0 : Int64) + x0) + x1)))])
  have q224 : FP.dadd (FP.l2d (((0 : Int64) + x0) + x1)) (FP.l2d x2) = (FP.l2d ((((0 : Int64) + x0) + x1) + x2)) := dadd_w (J2.b (by decide)) (I2.b (by decide))
  refine Go.by (fun t k => XS.daddS X219.here hx rfl (hb hby od_prog_22_m_1_29) rfl (nn_w q224) q224 k) ?_
  show Go p e below _ T219 (mkF m 30 #[.val (.ref a1), .val (.ref a2), .val (.double (FP.l2d (((0 : Int64) + x0) + x1))), .second, .val (.int (2 : Int32))] [(.double (FP.l2d ((((0 : Int64) + x0) + x1) + x2)))])
  have J3 : In 6442450941 ((((0 : Int64) + x0) + x1) + x2) := J2.add I2 (by decide) (by decide)
  refine Go.by (fun t k => XS.dstoreN X219.here hx rfl (hb hby od_prog_22_m_1_30) rfl (l' := #[.val (.ref a1), .val (.ref a2), .val (.double (FP.l2d ((((0 : Int64) + x0) + x1) + x2))), .second, .val (.int (2 : Int32))]) rfl (XS.aloadN X219.here hx rfl (hb hby od_prog_22_m_1_31) rfl rfl k)) ?_
  show Go p e below _ T219 (mkF m 32 #[.val (.ref a1), .val (.ref a2), .val (.double (FP.l2d ((((0 : Int64) + x0) + x1) + x2))), .second, .val (.int (2 : Int32))] [(.ref a1)])
  have F226 : Fld Z h219 a1 "com/example/shardpick/shardpick/generate/WeightedDraw" "ends" "[D" (.ref b199) := (F218.other W219 (Or.inl (Nat.ne_of_lt (Nat.lt_of_lt_of_le E1.lt (Nat.le_of_eq g199.symm)))))
  obtain ⟨T225, X225, e225, st225⟩ := getF X219 hx hZ hown (host := "") (Or.inl (ow11 hw)) Via.refl e219 F226 (g := (mkF m 32 #[.val (.ref a1), .val (.ref a2), .val (.double (FP.l2d ((((0 : Int64) + x0) + x1) + x2))), .second, .val (.int (2 : Int32))] [(.ref a1)])) rfl rfl (hb hby od_prog_22_m_1_32)
  refine Go.by st225 ?_
  show Go p e below _ T225 (mkF m 35 #[.val (.ref a1), .val (.ref a2), .val (.double (FP.l2d ((((0 : Int64) + x0) + x1) + x2))), .second, .val (.int (2 : Int32))] [(.ref b199)])
  refine Go.by (fun t k => XS.iload X225.here hx rfl (hb hby od_prog_22_m_1_35) rfl (XS.dloadN X225.here hx rfl (hb hby od_prog_22_m_1_37) rfl k)) ?_
  show Go p e below _ T225 (mkF m 38 #[.val (.ref a1), .val (.ref a2), .val (.double (FP.l2d ((((0 : Int64) + x0) + x1) + x2))), .second, .val (.int (2 : Int32))] [(.double (FP.l2d ((((0 : Int64) + x0) + x1) + x2))), (.int (2 : Int32)), (.ref b199)])
  obtain ⟨c227, A227, q227, S227, M227, G227, J227⟩ := id V219
  obtain ⟨T227, h227, X227, e227, W227, st227⟩ := stD X225 hx hZ e225 A227 (j := (2 : Int32)) (inb_of S227 ⟨by decide, by decide⟩) (g := (mkF m 38 #[.val (.ref a1), .val (.ref a2), .val (.double (FP.l2d ((((0 : Int64) + x0) + x1) + x2))), .second, .val (.int (2 : Int32))] [(.double (FP.l2d ((((0 : Int64) + x0) + x1) + x2))), (.int (2 : Int32)), (.ref b199)])) rfl rfl (hb hby od_prog_22_m_1_38)
  refine Go.by st227 ?_
  have N227 := Fr.snoc X227 N219 (Nat.le_trans (Nat.le_trans Z0 (Nat.le_refl _)) (Nat.le_of_eq g199.symm))
  have K228 : Keep h0 h227 [a1] := K220.wr W227 (Or.inr (Nat.le_trans (Nat.le_refl _) (Nat.le_of_eq g199.symm)))
  show Go p e below _ T227 (mkF m 39 #[.val (.ref a1), .val (.ref a2), .val (.double (FP.l2d ((((0 : Int64) + x0) + x1) + x2))), .second, .val (.int (2 : Int32))] [])
  have V227 : Arv Z h227 b199 k199 .double (4 : Int32) ([(.double (FP.l2d ((0 : Int64) + x0))), (.double (FP.l2d (((0 : Int64) + x0) + x1))), (.double (FP.l2d ((((0 : Int64) + x0) + x1) + x2))), (.double (FP.l2d 0))]) (.double (FP.l2d 0)) := Arv.set A227 q227 S227 M227 G227 J227 rfl W227 2 rfl (Nat.le_of_ble_eq_true rfl)
  refine Go.by (fun t k => XS.iinc X227.here hx rfl (hb hby od_prog_22_m_1_39) rfl (l' := #[.val (.ref a1), .val (.ref a2), .val (.double (FP.l2d ((((0 : Int64) + x0) + x1) + x2))), .second, .val (.int (3 : Int32))]) rfl (XS.goto X227.here hx rfl (pc0 := 42) (pc' := 17) rfl (hb hby od_prog_22_m_1_42) (by decide) (by decide) (XS.iload X227.here hx rfl (hb hby od_prog_22_m_1_17) rfl (XS.aloadN X227.here hx rfl (hb hby od_prog_22_m_1_19) rfl rfl k)))) ?_
  show Go p e below _ T227 (mkF m 20 #[.val (.ref a1), .val (.ref a2), .val (.double (FP.l2d ((((0 : Int64) + x0) + x1) + x2))), .second, .val (.int (3 : Int32))] [(.ref a2), (.int (3 : Int32))])
  have F230 : Arv Z h227 a2 k2 .double (4 : Int32) ([(.double (FP.l2d x0)), (.double (FP.l2d x1)), (.double (FP.l2d x2)), (.double (FP.l2d x3))]) (.double (FP.l2d 0)) := (F222.other W227 (Nat.ne_of_lt (Nat.lt_of_lt_of_le V2.lt (Nat.le_of_eq g199.symm))))
  obtain ⟨c229, A229, q229, S229, M229, G229, J229⟩ := id F230
  have l229 := len_of S229 M229
  refine Go.by (X227.arraylength hx (by rw [e227]; exact A229.1) (State.isArrayOf_alike hZ.alike A229.2.1) (g := (mkF m 20 #[.val (.ref a1), .val (.ref a2), .val (.double (FP.l2d ((((0 : Int64) + x0) + x1) + x2))), .second, .val (.int (3 : Int32))] [(.ref a2), (.int (3 : Int32))])) rfl rfl (hb hby od_prog_22_m_1_20)) ?_
  rw [l229]
  show Go p e below _ T227 (mkF m 21 #[.val (.ref a1), .val (.ref a2), .val (.double (FP.l2d ((((0 : Int64) + x0) + x1) + x2))), .second, .val (.int (3 : Int32))] [(.int (4 : Int32)), (.int (3 : Int32))])
  refine Go.by (fun t k => XS.icmpNo X227.here hx rfl (hb hby od_prog_22_m_1_21) rfl (tlt (show (3 : Int32) < (4 : Int32) from (by decide))).2.1 k) ?_
  show Go p e below _ T227 (mkF m 24 #[.val (.ref a1), .val (.ref a2), .val (.double (FP.l2d ((((0 : Int64) + x0) + x1) + x2))), .second, .val (.int (3 : Int32))] [])
  refine Go.by (fun t k => XS.dloadN X227.here hx rfl (hb hby od_prog_22_m_1_24) rfl (XS.aloadN X227.here hx rfl (hb hby od_prog_22_m_1_25) rfl rfl (XS.iload X227.here hx rfl (hb hby od_prog_22_m_1_26) rfl k))) ?_
  show Go p e below _ T227 (mkF m 28 #[.val (.ref a1), .val (.ref a2), .val (.double (FP.l2d ((((0 : Int64) + x0) + x1) + x2))), .second, .val (.int (3 : Int32))] [(.int (3 : Int32)), (.ref a2), (.double (FP.l2d ((((0 : Int64) + x0) + x1) + x2)))])
  obtain ⟨c231, A231, q231, S231, M231, G231, J231⟩ := id F230
  have i231 := inb_of S231 (j := (3 : Int32)) ⟨by decide, by decide⟩
  refine Go.by (X227.daload hx (j := (3 : Int32)) (v := (.double (FP.l2d x3))) (by rw [e227]; exact A231.1) (State.isArrayOf_alike hZ.alike A231.2.1) A231.2.2 i231 (G231.at i231 rfl) (g := (mkF m 28 #[.val (.ref a1), .val (.ref a2), .val (.double (FP.l2d ((((0 : Int64) + x0) + x1) + x2))), .second, .val (.int (3 : Int32))] [(.int (3 : Int32)), (.ref a2), (.double (FP.l2d ((((0 : Int64) + x0) + x1) + x2)))])) rfl rfl (hb hby od_prog_22_m_1_28)) ?_
  show Go p e below _ T227 (mkF m 29 #[.val (.ref a1), .val (.ref a2), .val (.double (FP.l2d ((((0 : Int64) + x0) + x1) + x2))), .second, .val (.int (3 : Int32))] [(.double (FP.l2d x3)), (.double (FP.l2d ((((0 : Int64) + x0) + x1) + x2)))])
  have q232 : FP.dadd (FP.l2d ((((0 : Int64) + x0) + x1) + x2)) (FP.l2d x3) = (FP.l2d (((((0 : Int64) + x0) + x1) + x2) + x3)) := dadd_w (J3.b (by decide)) (I3.b (by decide))
  refine Go.by (fun t k => XS.daddS X227.here hx rfl (hb hby od_prog_22_m_1_29) rfl (nn_w q232) q232 k) ?_
  show Go p e below _ T227 (mkF m 30 #[.val (.ref a1), .val (.ref a2), .val (.double (FP.l2d ((((0 : Int64) + x0) + x1) + x2))), .second, .val (.int (3 : Int32))] [(.double (FP.l2d (((((0 : Int64) + x0) + x1) + x2) + x3)))])
  have J4 : In 8589934588 (((((0 : Int64) + x0) + x1) + x2) + x3) := J3.add I3 (by decide) (by decide)
  refine Go.by (fun t k => XS.dstoreN X227.here hx rfl (hb hby od_prog_22_m_1_30) rfl (l' := #[.val (.ref a1), .val (.ref a2), .val (.double (FP.l2d (((((0 : Int64) + x0) + x1) + x2) + x3))), .second, .val (.int (3 : Int32))]) rfl (XS.aloadN X227.here hx rfl (hb hby od_prog_22_m_1_31) rfl rfl k)) ?_
  show Go p e below _ T227 (mkF m 32 #[.val (.ref a1), .val (.ref a2), .val (.double (FP.l2d (((((0 : Int64) + x0) + x1) + x2) + x3))), .second, .val (.int (3 : Int32))] [(.ref a1)])
  have F234 : Fld Z h227 a1 "com/example/shardpick/shardpick/generate/WeightedDraw" "ends" "[D" (.ref b199) := (F226.other W227 (Or.inl (Nat.ne_of_lt (Nat.lt_of_lt_of_le E1.lt (Nat.le_of_eq g199.symm)))))
  obtain ⟨T233, X233, e233, st233⟩ := getF X227 hx hZ hown (host := "") (Or.inl (ow11 hw)) Via.refl e227 F234 (g := (mkF m 32 #[.val (.ref a1), .val (.ref a2), .val (.double (FP.l2d (((((0 : Int64) + x0) + x1) + x2) + x3))), .second, .val (.int (3 : Int32))] [(.ref a1)])) rfl rfl (hb hby od_prog_22_m_1_32)
  refine Go.by st233 ?_
  show Go p e below _ T233 (mkF m 35 #[.val (.ref a1), .val (.ref a2), .val (.double (FP.l2d (((((0 : Int64) + x0) + x1) + x2) + x3))), .second, .val (.int (3 : Int32))] [(.ref b199)])
  refine Go.by (fun t k => XS.iload X233.here hx rfl (hb hby od_prog_22_m_1_35) rfl (XS.dloadN X233.here hx rfl (hb hby od_prog_22_m_1_37) rfl k)) ?_
  show Go p e below _ T233 (mkF m 38 #[.val (.ref a1), .val (.ref a2), .val (.double (FP.l2d (((((0 : Int64) + x0) + x1) + x2) + x3))), .second, .val (.int (3 : Int32))] [(.double (FP.l2d (((((0 : Int64) + x0) + x1) + x2) + x3))), (.int (3 : Int32)), (.ref b199)])
  obtain ⟨c235, A235, q235, S235, M235, G235, J235⟩ := id V227
  obtain ⟨T235, h235, X235, e235, W235, st235⟩ := stD X233 hx hZ e233 A235 (j := (3 : Int32)) (inb_of S235 ⟨by decide, by decide⟩) (g := (mkF m 38 #[.val (.ref a1), .val (.ref a2), .val (.double (FP.l2d (((((0 : Int64) + x0) + x1) + x2) + x3))), .second, .val (.int (3 : Int32))] [(.double (FP.l2d (((((0 : Int64) + x0) + x1) + x2) + x3))), (.int (3 : Int32)), (.ref b199)])) rfl rfl (hb hby od_prog_22_m_1_38)
  refine Go.by st235 ?_
  have N235 := Fr.snoc X235 N227 (Nat.le_trans (Nat.le_trans Z0 (Nat.le_refl _)) (Nat.le_of_eq g199.symm))
  have K236 : Keep h0 h235 [a1] := K228.wr W235 (Or.inr (Nat.le_trans (Nat.le_refl _) (Nat.le_of_eq g199.symm)))
  show Go p e below _ T235 (mkF m 39 #[.val (.ref a1), .val (.ref a2), .val (.double (FP.l2d (((((0 : Int64) + x0) + x1) + x2) + x3))), .second, .val (.int (3 : Int32))] [])
  have V235 : Arv Z h235 b199 k199 .double (4 : Int32) ([(.double (FP.l2d ((0 : Int64) + x0))), (.double (FP.l2d (((0 : Int64) + x0) + x1))), (.double (FP.l2d ((((0 : Int64) + x0) + x1) + x2))), (.double (FP.l2d (((((0 : Int64) + x0) + x1) + x2) + x3)))]) (.double (FP.l2d 0)) := Arv.set A235 q235 S235 M235 G235 J235 rfl W235 3 rfl (Nat.le_of_ble_eq_true rfl)
  refine Go.by (fun t k => XS.iinc X235.here hx rfl (hb hby od_prog_22_m_1_39) rfl (l' := #[.val (.ref a1), .val (.ref a2), .val (.double (FP.l2d (((((0 : Int64) + x0) + x1) + x2) + x3))), .second, .val (.int (4 : Int32))]) rfl (XS.goto X235.here hx rfl (pc0 := 42) (pc' := 17) rfl (hb hby od_prog_22_m_1_42) (by decide) (by decide) (XS.iload X235.here hx rfl (hb hby od_prog_22_m_1_17) rfl (XS.aloadN X235.here hx rfl (hb hby od_prog_22_m_1_19) rfl rfl k)))) ?_
  show Go p e below _ T235 (mkF m 20 #[.val (.ref a1), .val (.ref a2), .val (.double (FP.l2d (((((0 : Int64) + x0) + x1) + x2) + x3))), .second, .val (.int (4 : Int32))] [(.ref a2), (.int (4 : Int32))])
  have F238 : Arv Z h235 a2 k2 .double (4 : Int32) ([(.double (FP.l2d x0)), (.double (FP.l2d x1)), (.double (FP.l2d x2)), (.double (FP.l2d x3))]) (.double (FP.l2d 0)) := (F230.other W235 (Nat.ne_of_lt (Nat.lt_of_lt_of_le V2.lt (Nat.le_of_eq g199.symm))))
  obtain ⟨c237, A237, q237, S237, M237, G237, J237⟩ := id F238
  have l237 := len_of S237 M237
  refine Go.by (X235.arraylength hx (by rw [e235]; exact A237.1) (State.isArrayOf_alike hZ.alike A237.2.1) (g := (mkF m 20 #[.val (.ref a1), .val (.ref a2), .val (.double (FP.l2d (((((0 : Int64) + x0) + x1) + x2) + x3))), .second, .val (.int (4 : Int32))] [(.ref a2), (.int (4 : Int32))])) rfl rfl (hb hby od_prog_22_m_1_20)) ?_
  rw [l237]
  show Go p e below _ T235 (mkF m 21 #[.val (.ref a1), .val (.ref a2), .val (.double (FP.l2d (((((0 : Int64) + x0) + x1) + x2) + x3))), .second, .val (.int (4 : Int32))] [(.int (4 : Int32)), (.int (4 : Int32))])
  refine Go.by (fun t k => XS.icmpYes X235.here hx rfl (pc0 := 21) (pc' := 45) rfl (hb hby od_prog_22_m_1_21) rfl (flt (show ¬ ((4 : Int32) < (4 : Int32)) from (by decide))).2.1 (by decide) (by decide) k) ?_
  show Go p e below _ T235 (mkF m 45 #[.val (.ref a1), .val (.ref a2), .val (.double (FP.l2d (((((0 : Int64) + x0) + x1) + x2) + x3))), .second, .val (.int (4 : Int32))] [])
  have F239 : Exa Z h235 a1 "com/example/shardpick/shardpick/generate/WeightedDraw" := (((((F203.wr W201).wr W210).wr W219).wr W227).wr W235)
  have F240 : Fld Z h235 a1 "com/example/shardpick/shardpick/generate/WeightedDraw" "ends" "[D" (.ref b199) := (F234.other W235 (Or.inl (Nat.ne_of_lt (Nat.lt_of_lt_of_le E1.lt (Nat.le_of_eq g199.symm)))))
  exact Go.ret0 X235 hx hret hlk (hb hby od_prog_22_m_1_45) (by first | (rw [e235]; exact ⟨b199, k199, rfl, N235, K236, F239, F240, V235⟩) | exact ⟨b199, k199, rfl, N235, K236, F239, F240, V235⟩) (by decide) (by decide)
def Q_tot4 (Z : State) (a1 : Addr) (bt : Addr) (kt : ClassId) (x0 : Int64) (x1 : Int64) (x2 : Int64) (x3 : Int64) (h0 : Heap) (n0 : Nat) (v : Option Value) (h : Heap) (L : List Loc) : Prop := v = some (.double (FP.l2d x3)) ∧ Fr n0 L ∧ h = h0
set_option maxRecDepth 65536 in
set_option maxHeartbeats 40000000 in
theorem rm_tot4 (l : Launch) (Z : State) (a0 : Array Value) (hw : HW a0 Z) (ws : List Jvm.Cond) (a1 : Addr) (bt : Addr) (kt : ClassId) (x0 : Int64) (x1 : Int64) (x2 : Int64) (x3 : Int64) (h0 : Heap) (n0 : Nat) (Z0 : n0 ≤ h0.size) (F1 : Fld Z h0 a1 "com/example/shardpick/shardpick/generate/WeightedDraw" "ends" "[D" (.ref bt)) (V2 : Arv Z h0 bt kt .double (4 : Int32) ([(.double (FP.l2d x0)), (.double (FP.l2d x1)), (.double (FP.l2d x2)), (.double (FP.l2d x3))]) (.double (FP.l2d 0))) :
    MetFree l (⟨"com/example/shardpick/shardpick/generate/WeightedDraw", "total", "()D"⟩ : MethodName) (head1 (Jvm.Cond.code (⟨"com/example/shardpick/shardpick/generate/WeightedDraw", "total", "()D"⟩ : MethodName) prog_22_method_2_code 1 (Option.some Jvm.ClassFile.FieldType.double) :: ws) ({ frames := 0, cells := 0, slots := 0, locals := 0 } : Room)) (fun a U => a = #[(.ref a1)] ∧ Z.Warmed39 U.vm ∧ U.heap = h0) (fun _ _ _ _ _ => True) (fun _ U o U' => Out U (Q_tot4 Z a1 bt kt x0 x1 x2 x3 h0 n0) ({ frames := 0, cells := 0, slots := 0, locals := 0 } : Room).cells ({ frames := 0, cells := 0, slots := 0, locals := 0 } : Room).slots o U') := by
  refine MetFree.of_bodySF (plainFor_of_name opn_0) hisR ?_
  intro p e s m args below meth c s₁ Bd hml0 hP hK
  obtain ⟨rfl, hZ, hh⟩ := hP
  have hx := Bd.exec
  have hby := Bd.bytes
  have hml : c.maxLocals = 1 := hml0
  have hret := Bd.returns
  have hlk : meth.locks = false := BodyLoose.notSynchronized Bd
  have hown : s.vm.findClass "com/example/shardpick/shardpick/generate/WeightedDraw" = some m.cls := findClass_of_methodNamed Bd.named
  have hnm := (name_of_methodNamed Bd.named Bd.method).1
  have X0 : Stand p l e ({ frames := 0, cells := 0, slots := 0, locals := 0 } : Room) s m #[(.ref a1)] below meth c s₁ [] 0 0 := Stand.of_body Bd
  have e0 : s₁.heap = h0 := by rw [← hh, Bd.state]; rfl
  have N0 := Fr.nil n0
  show Go p e below (Out s (Q_tot4 Z a1 bt kt x0 x1 x2 x3 h0 n0) ({ frames := 0, cells := 0, slots := 0, locals := 0 } : Room).cells ({ frames := 0, cells := 0, slots := 0, locals := 0 } : Room).slots) s₁ (entryFrame m #[(.ref a1)] 1)
  refine Go.cast (oef_tot4 m a1) ?_
  show Go p e below _ s₁ (mkF m 0 #[.val (.ref a1)] [])
  refine Go.by (fun t k => XS.aloadN X0.here hx rfl (hb hby od_prog_22_m_2_0) rfl rfl k) ?_
  show Go p e below _ s₁ (mkF m 1 #[.val (.ref a1)] [(.ref a1)])
  obtain ⟨T241, X241, e241, st241⟩ := getF X0 hx hZ hown (host := "") (Or.inl (ow11 hw)) Via.refl e0 F1 (g := (mkF m 1 #[.val (.ref a1)] [(.ref a1)])) rfl rfl (hb hby od_prog_22_m_2_1)
  refine Go.by st241 ?_
  show Go p e below _ T241 (mkF m 4 #[.val (.ref a1)] [(.ref bt)])
  refine Go.by (fun t k => XS.aloadN X241.here hx rfl (hb hby od_prog_22_m_2_4) rfl rfl k) ?_
  show Go p e below _ T241 (mkF m 5 #[.val (.ref a1)] [(.ref a1), (.ref bt)])
  obtain ⟨T242, X242, e242, st242⟩ := getF X241 hx hZ hown (host := "") (Or.inl (ow11 hw)) Via.refl e241 F1 (g := (mkF m 5 #[.val (.ref a1)] [(.ref a1), (.ref bt)])) rfl rfl (hb hby od_prog_22_m_2_5)
  refine Go.by st242 ?_
  show Go p e below _ T242 (mkF m 8 #[.val (.ref a1)] [(.ref bt), (.ref bt)])
  obtain ⟨c243, A243, q243, S243, M243, G243, J243⟩ := id V2
  have l243 := len_of S243 M243
  refine Go.by (X242.arraylength hx (by rw [e242]; exact A243.1) (State.isArrayOf_alike hZ.alike A243.2.1) (g := (mkF m 8 #[.val (.ref a1)] [(.ref bt), (.ref bt)])) rfl rfl (hb hby od_prog_22_m_2_8)) ?_
  rw [l243]
  show Go p e below _ T242 (mkF m 9 #[.val (.ref a1)] [(.int (4 : Int32)), (.ref bt)])
  refine Go.by (fun t k => XS.iconst X242.here hx rfl (hb hby od_prog_22_m_2_9) (XS.isub X242.here hx rfl (hb hby od_prog_22_m_2_10) rfl k)) ?_
  show Go p e below _ T242 (mkF m 11 #[.val (.ref a1)] [(.int (3 : Int32)), (.ref bt)])
  obtain ⟨c244, A244, q244, S244, M244, G244, J244⟩ := id V2
  have i244 := inb_of S244 (j := (3 : Int32)) ⟨by decide, by decide⟩
  refine Go.by (X242.daload hx (j := (3 : Int32)) (v := (.double (FP.l2d x3))) (by rw [e242]; exact A244.1) (State.isArrayOf_alike hZ.alike A244.2.1) A244.2.2 i244 (G244.at i244 rfl) (g := (mkF m 11 #[.val (.ref a1)] [(.int (3 : Int32)), (.ref bt)])) rfl rfl (hb hby od_prog_22_m_2_11)) ?_
  show Go p e below _ T242 (mkF m 12 #[.val (.ref a1)] [(.double (FP.l2d x3))])
  exact Go.retD X242 hx hret hlk (hb hby od_prog_22_m_2_12) (by first | (rw [e242]; exact ⟨rfl, N0, rfl⟩) | exact ⟨rfl, N0, rfl⟩) (by decide) (by decide)
def Q_law (Z : State) (i0 : Int32) (i1 : Int32) (i2 : Int32) (i3 : Int32) (i4 : Int32) (h0 : Heap) (n0 : Nat) (v : Option Value) (h : Heap) (L : List Loc) : Prop := v = some (.int (1 : Int32)) ∧ Fr n0 L ∧ Keep h0 h []
set_option maxRecDepth 65536 in
set_option maxHeartbeats 40000000 in
theorem rm_law (l : Launch) (Z : State) (a0 : Array Value) (hw : HW a0 Z) (ws : List Jvm.Cond) (i0 : Int32) (i1 : Int32) (i2 : Int32) (i3 : Int32) (i4 : Int32) (h0 : Heap) (n0 : Nat) (Z0 : n0 ≤ h0.size)  :
    MetFree l x (head1 (Jvm.Cond.code x code maxLocals ret :: ws) room_1) (fun a U => a = #[(.int i0), (.int i1), (.int i2), (.int i3), (.int i4)] ∧ Z.Warmed39 U.vm ∧ U.heap = h0) (fun _ _ _ _ _ => True) (fun _ U o U' => Out U (Q_law Z i0 i1 i2 i3 i4 h0 n0) room_1.cells room_1.slots o U') := by
  refine MetFree.of_bodySF (plainFor_of_name opn_1) hisR ?_
  intro p e s m args below meth c s₁ Bd hml0 hP hK
  obtain ⟨rfl, hZ, hh⟩ := hP
  have hx := Bd.exec
  have hby := Bd.bytes
  have hml : c.maxLocals = 14 := hml0
  have hret := Bd.returns
  have hlk : meth.locks = false := BodyLoose.notSynchronized Bd
  have hown : s.vm.findClass "com/example/shardpick/shardpick/generate/WeightedDrawTotalPinLaw" = some m.cls := findClass_of_methodNamed Bd.named
  have hnm := (name_of_methodNamed Bd.named Bd.method).1
  have X0 : Stand p l e room_1 s m #[(.int i0), (.int i1), (.int i2), (.int i3), (.int i4)] below meth c s₁ [] 0 0 := Stand.of_body Bd
  have e0 : s₁.heap = h0 := by rw [← hh, Bd.state]; rfl
  have N0 := Fr.nil n0
  have K0 : Keep h0 h0 [] := Keep.refl h0 _
  show Go p e below (Out s (Q_law Z i0 i1 i2 i3 i4 h0 n0) room_1.cells room_1.slots) s₁ (entryFrame m #[(.int i0), (.int i1), (.int i2), (.int i3), (.int i4)] maxLocals)
  refine Go.cast (oef_law m i0 i1 i2 i3 i4) ?_
  show Go p e below _ s₁ (mkF m 0 #[.val (.int i0), .val (.int i1), .val (.int i2), .val (.int i3), .val (.int i4), .unset, .unset, .unset, .unset, .unset, .unset, .unset, .unset, .unset] [])
  refine Go.by (fun t k => XS.iconst X0.here hx rfl (hb hby at_0) (XS.iloadN X0.here hx rfl (hb hby at_1) rfl (XS.iconst X0.here hx rfl (hb hby at_2) (XS.iand X0.here hx rfl (hb hby at_3) rfl k)))) ?_
  show Go p e below _ s₁ (mkF m 4 #[.val (.int i0), .val (.int i1), .val (.int i2), .val (.int i3), .val (.int i4), .unset, .unset, .unset, .unset, .unset, .unset, .unset, .unset, .unset] [(.int (i0 &&& (3 : Int32))), (.int (1 : Int32))])
  rcases (mask3 i0 : (i0 &&& (3 : Int32)) = (0 : Int32) ∨ (i0 &&& (3 : Int32)) = (1 : Int32) ∨ (i0 &&& (3 : Int32)) = (2 : Int32) ∨ (i0 &&& (3 : Int32)) = (3 : Int32)) with hk245 | hk245 | hk245 | hk245
  · rw [hk245]
    show Go p e below _ s₁ (mkF m 4 #[.val (.int i0), .val (.int i1), .val (.int i2), .val (.int i3), .val (.int i4), .unset, .unset, .unset, .unset, .unset, .unset, .unset, .unset, .unset] [(.int (0 : Int32)), (.int (1 : Int32))])
    refine Go.by (fun t k => XS.iadd X0.here hx rfl (hb hby at_4) rfl (XS.istore X0.here hx rfl (hb hby at_5) rfl (l' := #[.val (.int i0), .val (.int i1), .val (.int i2), .val (.int i3), .val (.int i4), .val (.int (1 : Int32)), .unset, .unset, .unset, .unset, .unset, .unset, .unset, .unset]) rfl (XS.iloadN X0.here hx rfl (hb hby at_7) rfl k))) ?_
    show Go p e below _ s₁ (mkF m 8 #[.val (.int i0), .val (.int i1), .val (.int i2), .val (.int i3), .val (.int i4), .val (.int (1 : Int32)), .unset, .unset, .unset, .unset, .unset, .unset, .unset, .unset] [(.int i1)])
    refine Go.by (X0.ldcInt hx hown (mvT hZ (ow0 hw)) (g := (mkF m 8 #[.val (.int i0), .val (.int i1), .val (.int i2), .val (.int i3), .val (.int i4), .val (.int (1 : Int32)), .unset, .unset, .unset, .unset, .unset, .unset, .unset, .unset] [(.int i1)])) rfl (hb hby at_8)) ?_
    show Go p e below _ s₁ (mkF m 10 #[.val (.int i0), .val (.int i1), .val (.int i2), .val (.int i3), .val (.int i4), .val (.int (1 : Int32)), .unset, .unset, .unset, .unset, .unset, .unset, .unset, .unset] [(.int (2147483647 : Int32)), (.int i1)])
    refine Go.by (fun t k => XS.iand X0.here hx rfl (hb hby at_10) rfl (XS.istore X0.here hx rfl (hb hby at_11) rfl (l' := #[.val (.int i0), .val (.int i1), .val (.int i2), .val (.int i3), .val (.int i4), .val (.int (1 : Int32)), .val (.int (i1 &&& (2147483647 : Int32))), .unset, .unset, .unset, .unset, .unset, .unset, .unset]) rfl (XS.iloadN X0.here hx rfl (hb hby at_13) rfl k))) ?_
    show Go p e below _ s₁ (mkF m 14 #[.val (.int i0), .val (.int i1), .val (.int i2), .val (.int i3), .val (.int i4), .val (.int (1 : Int32)), .val (.int (i1 &&& (2147483647 : Int32))), .unset, .unset, .unset, .unset, .unset, .unset, .unset] [(.int i2)])
    refine Go.by (X0.ldcInt hx hown (mvT hZ (ow0 hw)) (g := (mkF m 14 #[.val (.int i0), .val (.int i1), .val (.int i2), .val (.int i3), .val (.int i4), .val (.int (1 : Int32)), .val (.int (i1 &&& (2147483647 : Int32))), .unset, .unset, .unset, .unset, .unset, .unset, .unset] [(.int i2)])) rfl (hb hby at_14)) ?_
    show Go p e below _ s₁ (mkF m 16 #[.val (.int i0), .val (.int i1), .val (.int i2), .val (.int i3), .val (.int i4), .val (.int (1 : Int32)), .val (.int (i1 &&& (2147483647 : Int32))), .unset, .unset, .unset, .unset, .unset, .unset, .unset] [(.int (2147483647 : Int32)), (.int i2)])
    refine Go.by (fun t k => XS.iand X0.here hx rfl (hb hby at_16) rfl (XS.istore X0.here hx rfl (hb hby at_17) rfl (l' := #[.val (.int i0), .val (.int i1), .val (.int i2), .val (.int i3), .val (.int i4), .val (.int (1 : Int32)), .val (.int (i1 &&& (2147483647 : Int32))), .val (.int (i2 &&& (2147483647 : Int32))), .unset, .unset, .unset, .unset, .unset, .unset]) rfl (XS.iloadN X0.here hx rfl (hb hby at_19) rfl k))) ?_
    show Go p e below _ s₁ (mkF m 20 #[.val (.int i0), .val (.int i1), .val (.int i2), .val (.int i3), .val (.int i4), .val (.int (1 : Int32)), .val (.int (i1 &&& (2147483647 : Int32))), .val (.int (i2 &&& (2147483647 : Int32))), .unset, .unset, .unset, .unset, .unset, .unset] [(.int i3)])
    refine Go.by (X0.ldcInt hx hown (mvT hZ (ow0 hw)) (g := (mkF m 20 #[.val (.int i0), .val (.int i1), .val (.int i2), .val (.int i3), .val (.int i4), .val (.int (1 : Int32)), .val (.int (i1 &&& (2147483647 : Int32))), .val (.int (i2 &&& (2147483647 : Int32))), .unset, .unset, .unset, .unset, .unset, .unset] [(.int i3)])) rfl (hb hby at_20)) ?_
    show Go p e below _ s₁ (mkF m 22 #[.val (.int i0), .val (.int i1), .val (.int i2), .val (.int i3), .val (.int i4), .val (.int (1 : Int32)), .val (.int (i1 &&& (2147483647 : Int32))), .val (.int (i2 &&& (2147483647 : Int32))), .unset, .unset, .unset, .unset, .unset, .unset] [(.int (2147483647 : Int32)), (.int i3)])
    refine Go.by (fun t k => XS.iand X0.here hx rfl (hb hby at_22) rfl (XS.istore X0.here hx rfl (hb hby at_23) rfl (l' := #[.val (.int i0), .val (.int i1), .val (.int i2), .val (.int i3), .val (.int i4), .val (.int (1 : Int32)), .val (.int (i1 &&& (2147483647 : Int32))), .val (.int (i2 &&& (2147483647 : Int32))), .val (.int (i3 &&& (2147483647 : Int32))), .unset, .unset, .unset, .unset, .unset]) rfl (XS.iload X0.here hx rfl (hb hby at_25) rfl k))) ?_
    show Go p e below _ s₁ (mkF m 27 #[.val (.int i0), .val (.int i1), .val (.int i2), .val (.int i3), .val (.int i4), .val (.int (1 : Int32)), .val (.int (i1 &&& (2147483647 : Int32))), .val (.int (i2 &&& (2147483647 : Int32))), .val (.int (i3 &&& (2147483647 : Int32))), .unset, .unset, .unset, .unset, .unset] [(.int i4)])
    refine Go.by (X0.ldcInt hx hown (mvT hZ (ow0 hw)) (g := (mkF m 27 #[.val (.int i0), .val (.int i1), .val (.int i2), .val (.int i3), .val (.int i4), .val (.int (1 : Int32)), .val (.int (i1 &&& (2147483647 : Int32))), .val (.int (i2 &&& (2147483647 : Int32))), .val (.int (i3 &&& (2147483647 : Int32))), .unset, .unset, .unset, .unset, .unset] [(.int i4)])) rfl (hb hby at_27)) ?_
    show Go p e below _ s₁ (mkF m 29 #[.val (.int i0), .val (.int i1), .val (.int i2), .val (.int i3), .val (.int i4), .val (.int (1 : Int32)), .val (.int (i1 &&& (2147483647 : Int32))), .val (.int (i2 &&& (2147483647 : Int32))), .val (.int (i3 &&& (2147483647 : Int32))), .unset, .unset, .unset, .unset, .unset] [(.int (2147483647 : Int32)), (.int i4)])
    refine Go.by (fun t k => XS.iand X0.here hx rfl (hb hby at_29) rfl (XS.istore X0.here hx rfl (hb hby at_30) rfl (l' := #[.val (.int i0), .val (.int i1), .val (.int i2), .val (.int i3), .val (.int i4), .val (.int (1 : Int32)), .val (.int (i1 &&& (2147483647 : Int32))), .val (.int (i2 &&& (2147483647 : Int32))), .val (.int (i3 &&& (2147483647 : Int32))), .val (.int (i4 &&& (2147483647 : Int32))), .unset, .unset, .unset, .unset]) rfl (XS.iload X0.here hx rfl (hb hby at_32) rfl (XS.i2l X0.here hx rfl (hb hby at_34) rfl k)))) ?_
    show Go p e below _ s₁ (mkF m 35 #[.val (.int i0), .val (.int i1), .val (.int i2), .val (.int i3), .val (.int i4), .val (.int (1 : Int32)), .val (.int (i1 &&& (2147483647 : Int32))), .val (.int (i2 &&& (2147483647 : Int32))), .val (.int (i3 &&& (2147483647 : Int32))), .val (.int (i4 &&& (2147483647 : Int32))), .unset, .unset, .unset, .unset] [(.long ((i1 &&& (2147483647 : Int32)).toInt64))])
    refine Go.by (fun t k => XS.lstore X0.here hx rfl (hb hby at_35) rfl (l' := #[.val (.int i0), .val (.int i1), .val (.int i2), .val (.int i3), .val (.int i4), .val (.int (1 : Int32)), .val (.int (i1 &&& (2147483647 : Int32))), .val (.int (i2 &&& (2147483647 : Int32))), .val (.int (i3 &&& (2147483647 : Int32))), .val (.int (i4 &&& (2147483647 : Int32))), .val (.long ((i1 &&& (2147483647 : Int32)).toInt64)), .second, .unset, .unset]) rfl (XS.iload X0.here hx rfl (hb hby at_37) rfl (XS.iconst X0.here hx rfl (hb hby at_39) (XS.icmpYes X0.here hx rfl (pc0 := 40) (pc' := 51) rfl (hb hby at_40) rfl (tlt (show (1 : Int32) < (2 : Int32) from (by decide))).1 (by decide) (by decide) k)))) ?_
    show Go p e below _ s₁ (mkF m 51 #[.val (.int i0), .val (.int i1), .val (.int i2), .val (.int i3), .val (.int i4), .val (.int (1 : Int32)), .val (.int (i1 &&& (2147483647 : Int32))), .val (.int (i2 &&& (2147483647 : Int32))), .val (.int (i3 &&& (2147483647 : Int32))), .val (.int (i4 &&& (2147483647 : Int32))), .val (.long ((i1 &&& (2147483647 : Int32)).toInt64)), .second, .unset, .unset] [])
    refine Go.by (fun t k => XS.iload X0.here hx rfl (hb hby at_51) rfl (XS.iconst X0.here hx rfl (hb hby at_53) (XS.icmpYes X0.here hx rfl (pc0 := 54) (pc' := 65) rfl (hb hby at_54) rfl (tlt (show (1 : Int32) < (3 : Int32) from (by decide))).1 (by decide) (by decide) k))) ?_
    show Go p e below _ s₁ (mkF m 65 #[.val (.int i0), .val (.int i1), .val (.int i2), .val (.int i3), .val (.int i4), .val (.int (1 : Int32)), .val (.int (i1 &&& (2147483647 : Int32))), .val (.int (i2 &&& (2147483647 : Int32))), .val (.int (i3 &&& (2147483647 : Int32))), .val (.int (i4 &&& (2147483647 : Int32))), .val (.long ((i1 &&& (2147483647 : Int32)).toInt64)), .second, .unset, .unset] [])
    refine Go.by (fun t k => XS.iload X0.here hx rfl (hb hby at_65) rfl (XS.iconst X0.here hx rfl (hb hby at_67) (XS.icmpYes X0.here hx rfl (pc0 := 68) (pc' := 79) rfl (hb hby at_68) rfl (tlt (show (1 : Int32) < (4 : Int32) from (by decide))).1 (by decide) (by decide) k))) ?_
    show Go p e below _ s₁ (mkF m 79 #[.val (.int i0), .val (.int i1), .val (.int i2), .val (.int i3), .val (.int i4), .val (.int (1 : Int32)), .val (.int (i1 &&& (2147483647 : Int32))), .val (.int (i2 &&& (2147483647 : Int32))), .val (.int (i3 &&& (2147483647 : Int32))), .val (.int (i4 &&& (2147483647 : Int32))), .val (.long ((i1 &&& (2147483647 : Int32)).toInt64)), .second, .unset, .unset] [])
    refine Go.by (fun t k => XS.lload X0.here hx rfl (hb hby at_79) rfl (XS.lconst X0.here hx rfl (hb hby at_81) (XS.lcmp X0.here hx rfl (hb hby at_82) rfl k))) ?_
    show Go p e below _ s₁ (mkF m 83 #[.val (.int i0), .val (.int i1), .val (.int i2), .val (.int i3), .val (.int i4), .val (.int (1 : Int32)), .val (.int (i1 &&& (2147483647 : Int32))), .val (.int (i2 &&& (2147483647 : Int32))), .val (.int (i3 &&& (2147483647 : Int32))), .val (.int (i4 &&& (2147483647 : Int32))), .val (.long ((i1 &&& (2147483647 : Int32)).toInt64)), .second, .unset, .unset] [(.int (lcmpW ((i1 &&& (2147483647 : Int32)).toInt64) (0 : Int64)))])
    by_cases hz : (lcmpW ((i1 &&& (2147483647 : Int32)).toInt64) (0 : Int64)) = (0 : Int32)
    · refine Go.by (fun t k => XS.ifNo X0.here hx rfl (hb hby at_83) rfl ((if0 _ _).trans (teq (show (lcmpW ((i1 &&& (2147483647 : Int32)).toInt64) (0 : Int64)) = (0 : Int32) from hz)).2) k) ?_
      show Go p e below _ s₁ (mkF m 86 #[.val (.int i0), .val (.int i1), .val (.int i2), .val (.int i3), .val (.int i4), .val (.int (1 : Int32)), .val (.int (i1 &&& (2147483647 : Int32))), .val (.int (i2 &&& (2147483647 : Int32))), .val (.int (i3 &&& (2147483647 : Int32))), .val (.int (i4 &&& (2147483647 : Int32))), .val (.long ((i1 &&& (2147483647 : Int32)).toInt64)), .second, .unset, .unset] [])
      refine Go.by (fun t k => XS.iconst X0.here hx rfl (hb hby at_86) k) ?_
      show Go p e below _ s₁ (mkF m 87 #[.val (.int i0), .val (.int i1), .val (.int i2), .val (.int i3), .val (.int i4), .val (.int (1 : Int32)), .val (.int (i1 &&& (2147483647 : Int32))), .val (.int (i2 &&& (2147483647 : Int32))), .val (.int (i3 &&& (2147483647 : Int32))), .val (.int (i4 &&& (2147483647 : Int32))), .val (.long ((i1 &&& (2147483647 : Int32)).toInt64)), .second, .unset, .unset] [(.int (1 : Int32))])
      exact Go.retN X0 hx (t := .boolean) hret (by simp) hlk (hb hby at_87) (by first | (rw [e0]; exact ⟨rfl, N0, K0⟩) | exact ⟨rfl, N0, K0⟩) (by decide) (by decide)
    · skip
      refine Go.by (fun t k => XS.ifYes X0.here hx rfl (pc0 := 83) (pc' := 88) rfl (hb hby at_83) rfl ((if0 _ _).trans (feq (show ¬ ((lcmpW ((i1 &&& (2147483647 : Int32)).toInt64) (0 : Int64)) = (0 : Int32)) from hz)).2) (by decide) (by decide) k) ?_
      show Go p e below _ s₁ (mkF m 88 #[.val (.int i0), .val (.int i1), .val (.int i2), .val (.int i3), .val (.int i4), .val (.int (1 : Int32)), .val (.int (i1 &&& (2147483647 : Int32))), .val (.int (i2 &&& (2147483647 : Int32))), .val (.int (i3 &&& (2147483647 : Int32))), .val (.int (i4 &&& (2147483647 : Int32))), .val (.long ((i1 &&& (2147483647 : Int32)).toInt64)), .second, .unset, .unset] [])
      refine Go.by (fun t k => XS.iload X0.here hx rfl (hb hby at_88) rfl (XS.iconst X0.here hx rfl (hb hby at_90) (XS.icmpNo X0.here hx rfl (hb hby at_91) rfl (teq (show (1 : Int32) = (1 : Int32) from (by decide))).2 k))) ?_
      show Go p e below _ s₁ (mkF m 94 #[.val (.int i0), .val (.int i1), .val (.int i2), .val (.int i3), .val (.int i4), .val (.int (1 : Int32)), .val (.int (i1 &&& (2147483647 : Int32))), .val (.int (i2 &&& (2147483647 : Int32))), .val (.int (i3 &&& (2147483647 : Int32))), .val (.int (i4 &&& (2147483647 : Int32))), .val (.long ((i1 &&& (2147483647 : Int32)).toInt64)), .second, .unset, .unset] [])
      refine Go.by (fun t k => XS.iconst X0.here hx rfl (hb hby at_94) k) ?_
      show Go p e below _ s₁ (mkF m 95 #[.val (.int i0), .val (.int i1), .val (.int i2), .val (.int i3), .val (.int i4), .val (.int (1 : Int32)), .val (.int (i1 &&& (2147483647 : Int32))), .val (.int (i2 &&& (2147483647 : Int32))), .val (.int (i3 &&& (2147483647 : Int32))), .val (.int (i4 &&& (2147483647 : Int32))), .val (.long ((i1 &&& (2147483647 : Int32)).toInt64)), .second, .unset, .unset] [(.int (1 : Int32))])
      obtain ⟨T246, h246, k246, X246, e246, E246, A246, st246⟩ := newP X0 hx hZ (aty := .double) (ow1 hw) e0 (g := (mkF m 95 #[.val (.int i0), .val (.int i1), .val (.int i2), .val (.int i3), .val (.int i4), .val (.int (1 : Int32)), .val (.int (i1 &&& (2147483647 : Int32))), .val (.int (i2 &&& (2147483647 : Int32))), .val (.int (i3 &&& (2147483647 : Int32))), .val (.int (i4 &&& (2147483647 : Int32))), .val (.long ((i1 &&& (2147483647 : Int32)).toInt64)), .second, .unset, .unset] [(.int (1 : Int32))])) rfl (hb hby at_95) rfl (by decide) (cap := 1) (by decide) (by decide) (by decide) (by decide)
      obtain ⟨b246, g246⟩ : ∃ z, z = h0.size := ⟨_, rfl⟩
      rw [← g246] at A246 st246
      refine Go.by st246 ?_
      have K247 : Keep h0 h246 [] := K0.ext E246
      show Go p e below _ T246 (mkF m 97 #[.val (.int i0), .val (.int i1), .val (.int i2), .val (.int i3), .val (.int i4), .val (.int (1 : Int32)), .val (.int (i1 &&& (2147483647 : Int32))), .val (.int (i2 &&& (2147483647 : Int32))), .val (.int (i3 &&& (2147483647 : Int32))), .val (.int (i4 &&& (2147483647 : Int32))), .val (.long ((i1 &&& (2147483647 : Int32)).toInt64)), .second, .unset, .unset] [(.ref b246)])
      have V246 : Arv Z h246 b246 k246 .double (1 : Int32) [(.double (FP.l2d 0))] (.double (FP.l2d 0)) := (Arv.newD A246 (by decide)).pad (pad_rep [] (.double (FP.l2d 0)) 1)
      refine Go.by (fun t k => XS.dup X246.here hx rfl (hb hby at_97) rfl rfl (XS.iconst X246.here hx rfl (hb hby at_98) (XS.iload X246.here hx rfl (hb hby at_99) rfl (XS.i2dS X246.here hx rfl (hb hby at_101) rfl (i2d_w _) k)))) ?_
      show Go p e below _ T246 (mkF m 102 #[.val (.int i0), .val (.int i1), .val (.int i2), .val (.int i3), .val (.int i4), .val (.int (1 : Int32)), .val (.int (i1 &&& (2147483647 : Int32))), .val (.int (i2 &&& (2147483647 : Int32))), .val (.int (i3 &&& (2147483647 : Int32))), .val (.int (i4 &&& (2147483647 : Int32))), .val (.long ((i1 &&& (2147483647 : Int32)).toInt64)), .second, .unset, .unset] [(.double (FP.l2d (i1 &&& (2147483647 : Int32)).toInt64)), (.int (0 : Int32)), (.ref b246), (.ref b246)])
      obtain ⟨c248, A248, q248, S248, M248, G248, J248⟩ := id V246
      obtain ⟨T248, h248, X248, e248, W248, st248⟩ := stD X246 hx hZ e246 A248 (j := (0 : Int32)) (inb_of S248 ⟨by decide, by decide⟩) (g := (mkF m 102 #[.val (.int i0), .val (.int i1), .val (.int i2), .val (.int i3), .val (.int i4), .val (.int (1 : Int32)), .val (.int (i1 &&& (2147483647 : Int32))), .val (.int (i2 &&& (2147483647 : Int32))), .val (.int (i3 &&& (2147483647 : Int32))), .val (.int (i4 &&& (2147483647 : Int32))), .val (.long ((i1 &&& (2147483647 : Int32)).toInt64)), .second, .unset, .unset] [(.double (FP.l2d (i1 &&& (2147483647 : Int32)).toInt64)), (.int (0 : Int32)), (.ref b246), (.ref b246)])) rfl rfl (hb hby at_102)
      refine Go.by st248 ?_
      have N248 := Fr.snoc X248 N0 (Nat.le_trans (Nat.le_trans Z0 (Nat.le_refl _)) (Nat.le_of_eq g246.symm))
      have K249 : Keep h0 h248 [] := K247.wr W248 (Or.inr (Nat.le_trans (Nat.le_refl _) (Nat.le_of_eq g246.symm)))
      show Go p e below _ T248 (mkF m 103 #[.val (.int i0), .val (.int i1), .val (.int i2), .val (.int i3), .val (.int i4), .val (.int (1 : Int32)), .val (.int (i1 &&& (2147483647 : Int32))), .val (.int (i2 &&& (2147483647 : Int32))), .val (.int (i3 &&& (2147483647 : Int32))), .val (.int (i4 &&& (2147483647 : Int32))), .val (.long ((i1 &&& (2147483647 : Int32)).toInt64)), .second, .unset, .unset] [(.ref b246)])
      have V248 : Arv Z h248 b246 k246 .double (1 : Int32) ([(.double (FP.l2d (i1 &&& (2147483647 : Int32)).toInt64))]) (.double (FP.l2d 0)) := Arv.set A248 q248 S248 M248 G248 J248 rfl W248 0 rfl (Nat.le_of_ble_eq_true rfl)
      refine Go.by (fun t k => XS.astore X248.here hx rfl (hb hby at_103) rfl rfl (l' := #[.val (.int i0), .val (.int i1), .val (.int i2), .val (.int i3), .val (.int i4), .val (.int (1 : Int32)), .val (.int (i1 &&& (2147483647 : Int32))), .val (.int (i2 &&& (2147483647 : Int32))), .val (.int (i3 &&& (2147483647 : Int32))), .val (.int (i4 &&& (2147483647 : Int32))), .val (.long ((i1 &&& (2147483647 : Int32)).toInt64)), .second, .val (.ref b246), .unset]) rfl (XS.goto X248.here hx rfl (pc0 := 105) (pc' := 195) rfl (hb hby at_105) (by decide) (by decide) k)) ?_
      show Go p e below _ T248 (mkF m 195 #[.val (.int i0), .val (.int i1), .val (.int i2), .val (.int i3), .val (.int i4), .val (.int (1 : Int32)), .val (.int (i1 &&& (2147483647 : Int32))), .val (.int (i2 &&& (2147483647 : Int32))), .val (.int (i3 &&& (2147483647 : Int32))), .val (.int (i4 &&& (2147483647 : Int32))), .val (.long ((i1 &&& (2147483647 : Int32)).toInt64)), .second, .val (.ref b246), .unset] [])
      obtain ⟨T250, h250, X250, e250, E250, A250, D250, U250, st250⟩ := newO X248 hx hZ hown (ow2 hw) (ow3 hw) (ow4 hw) e248 (g := (mkF m 195 #[.val (.int i0), .val (.int i1), .val (.int i2), .val (.int i3), .val (.int i4), .val (.int (1 : Int32)), .val (.int (i1 &&& (2147483647 : Int32))), .val (.int (i2 &&& (2147483647 : Int32))), .val (.int (i3 &&& (2147483647 : Int32))), .val (.int (i4 &&& (2147483647 : Int32))), .val (.long ((i1 &&& (2147483647 : Int32)).toInt64)), .second, .val (.ref b246), .unset] [])) rfl (hb hby at_195) (by decide) (by decide)
      obtain ⟨b250, g250⟩ : ∃ z, z = h248.size := ⟨_, rfl⟩
      rw [← g250] at A250 D250 U250 st250
      refine Go.by st250 ?_
      have K251 : Keep h0 h250 [] := K249.ext E250
      show Go p e below _ T250 (mkF m 198 #[.val (.int i0), .val (.int i1), .val (.int i2), .val (.int i3), .val (.int i4), .val (.int (1 : Int32)), .val (.int (i1 &&& (2147483647 : Int32))), .val (.int (i2 &&& (2147483647 : Int32))), .val (.int (i3 &&& (2147483647 : Int32))), .val (.int (i4 &&& (2147483647 : Int32))), .val (.long ((i1 &&& (2147483647 : Int32)).toInt64)), .second, .val (.ref b246), .unset] [(.ref b250)])
      refine Go.by (fun t k => XS.dup X250.here hx rfl (hb hby at_198) rfl rfl (XS.aload X250.here hx rfl (hb hby at_199) rfl rfl k)) ?_
      show Go p e below _ T250 (mkF m 201 #[.val (.int i0), .val (.int i1), .val (.int i2), .val (.int i3), .val (.int i4), .val (.int (1 : Int32)), .val (.int (i1 &&& (2147483647 : Int32))), .val (.int (i2 &&& (2147483647 : Int32))), .val (.int (i3 &&& (2147483647 : Int32))), .val (.int (i4 &&& (2147483647 : Int32))), .val (.long ((i1 &&& (2147483647 : Int32)).toInt64)), .second, .val (.ref b246), .unset] [(.ref b246), (.ref b250), (.ref b250)])
      have F253 : Arv Z h250 b246 k246 .double (1 : Int32) ([(.double (FP.l2d (i1 &&& (2147483647 : Int32)).toInt64))]) (.double (FP.l2d 0)) := (V248.ext E250)
      obtain ⟨_, _, ⟨T252, L252, k252, n252⟩, -, X252, ⟨Lc252, hQ252, l252, y252, z252⟩, st252⟩ := X250.specialBack hx (y := (⟨"com/example/shardpick/shardpick/generate/WeightedDraw", "<init>", "([D)V"⟩ : MethodName)) rfl hown (mvT hZ (ow5 hw)) (mvT hZ (ow6 hw)) (mvT hZ (ow7 hw)) (by decide) (backOf (W := 1) (rm_wd1 l Z a0 hw [] b250 b246 k246 ((i1 &&& (2147483647 : Int32)).toInt64) h250 n0 (Nat.le_trans Z0 (Nat.le_trans (Nat.le_trans E246.1 (Keep.of_wr W248).1) E250.1)) A250 ((Nat.le_trans (Nat.le_trans Z0 (Nat.le_trans E246.1 (Keep.of_wr W248).1)) (Nat.le_of_eq g250.symm))) (D250 (Or.inr (ow12 hw)) (ty := (.array .double)) (by decide)) F253 (in_mask _)) hZ (ow7 hw) (ow4 hw) (by decide) (by decide)) (g := (mkF m 201 #[.val (.int i0), .val (.int i1), .val (.int i2), .val (.int i3), .val (.int i4), .val (.int (1 : Int32)), .val (.int (i1 &&& (2147483647 : Int32))), .val (.int (i2 &&& (2147483647 : Int32))), .val (.int (i3 &&& (2147483647 : Int32))), .val (.int (i4 &&& (2147483647 : Int32))), .val (.long ((i1 &&& (2147483647 : Int32)).toInt64)), .second, .val (.ref b246), .unset] [(.ref b246), (.ref b250), (.ref b250)])) rfl (by rw [hml]; rfl) (Steps.refl _) (a := b250) (argsL := [(.ref b246)]) (rest := [(.ref b250)]) (lenOf opd_0 rfl) rfl (by show 2 * 0 + _ ≤ _; exact Nat.le_of_eq rfl) (hb hby at_201) (fun _ _ => ⟨rfl, e250, (by decide : 2 + 1 ≤ _), (by decide : 2 + 1 ≤ _)⟩)
      dsimp only [Pt.U, Pt.locs, Pt.cells, Pt.slots] at X252 l252 y252 z252 st252 hQ252
      subst l252 y252 z252
      obtain ⟨bt_252, kt_252, rfl, N252q, K252q, P252_0, P252_1, P252_2⟩ := hQ252
      have N252 := Fr.app N248 N252q
      refine Go.tr st252 ?_
      have K254 : Keep h0 T252.heap [] := K251.trans K252q (allS (Or.inr (Nat.le_trans (Nat.le_trans E246.1 (Keep.of_wr W248).1) (Nat.le_of_eq g250.symm))) all0)
      show Go p e below _ T252 (mkF m 204 #[.val (.int i0), .val (.int i1), .val (.int i2), .val (.int i3), .val (.int i4), .val (.int (1 : Int32)), .val (.int (i1 &&& (2147483647 : Int32))), .val (.int (i2 &&& (2147483647 : Int32))), .val (.int (i3 &&& (2147483647 : Int32))), .val (.int (i4 &&& (2147483647 : Int32))), .val (.long ((i1 &&& (2147483647 : Int32)).toInt64)), .second, .val (.ref b246), .unset] [(.ref b250)])
      refine Go.by (fun t k => XS.astore X252.here hx rfl (hb hby at_204) rfl rfl (l' := #[.val (.int i0), .val (.int i1), .val (.int i2), .val (.int i3), .val (.int i4), .val (.int (1 : Int32)), .val (.int (i1 &&& (2147483647 : Int32))), .val (.int (i2 &&& (2147483647 : Int32))), .val (.int (i3 &&& (2147483647 : Int32))), .val (.int (i4 &&& (2147483647 : Int32))), .val (.long ((i1 &&& (2147483647 : Int32)).toInt64)), .second, .val (.ref b246), .val (.ref b250)]) rfl (XS.aload X252.here hx rfl (hb hby at_206) rfl rfl k)) ?_
      show Go p e below _ T252 (mkF m 208 #[.val (.int i0), .val (.int i1), .val (.int i2), .val (.int i3), .val (.int i4), .val (.int (1 : Int32)), .val (.int (i1 &&& (2147483647 : Int32))), .val (.int (i2 &&& (2147483647 : Int32))), .val (.int (i3 &&& (2147483647 : Int32))), .val (.int (i4 &&& (2147483647 : Int32))), .val (.long ((i1 &&& (2147483647 : Int32)).toInt64)), .second, .val (.ref b246), .val (.ref b250)] [(.ref b250)])
      obtain ⟨cq255, kq255, q255a, q255b, q255c⟩ := isOf hZ rfl P252_0
      obtain ⟨_, _, ⟨T255, L255, k255, n255⟩, -, X255, ⟨Lc255, hQ255, l255, y255, z255⟩, st255⟩ := X252.virtualBack hx (y := (⟨"com/example/shardpick/shardpick/generate/WeightedDraw", "total", "()D"⟩ : MethodName)) (z := (⟨"com/example/shardpick/shardpick/generate/WeightedDraw", "total", "()D"⟩ : MethodName)) hown (mvT hZ (ow13 hw)) (mvT hZ (ow14 hw)) (notFace_of_selects (args := #[]) (mvT hZ (ow16 hw))) (mvT hZ (ow16 hw)) (mvT hZ (ow15 hw)) (by decide) (backOf (W := 0) (rm_tot1 l Z a0 hw [] b250 bt_252 kt_252 ((0 : Int64) + ((i1 &&& (2147483647 : Int32)).toInt64)) T252.heap n0 (Nat.le_trans Z0 (Nat.le_trans (Nat.le_trans (Nat.le_trans E246.1 (Keep.of_wr W248).1) E250.1) K252q.1)) P252_1 P252_2) hZ (ow17 hw) (ow4 hw) (by decide) (by decide)) q255a q255c (g := (mkF m 208 #[.val (.int i0), .val (.int i1), .val (.int i2), .val (.int i3), .val (.int i4), .val (.int (1 : Int32)), .val (.int (i1 &&& (2147483647 : Int32))), .val (.int (i2 &&& (2147483647 : Int32))), .val (.int (i3 &&& (2147483647 : Int32))), .val (.int (i4 &&& (2147483647 : Int32))), .val (.long ((i1 &&& (2147483647 : Int32)).toInt64)), .second, .val (.ref b246), .val (.ref b250)] [(.ref b250)])) rfl (by rw [hml]; rfl) (Steps.refl _) (argsL := []) (rest := []) (lenOf opd_1 rfl) rfl (by show 2 * 0 + _ ≤ _; exact Nat.le_of_eq rfl) (hb hby at_208) (fun _ _ => ⟨rfl, rfl, (by decide : 3 + 0 ≤ _), (by decide : 3 + 0 ≤ _)⟩)
      dsimp only [Pt.U, Pt.locs, Pt.cells, Pt.slots] at X255 l255 y255 z255 st255 hQ255
      subst l255 y255 z255
      obtain ⟨rfl, N255q, e255⟩ := hQ255
      have N255 := Fr.app N252 N255q
      refine Go.tr st255 ?_
      show Go p e below _ T255 (mkF m 211 #[.val (.int i0), .val (.int i1), .val (.int i2), .val (.int i3), .val (.int i4), .val (.int (1 : Int32)), .val (.int (i1 &&& (2147483647 : Int32))), .val (.int (i2 &&& (2147483647 : Int32))), .val (.int (i3 &&& (2147483647 : Int32))), .val (.int (i4 &&& (2147483647 : Int32))), .val (.long ((i1 &&& (2147483647 : Int32)).toInt64)), .second, .val (.ref b246), .val (.ref b250)] [(.double (FP.l2d ((0 : Int64) + ((i1 &&& (2147483647 : Int32)).toInt64))))])
      refine Go.by (fun t k => XS.lload X255.here hx rfl (hb hby at_211) rfl (XS.l2dS X255.here hx rfl (hb hby at_213) rfl rfl k)) ?_
      show Go p e below _ T255 (mkF m 214 #[.val (.int i0), .val (.int i1), .val (.int i2), .val (.int i3), .val (.int i4), .val (.int (1 : Int32)), .val (.int (i1 &&& (2147483647 : Int32))), .val (.int (i2 &&& (2147483647 : Int32))), .val (.int (i3 &&& (2147483647 : Int32))), .val (.int (i4 &&& (2147483647 : Int32))), .val (.long ((i1 &&& (2147483647 : Int32)).toInt64)), .second, .val (.ref b246), .val (.ref b250)] [(.double (FP.l2d ((i1 &&& (2147483647 : Int32)).toInt64))), (.double (FP.l2d ((0 : Int64) + ((i1 &&& (2147483647 : Int32)).toInt64))))])
      have q256 : cmpValue (FP.dcmp (FP.l2d ((0 : Int64) + ((i1 &&& (2147483647 : Int32)).toInt64))) (FP.l2d ((i1 &&& (2147483647 : Int32)).toInt64))) .l = (0 : Int32) := (by rw [Int64.zero_add]; exact dcmpV_self (nn_w rfl) _)
      refine Go.by (fun t k => XS.dcmpS X255.here hx rfl (hb hby at_214) rfl q256 k) ?_
      show Go p e below _ T255 (mkF m 215 #[.val (.int i0), .val (.int i1), .val (.int i2), .val (.int i3), .val (.int i4), .val (.int (1 : Int32)), .val (.int (i1 &&& (2147483647 : Int32))), .val (.int (i2 &&& (2147483647 : Int32))), .val (.int (i3 &&& (2147483647 : Int32))), .val (.int (i4 &&& (2147483647 : Int32))), .val (.long ((i1 &&& (2147483647 : Int32)).toInt64)), .second, .val (.ref b246), .val (.ref b250)] [(.int (0 : Int32))])
      refine Go.by (fun t k => XS.ifNo X255.here hx rfl (hb hby at_215) rfl ((if0 _ _).trans (teq (show (0 : Int32) = (0 : Int32) from (by decide))).2) k) ?_
      show Go p e below _ T255 (mkF m 218 #[.val (.int i0), .val (.int i1), .val (.int i2), .val (.int i3), .val (.int i4), .val (.int (1 : Int32)), .val (.int (i1 &&& (2147483647 : Int32))), .val (.int (i2 &&& (2147483647 : Int32))), .val (.int (i3 &&& (2147483647 : Int32))), .val (.int (i4 &&& (2147483647 : Int32))), .val (.long ((i1 &&& (2147483647 : Int32)).toInt64)), .second, .val (.ref b246), .val (.ref b250)] [])
      refine Go.by (fun t k => XS.iconst X255.here hx rfl (hb hby at_218) (XS.goto X255.here hx rfl (pc0 := 219) (pc' := 223) rfl (hb hby at_219) (by decide) (by decide) k)) ?_
      show Go p e below _ T255 (mkF m 223 #[.val (.int i0), .val (.int i1), .val (.int i2), .val (.int i3), .val (.int i4), .val (.int (1 : Int32)), .val (.int (i1 &&& (2147483647 : Int32))), .val (.int (i2 &&& (2147483647 : Int32))), .val (.int (i3 &&& (2147483647 : Int32))), .val (.int (i4 &&& (2147483647 : Int32))), .val (.long ((i1 &&& (2147483647 : Int32)).toInt64)), .second, .val (.ref b246), .val (.ref b250)] [(.int (1 : Int32))])
      exact Go.retN X255 hx (t := .boolean) hret (by simp) hlk (hb hby at_223) (by first | (rw [e255]; exact ⟨rfl, N255, K254⟩) | exact ⟨rfl, N255, K254⟩) (by decide) (by decide)
  · rw [hk245]
    show Go p e below _ s₁ (mkF m 4 #[.val (.int i0), .val (.int i1), .val (.int i2), .val (.int i3), .val (.int i4), .unset, .unset, .unset, .unset, .unset, .unset, .unset, .unset, .unset] [(.int (1 : Int32)), (.int (1 : Int32))])
    refine Go.by (fun t k => XS.iadd X0.here hx rfl (hb hby at_4) rfl (XS.istore X0.here hx rfl (hb hby at_5) rfl (l' := #[.val (.int i0), .val (.int i1), .val (.int i2), .val (.int i3), .val (.int i4), .val (.int (2 : Int32)), .unset, .unset, .unset, .unset, .unset, .unset, .unset, .unset]) rfl (XS.iloadN X0.here hx rfl (hb hby at_7) rfl k))) ?_
    show Go p e below _ s₁ (mkF m 8 #[.val (.int i0), .val (.int i1), .val (.int i2), .val (.int i3), .val (.int i4), .val (.int (2 : Int32)), .unset, .unset, .unset, .unset, .unset, .unset, .unset, .unset] [(.int i1)])
    refine Go.by (X0.ldcInt hx hown (mvT hZ (ow0 hw)) (g := (mkF m 8 #[.val (.int i0), .val (.int i1), .val (.int i2), .val (.int i3), .val (.int i4), .val (.int (2 : Int32)), .unset, .unset, .unset, .unset, .unset, .unset, .unset, .unset] [(.int i1)])) rfl (hb hby at_8)) ?_
    show Go p e below _ s₁ (mkF m 10 #[.val (.int i0), .val (.int i1), .val (.int i2), .val (.int i3), .val (.int i4), .val (.int (2 : Int32)), .unset, .unset, .unset, .unset, .unset, .unset, .unset, .unset] [(.int (2147483647 : Int32)), (.int i1)])
    refine Go.by (fun t k => XS.iand X0.here hx rfl (hb hby at_10) rfl (XS.istore X0.here hx rfl (hb hby at_11) rfl (l' := #[.val (.int i0), .val (.int i1), .val (.int i2), .val (.int i3), .val (.int i4), .val (.int (2 : Int32)), .val (.int (i1 &&& (2147483647 : Int32))), .unset, .unset, .unset, .unset, .unset, .unset, .unset]) rfl (XS.iloadN X0.here hx rfl (hb hby at_13) rfl k))) ?_
    show Go p e below _ s₁ (mkF m 14 #[.val (.int i0), .val (.int i1), .val (.int i2), .val (.int i3), .val (.int i4), .val (.int (2 : Int32)), .val (.int (i1 &&& (2147483647 : Int32))), .unset, .unset, .unset, .unset, .unset, .unset, .unset] [(.int i2)])
    refine Go.by (X0.ldcInt hx hown (mvT hZ (ow0 hw)) (g := (mkF m 14 #[.val (.int i0), .val (.int i1), .val (.int i2), .val (.int i3), .val (.int i4), .val (.int (2 : Int32)), .val (.int (i1 &&& (2147483647 : Int32))), .unset, .unset, .unset, .unset, .unset, .unset, .unset] [(.int i2)])) rfl (hb hby at_14)) ?_
    show Go p e below _ s₁ (mkF m 16 #[.val (.int i0), .val (.int i1), .val (.int i2), .val (.int i3), .val (.int i4), .val (.int (2 : Int32)), .val (.int (i1 &&& (2147483647 : Int32))), .unset, .unset, .unset, .unset, .unset, .unset, .unset] [(.int (2147483647 : Int32)), (.int i2)])
    refine Go.by (fun t k => XS.iand X0.here hx rfl (hb hby at_16) rfl (XS.istore X0.here hx rfl (hb hby at_17) rfl (l' := #[.val (.int i0), .val (.int i1), .val (.int i2), .val (.int i3), .val (.int i4), .val (.int (2 : Int32)), .val (.int (i1 &&& (2147483647 : Int32))), .val (.int (i2 &&& (2147483647 : Int32))), .unset, .unset, .unset, .unset, .unset, .unset]) rfl (XS.iloadN X0.here hx rfl (hb hby at_19) rfl k))) ?_
    show Go p e below _ s₁ (mkF m 20 #[.val (.int i0), .val (.int i1), .val (.int i2), .val (.int i3), .val (.int i4), .val (.int (2 : Int32)), .val (.int (i1 &&& (2147483647 : Int32))), .val (.int (i2 &&& (2147483647 : Int32))), .unset, .unset, .unset, .unset, .unset, .unset] [(.int i3)])
    refine Go.by (X0.ldcInt hx hown (mvT hZ (ow0 hw)) (g := (mkF m 20 #[.val (.int i0), .val (.int i1), .val (.int i2), .val (.int i3), .val (.int i4), .val (.int (2 : Int32)), .val (.int (i1 &&& (2147483647 : Int32))), .val (.int (i2 &&& (2147483647 : Int32))), .unset, .unset, .unset, .unset, .unset, .unset] [(.int i3)])) rfl (hb hby at_20)) ?_
    show Go p e below _ s₁ (mkF m 22 #[.val (.int i0), .val (.int i1), .val (.int i2), .val (.int i3), .val (.int i4), .val (.int (2 : Int32)), .val (.int (i1 &&& (2147483647 : Int32))), .val (.int (i2 &&& (2147483647 : Int32))), .unset, .unset, .unset, .unset, .unset, .unset] [(.int (2147483647 : Int32)), (.int i3)])
    refine Go.by (fun t k => XS.iand X0.here hx rfl (hb hby at_22) rfl (XS.istore X0.here hx rfl (hb hby at_23) rfl (l' := #[.val (.int i0), .val (.int i1), .val (.int i2), .val (.int i3), .val (.int i4), .val (.int (2 : Int32)), .val (.int (i1 &&& (2147483647 : Int32))), .val (.int (i2 &&& (2147483647 : Int32))), .val (.int (i3 &&& (2147483647 : Int32))), .unset, .unset, .unset, .unset, .unset]) rfl (XS.iload X0.here hx rfl (hb hby at_25) rfl k))) ?_
    show Go p e below _ s₁ (mkF m 27 #[.val (.int i0), .val (.int i1), .val (.int i2), .val (.int i3), .val (.int i4), .val (.int (2 : Int32)), .val (.int (i1 &&& (2147483647 : Int32))), .val (.int (i2 &&& (2147483647 : Int32))), .val (.int (i3 &&& (2147483647 : Int32))), .unset, .unset, .unset, .unset, .unset] [(.int i4)])
    refine Go.by (X0.ldcInt hx hown (mvT hZ (ow0 hw)) (g := (mkF m 27 #[.val (.int i0), .val (.int i1), .val (.int i2), .val (.int i3), .val (.int i4), .val (.int (2 : Int32)), .val (.int (i1 &&& (2147483647 : Int32))), .val (.int (i2 &&& (2147483647 : Int32))), .val (.int (i3 &&& (2147483647 : Int32))), .unset, .unset, .unset, .unset, .unset] [(.int i4)])) rfl (hb hby at_27)) ?_
    show Go p e below _ s₁ (mkF m 29 #[.val (.int i0), .val (.int i1), .val (.int i2), .val (.int i3), .val (.int i4), .val (.int (2 : Int32)), .val (.int (i1 &&& (2147483647 : Int32))), .val (.int (i2 &&& (2147483647 : Int32))), .val (.int (i3 &&& (2147483647 : Int32))), .unset, .unset, .unset, .unset, .unset] [(.int (2147483647 : Int32)), (.int i4)])
    refine Go.by (fun t k => XS.iand X0.here hx rfl (hb hby at_29) rfl (XS.istore X0.here hx rfl (hb hby at_30) rfl (l' := #[.val (.int i0), .val (.int i1), .val (.int i2), .val (.int i3), .val (.int i4), .val (.int (2 : Int32)), .val (.int (i1 &&& (2147483647 : Int32))), .val (.int (i2 &&& (2147483647 : Int32))), .val (.int (i3 &&& (2147483647 : Int32))), .val (.int (i4 &&& (2147483647 : Int32))), .unset, .unset, .unset, .unset]) rfl (XS.iload X0.here hx rfl (hb hby at_32) rfl (XS.i2l X0.here hx rfl (hb hby at_34) rfl k)))) ?_
    show Go p e below _ s₁ (mkF m 35 #[.val (.int i0), .val (.int i1), .val (.int i2), .val (.int i3), .val (.int i4), .val (.int (2 : Int32)), .val (.int (i1 &&& (2147483647 : Int32))), .val (.int (i2 &&& (2147483647 : Int32))), .val (.int (i3 &&& (2147483647 : Int32))), .val (.int (i4 &&& (2147483647 : Int32))), .unset, .unset, .unset, .unset] [(.long ((i1 &&& (2147483647 : Int32)).toInt64))])
    refine Go.by (fun t k => XS.lstore X0.here hx rfl (hb hby at_35) rfl (l' := #[.val (.int i0), .val (.int i1), .val (.int i2), .val (.int i3), .val (.int i4), .val (.int (2 : Int32)), .val (.int (i1 &&& (2147483647 : Int32))), .val (.int (i2 &&& (2147483647 : Int32))), .val (.int (i3 &&& (2147483647 : Int32))), .val (.int (i4 &&& (2147483647 : Int32))), .val (.long ((i1 &&& (2147483647 : Int32)).toInt64)), .second, .unset, .unset]) rfl (XS.iload X0.here hx rfl (hb hby at_37) rfl (XS.iconst X0.here hx rfl (hb hby at_39) (XS.icmpNo X0.here hx rfl (hb hby at_40) rfl (flt (show ¬ ((2 : Int32) < (2 : Int32)) from (by decide))).1 k)))) ?_
    show Go p e below _ s₁ (mkF m 43 #[.val (.int i0), .val (.int i1), .val (.int i2), .val (.int i3), .val (.int i4), .val (.int (2 : Int32)), .val (.int (i1 &&& (2147483647 : Int32))), .val (.int (i2 &&& (2147483647 : Int32))), .val (.int (i3 &&& (2147483647 : Int32))), .val (.int (i4 &&& (2147483647 : Int32))), .val (.long ((i1 &&& (2147483647 : Int32)).toInt64)), .second, .unset, .unset] [])
    refine Go.by (fun t k => XS.lload X0.here hx rfl (hb hby at_43) rfl (XS.iload X0.here hx rfl (hb hby at_45) rfl (XS.i2l X0.here hx rfl (hb hby at_47) rfl (XS.ladd X0.here hx rfl (hb hby at_48) rfl k)))) ?_
    show Go p e below _ s₁ (mkF m 49 #[.val (.int i0), .val (.int i1), .val (.int i2), .val (.int i3), .val (.int i4), .val (.int (2 : Int32)), .val (.int (i1 &&& (2147483647 : Int32))), .val (.int (i2 &&& (2147483647 : Int32))), .val (.int (i3 &&& (2147483647 : Int32))), .val (.int (i4 &&& (2147483647 : Int32))), .val (.long ((i1 &&& (2147483647 : Int32)).toInt64)), .second, .unset, .unset] [(.long (((i1 &&& (2147483647 : Int32)).toInt64) + ((i2 &&& (2147483647 : Int32)).toInt64)))])
    refine Go.by (fun t k => XS.lstore X0.here hx rfl (hb hby at_49) rfl (l' := #[.val (.int i0), .val (.int i1), .val (.int i2), .val (.int i3), .val (.int i4), .val (.int (2 : Int32)), .val (.int (i1 &&& (2147483647 : Int32))), .val (.int (i2 &&& (2147483647 : Int32))), .val (.int (i3 &&& (2147483647 : Int32))), .val (.int (i4 &&& (2147483647 : Int32))), .val (.long (((i1 &&& (2147483647 : Int32)).toInt64) + ((i2 &&& (2147483647 : Int32)).toInt64))), .second, .unset, .unset]) rfl (XS.iload X0.here hx rfl (hb hby at_51) rfl (XS.iconst X0.here hx rfl (hb hby at_53) (XS.icmpYes X0.here hx rfl (pc0 := 54) (pc' := 65) rfl (hb hby at_54) rfl (tlt (show (2 : Int32) < (3 : Int32) from (by decide))).1 (by decide) (by decide) k)))) ?_
    show Go p e below _ s₁ (mkF m 65 #[.val (.int i0), .val (.int i1), .val (.int i2), .val (.int i3), .val (.int i4), .val (.int (2 : Int32)), .val (.int (i1 &&& (2147483647 : Int32))), .val (.int (i2 &&& (2147483647 : Int32))), .val (.int (i3 &&& (2147483647 : Int32))), .val (.int (i4 &&& (2147483647 : Int32))), .val (.long (((i1 &&& (2147483647 : Int32)).toInt64) + ((i2 &&& (2147483647 : Int32)).toInt64))), .second, .unset, .unset] [])
    refine Go.by (fun t k => XS.iload X0.here hx rfl (hb hby at_65) rfl (XS.iconst X0.here hx rfl (hb hby at_67) (XS.icmpYes X0.here hx rfl (pc0 := 68) (pc' := 79) rfl (hb hby at_68) rfl (tlt (show (2 : Int32) < (4 : Int32) from (by decide))).1 (by decide) (by decide) k))) ?_
    show Go p e below _ s₁ (mkF m 79 #[.val (.int i0), .val (.int i1), .val (.int i2), .val (.int i3), .val (.int i4), .val (.int (2 : Int32)), .val (.int (i1 &&& (2147483647 : Int32))), .val (.int (i2 &&& (2147483647 : Int32))), .val (.int (i3 &&& (2147483647 : Int32))), .val (.int (i4 &&& (2147483647 : Int32))), .val (.long (((i1 &&& (2147483647 : Int32)).toInt64) + ((i2 &&& (2147483647 : Int32)).toInt64))), .second, .unset, .unset] [])
    refine Go.by (fun t k => XS.lload X0.here hx rfl (hb hby at_79) rfl (XS.lconst X0.here hx rfl (hb hby at_81) (XS.lcmp X0.here hx rfl (hb hby at_82) rfl k))) ?_
    show Go p e below _ s₁ (mkF m 83 #[.val (.int i0), .val (.int i1), .val (.int i2), .val (.int i3), .val (.int i4), .val (.int (2 : Int32)), .val (.int (i1 &&& (2147483647 : Int32))), .val (.int (i2 &&& (2147483647 : Int32))), .val (.int (i3 &&& (2147483647 : Int32))), .val (.int (i4 &&& (2147483647 : Int32))), .val (.long (((i1 &&& (2147483647 : Int32)).toInt64) + ((i2 &&& (2147483647 : Int32)).toInt64))), .second, .unset, .unset] [(.int (lcmpW (((i1 &&& (2147483647 : Int32)).toInt64) + ((i2 &&& (2147483647 : Int32)).toInt64)) (0 : Int64)))])
    by_cases hz : (lcmpW (((i1 &&& (2147483647 : Int32)).toInt64) + ((i2 &&& (2147483647 : Int32)).toInt64)) (0 : Int64)) = (0 : Int32)
    · refine Go.by (fun t k => XS.ifNo X0.here hx rfl (hb hby at_83) rfl ((if0 _ _).trans (teq (show (lcmpW (((i1 &&& (2147483647 : Int32)).toInt64) + ((i2 &&& (2147483647 : Int32)).toInt64)) (0 : Int64)) = (0 : Int32) from hz)).2) k) ?_
      show Go p e below _ s₁ (mkF m 86 #[.val (.int i0), .val (.int i1), .val (.int i2), .val (.int i3), .val (.int i4), .val (.int (2 : Int32)), .val (.int (i1 &&& (2147483647 : Int32))), .val (.int (i2 &&& (2147483647 : Int32))), .val (.int (i3 &&& (2147483647 : Int32))), .val (.int (i4 &&& (2147483647 : Int32))), .val (.long (((i1 &&& (2147483647 : Int32)).toInt64) + ((i2 &&& (2147483647 : Int32)).toInt64))), .second, .unset, .unset] [])
      refine Go.by (fun t k => XS.iconst X0.here hx rfl (hb hby at_86) k) ?_
      show Go p e below _ s₁ (mkF m 87 #[.val (.int i0), .val (.int i1), .val (.int i2), .val (.int i3), .val (.int i4), .val (.int (2 : Int32)), .val (.int (i1 &&& (2147483647 : Int32))), .val (.int (i2 &&& (2147483647 : Int32))), .val (.int (i3 &&& (2147483647 : Int32))), .val (.int (i4 &&& (2147483647 : Int32))), .val (.long (((i1 &&& (2147483647 : Int32)).toInt64) + ((i2 &&& (2147483647 : Int32)).toInt64))), .second, .unset, .unset] [(.int (1 : Int32))])
      exact Go.retN X0 hx (t := .boolean) hret (by simp) hlk (hb hby at_87) (by first | (rw [e0]; exact ⟨rfl, N0, K0⟩) | exact ⟨rfl, N0, K0⟩) (by decide) (by decide)
    · skip
      refine Go.by (fun t k => XS.ifYes X0.here hx rfl (pc0 := 83) (pc' := 88) rfl (hb hby at_83) rfl ((if0 _ _).trans (feq (show ¬ ((lcmpW (((i1 &&& (2147483647 : Int32)).toInt64) + ((i2 &&& (2147483647 : Int32)).toInt64)) (0 : Int64)) = (0 : Int32)) from hz)).2) (by decide) (by decide) k) ?_
      show Go p e below _ s₁ (mkF m 88 #[.val (.int i0), .val (.int i1), .val (.int i2), .val (.int i3), .val (.int i4), .val (.int (2 : Int32)), .val (.int (i1 &&& (2147483647 : Int32))), .val (.int (i2 &&& (2147483647 : Int32))), .val (.int (i3 &&& (2147483647 : Int32))), .val (.int (i4 &&& (2147483647 : Int32))), .val (.long (((i1 &&& (2147483647 : Int32)).toInt64) + ((i2 &&& (2147483647 : Int32)).toInt64))), .second, .unset, .unset] [])
      refine Go.by (fun t k => XS.iload X0.here hx rfl (hb hby at_88) rfl (XS.iconst X0.here hx rfl (hb hby at_90) (XS.icmpYes X0.here hx rfl (pc0 := 91) (pc' := 108) rfl (hb hby at_91) rfl (feq (show ¬ ((2 : Int32) = (1 : Int32)) from (by decide))).2 (by decide) (by decide) k))) ?_
      show Go p e below _ s₁ (mkF m 108 #[.val (.int i0), .val (.int i1), .val (.int i2), .val (.int i3), .val (.int i4), .val (.int (2 : Int32)), .val (.int (i1 &&& (2147483647 : Int32))), .val (.int (i2 &&& (2147483647 : Int32))), .val (.int (i3 &&& (2147483647 : Int32))), .val (.int (i4 &&& (2147483647 : Int32))), .val (.long (((i1 &&& (2147483647 : Int32)).toInt64) + ((i2 &&& (2147483647 : Int32)).toInt64))), .second, .unset, .unset] [])
      refine Go.by (fun t k => XS.iload X0.here hx rfl (hb hby at_108) rfl (XS.iconst X0.here hx rfl (hb hby at_110) (XS.icmpNo X0.here hx rfl (hb hby at_111) rfl (teq (show (2 : Int32) = (2 : Int32) from (by decide))).2 k))) ?_
      show Go p e below _ s₁ (mkF m 114 #[.val (.int i0), .val (.int i1), .val (.int i2), .val (.int i3), .val (.int i4), .val (.int (2 : Int32)), .val (.int (i1 &&& (2147483647 : Int32))), .val (.int (i2 &&& (2147483647 : Int32))), .val (.int (i3 &&& (2147483647 : Int32))), .val (.int (i4 &&& (2147483647 : Int32))), .val (.long (((i1 &&& (2147483647 : Int32)).toInt64) + ((i2 &&& (2147483647 : Int32)).toInt64))), .second, .unset, .unset] [])
      refine Go.by (fun t k => XS.iconst X0.here hx rfl (hb hby at_114) k) ?_
      show Go p e below _ s₁ (mkF m 115 #[.val (.int i0), .val (.int i1), .val (.int i2), .val (.int i3), .val (.int i4), .val (.int (2 : Int32)), .val (.int (i1 &&& (2147483647 : Int32))), .val (.int (i2 &&& (2147483647 : Int32))), .val (.int (i3 &&& (2147483647 : Int32))), .val (.int (i4 &&& (2147483647 : Int32))), .val (.long (((i1 &&& (2147483647 : Int32)).toInt64) + ((i2 &&& (2147483647 : Int32)).toInt64))), .second, .unset, .unset] [(.int (2 : Int32))])
      obtain ⟨T257, h257, k257, X257, e257, E257, A257, st257⟩ := newP X0 hx hZ (aty := .double) (ow1 hw) e0 (g := (mkF m 115 #[.val (.int i0), .val (.int i1), .val (.int i2), .val (.int i3), .val (.int i4), .val (.int (2 : Int32)), .val (.int (i1 &&& (2147483647 : Int32))), .val (.int (i2 &&& (2147483647 : Int32))), .val (.int (i3 &&& (2147483647 : Int32))), .val (.int (i4 &&& (2147483647 : Int32))), .val (.long (((i1 &&& (2147483647 : Int32)).toInt64) + ((i2 &&& (2147483647 : Int32)).toInt64))), .second, .unset, .unset] [(.int (2 : Int32))])) rfl (hb hby at_115) rfl (by decide) (cap := 2) (by decide) (by decide) (by decide) (by decide)
      obtain ⟨b257, g257⟩ : ∃ z, z = h0.size := ⟨_, rfl⟩
      rw [← g257] at A257 st257
      refine Go.by st257 ?_
      have K258 : Keep h0 h257 [] := K0.ext E257
      show Go p e below _ T257 (mkF m 117 #[.val (.int i0), .val (.int i1), .val (.int i2), .val (.int i3), .val (.int i4), .val (.int (2 : Int32)), .val (.int (i1 &&& (2147483647 : Int32))), .val (.int (i2 &&& (2147483647 : Int32))), .val (.int (i3 &&& (2147483647 : Int32))), .val (.int (i4 &&& (2147483647 : Int32))), .val (.long (((i1 &&& (2147483647 : Int32)).toInt64) + ((i2 &&& (2147483647 : Int32)).toInt64))), .second, .unset, .unset] [(.ref b257)])
      have V257 : Arv Z h257 b257 k257 .double (2 : Int32) [(.double (FP.l2d 0)), (.double (FP.l2d 0))] (.double (FP.l2d 0)) := (Arv.newD A257 (by decide)).pad (pad_rep [] (.double (FP.l2d 0)) 2)
      refine Go.by (fun t k => XS.dup X257.here hx rfl (hb hby at_117) rfl rfl (XS.iconst X257.here hx rfl (hb hby at_118) (XS.iload X257.here hx rfl (hb hby at_119) rfl (XS.i2dS X257.here hx rfl (hb hby at_121) rfl (i2d_w _) k)))) ?_
      show Go p e below _ T257 (mkF m 122 #[.val (.int i0), .val (.int i1), .val (.int i2), .val (.int i3), .val (.int i4), .val (.int (2 : Int32)), .val (.int (i1 &&& (2147483647 : Int32))), .val (.int (i2 &&& (2147483647 : Int32))), .val (.int (i3 &&& (2147483647 : Int32))), .val (.int (i4 &&& (2147483647 : Int32))), .val (.long (((i1 &&& (2147483647 : Int32)).toInt64) + ((i2 &&& (2147483647 : Int32)).toInt64))), .second, .unset, .unset] [(.double (FP.l2d (i1 &&& (2147483647 : Int32)).toInt64)), (.int (0 : Int32)), (.ref b257), (.ref b257)])
      obtain ⟨c259, A259, q259, S259, M259, G259, J259⟩ := id V257
      obtain ⟨T259, h259, X259, e259, W259, st259⟩ := stD X257 hx hZ e257 A259 (j := (0 : Int32)) (inb_of S259 ⟨by decide, by decide⟩) (g := (mkF m 122 #[.val (.int i0), .val (.int i1), .val (.int i2), .val (.int i3), .val (.int i4), .val (.int (2 : Int32)), .val (.int (i1 &&& (2147483647 : Int32))), .val (.int (i2 &&& (2147483647 : Int32))), .val (.int (i3 &&& (2147483647 : Int32))), .val (.int (i4 &&& (2147483647 : Int32))), .val (.long (((i1 &&& (2147483647 : Int32)).toInt64) + ((i2 &&& (2147483647 : Int32)).toInt64))), .second, .unset, .unset] [(.double (FP.l2d (i1 &&& (2147483647 : Int32)).toInt64)), (.int (0 : Int32)), (.ref b257), (.ref b257)])) rfl rfl (hb hby at_122)
      refine Go.by st259 ?_
      have N259 := Fr.snoc X259 N0 (Nat.le_trans (Nat.le_trans Z0 (Nat.le_refl _)) (Nat.le_of_eq g257.symm))
      have K260 : Keep h0 h259 [] := K258.wr W259 (Or.inr (Nat.le_trans (Nat.le_refl _) (Nat.le_of_eq g257.symm)))
      show Go p e below _ T259 (mkF m 123 #[.val (.int i0), .val (.int i1), .val (.int i2), .val (.int i3), .val (.int i4), .val (.int (2 : Int32)), .val (.int (i1 &&& (2147483647 : Int32))), .val (.int (i2 &&& (2147483647 : Int32))), .val (.int (i3 &&& (2147483647 : Int32))), .val (.int (i4 &&& (2147483647 : Int32))), .val (.long (((i1 &&& (2147483647 : Int32)).toInt64) + ((i2 &&& (2147483647 : Int32)).toInt64))), .second, .unset, .unset] [(.ref b257)])
      have V259 : Arv Z h259 b257 k257 .double (2 : Int32) ([(.double (FP.l2d (i1 &&& (2147483647 : Int32)).toInt64)), (.double (FP.l2d 0))]) (.double (FP.l2d 0)) := Arv.set A259 q259 S259 M259 G259 J259 rfl W259 0 rfl (Nat.le_of_ble_eq_true rfl)
      refine Go.by (fun t k => XS.dup X259.here hx rfl (hb hby at_123) rfl rfl (XS.iconst X259.here hx rfl (hb hby at_124) (XS.iload X259.here hx rfl (hb hby at_125) rfl (XS.i2dS X259.here hx rfl (hb hby at_127) rfl (i2d_w _) k)))) ?_
      show Go p e below _ T259 (mkF m 128 #[.val (.int i0), .val (.int i1), .val (.int i2), .val (.int i3), .val (.int i4), .val (.int (2 : Int32)), .val (.int (i1 &&& (2147483647 : Int32))), .val (.int (i2 &&& (2147483647 : Int32))), .val (.int (i3 &&& (2147483647 : Int32))), .val (.int (i4 &&& (2147483647 : Int32))), .val (.long (((i1 &&& (2147483647 : Int32)).toInt64) + ((i2 &&& (2147483647 : Int32)).toInt64))), .second, .unset, .unset] [(.double (FP.l2d (i2 &&& (2147483647 : Int32)).toInt64)), (.int (1 : Int32)), (.ref b257), (.ref b257)])
      obtain ⟨c261, A261, q261, S261, M261, G261, J261⟩ := id V259
      obtain ⟨T261, h261, X261, e261, W261, st261⟩ := stD X259 hx hZ e259 A261 (j := (1 : Int32)) (inb_of S261 ⟨by decide, by decide⟩) (g := (mkF m 128 #[.val (.int i0), .val (.int i1), .val (.int i2), .val (.int i3), .val (.int i4), .val (.int (2 : Int32)), .val (.int (i1 &&& (2147483647 : Int32))), .val (.int (i2 &&& (2147483647 : Int32))), .val (.int (i3 &&& (2147483647 : Int32))), .val (.int (i4 &&& (2147483647 : Int32))), .val (.long (((i1 &&& (2147483647 : Int32)).toInt64) + ((i2 &&& (2147483647 : Int32)).toInt64))), .second, .unset, .unset] [(.double (FP.l2d (i2 &&& (2147483647 : Int32)).toInt64)), (.int (1 : Int32)), (.ref b257), (.ref b257)])) rfl rfl (hb hby at_128)
      refine Go.by st261 ?_
      have N261 := Fr.snoc X261 N259 (Nat.le_trans (Nat.le_trans Z0 (Nat.le_refl _)) (Nat.le_of_eq g257.symm))
      have K262 : Keep h0 h261 [] := K260.wr W261 (Or.inr (Nat.le_trans (Nat.le_refl _) (Nat.le_of_eq g257.symm)))
      show Go p e below _ T261 (mkF m 129 #[.val (.int i0), .val (.int i1), .val (.int i2), .val (.int i3), .val (.int i4), .val (.int (2 : Int32)), .val (.int (i1 &&& (2147483647 : Int32))), .val (.int (i2 &&& (2147483647 : Int32))), .val (.int (i3 &&& (2147483647 : Int32))), .val (.int (i4 &&& (2147483647 : Int32))), .val (.long (((i1 &&& (2147483647 : Int32)).toInt64) + ((i2 &&& (2147483647 : Int32)).toInt64))), .second, .unset, .unset] [(.ref b257)])
      have V261 : Arv Z h261 b257 k257 .double (2 : Int32) ([(.double (FP.l2d (i1 &&& (2147483647 : Int32)).toInt64)), (.double (FP.l2d (i2 &&& (2147483647 : Int32)).toInt64))]) (.double (FP.l2d 0)) := Arv.set A261 q261 S261 M261 G261 J261 rfl W261 1 rfl (Nat.le_of_ble_eq_true rfl)
      refine Go.by (fun t k => XS.astore X261.here hx rfl (hb hby at_129) rfl rfl (l' := #[.val (.int i0), .val (.int i1), .val (.int i2), .val (.int i3), .val (.int i4), .val (.int (2 : Int32)), .val (.int (i1 &&& (2147483647 : Int32))), .val (.int (i2 &&& (2147483647 : Int32))), .val (.int (i3 &&& (2147483647 : Int32))), .val (.int (i4 &&& (2147483647 : Int32))), .val (.long (((i1 &&& (2147483647 : Int32)).toInt64) + ((i2 &&& (2147483647 : Int32)).toInt64))), .second, .val (.ref b257), .unset]) rfl (XS.goto X261.here hx rfl (pc0 := 131) (pc' := 195) rfl (hb hby at_131) (by decide) (by decide) k)) ?_
      show Go p e below _ T261 (mkF m 195 #[.val (.int i0), .val (.int i1), .val (.int i2), .val (.int i3), .val (.int i4), .val (.int (2 : Int32)), .val (.int (i1 &&& (2147483647 : Int32))), .val (.int (i2 &&& (2147483647 : Int32))), .val (.int (i3 &&& (2147483647 : Int32))), .val (.int (i4 &&& (2147483647 : Int32))), .val (.long (((i1 &&& (2147483647 : Int32)).toInt64) + ((i2 &&& (2147483647 : Int32)).toInt64))), .second, .val (.ref b257), .unset] [])
      obtain ⟨T263, h263, X263, e263, E263, A263, D263, U263, st263⟩ := newO X261 hx hZ hown (ow2 hw) (ow3 hw) (ow4 hw) e261 (g := (mkF m 195 #[.val (.int i0), .val (.int i1), .val (.int i2), .val (.int i3), .val (.int i4), .val (.int (2 : Int32)), .val (.int (i1 &&& (2147483647 : Int32))), .val (.int (i2 &&& (2147483647 : Int32))), .val (.int (i3 &&& (2147483647 : Int32))), .val (.int (i4 &&& (2147483647 : Int32))), .val (.long (((i1 &&& (2147483647 : Int32)).toInt64) + ((i2 &&& (2147483647 : Int32)).toInt64))), .second, .val (.ref b257), .unset] [])) rfl (hb hby at_195) (by decide) (by decide)
      obtain ⟨b263, g263⟩ : ∃ z, z = h261.size := ⟨_, rfl⟩
      rw [← g263] at A263 D263 U263 st263
      refine Go.by st263 ?_
      have K264 : Keep h0 h263 [] := K262.ext E263
      show Go p e below _ T263 (mkF m 198 #[.val (.int i0), .val (.int i1), .val (.int i2), .val (.int i3), .val (.int i4), .val (.int (2 : Int32)), .val (.int (i1 &&& (2147483647 : Int32))), .val (.int (i2 &&& (2147483647 : Int32))), .val (.int (i3 &&& (2147483647 : Int32))), .val (.int (i4 &&& (2147483647 : Int32))), .val (.long (((i1 &&& (2147483647 : Int32)).toInt64) + ((i2 &&& (2147483647 : Int32)).toInt64))), .second, .val (.ref b257), .unset] [(.ref b263)])
      refine Go.by (fun t k => XS.dup X263.here hx rfl (hb hby at_198) rfl rfl (XS.aload X263.here hx rfl (hb hby at_199) rfl rfl k)) ?_
      show Go p e below _ T263 (mkF m 201 #[.val (.int i0), .val (.int i1), .val (.int i2), .val (.int i3), .val (.int i4), .val (.int (2 : Int32)), .val (.int (i1 &&& (2147483647 : Int32))), .val (.int (i2 &&& (2147483647 : Int32))), .val (.int (i3 &&& (2147483647 : Int32))), .val (.int (i4 &&& (2147483647 : Int32))), .val (.long (((i1 &&& (2147483647 : Int32)).toInt64) + ((i2 &&& (2147483647 : Int32)).toInt64))), .second, .val (.ref b257), .unset] [(.ref b257), (.ref b263), (.ref b263)])
      have F266 : Arv Z h263 b257 k257 .double (2 : Int32) ([(.double (FP.l2d (i1 &&& (2147483647 : Int32)).toInt64)), (.double (FP.l2d (i2 &&& (2147483647 : Int32)).toInt64))]) (.double (FP.l2d 0)) := (V261.ext E263)
      obtain ⟨_, _, ⟨T265, L265, k265, n265⟩, -, X265, ⟨Lc265, hQ265, l265, y265, z265⟩, st265⟩ := X263.specialBack hx (y := (⟨"com/example/shardpick/shardpick/generate/WeightedDraw", "<init>", "([D)V"⟩ : MethodName)) rfl hown (mvT hZ (ow5 hw)) (mvT hZ (ow6 hw)) (mvT hZ (ow7 hw)) (by decide) (backOf (W := 1) (rm_wd2 l Z a0 hw [] b263 b257 k257 ((i1 &&& (2147483647 : Int32)).toInt64) ((i2 &&& (2147483647 : Int32)).toInt64) h263 n0 (Nat.le_trans Z0 (Nat.le_trans (Nat.le_trans (Nat.le_trans E257.1 (Keep.of_wr W259).1) (Keep.of_wr W261).1) E263.1)) A263 ((Nat.le_trans (Nat.le_trans Z0 (Nat.le_trans (Nat.le_trans E257.1 (Keep.of_wr W259).1) (Keep.of_wr W261).1)) (Nat.le_of_eq g263.symm))) (D263 (Or.inr (ow12 hw)) (ty := (.array .double)) (by decide)) F266 (in_mask _) (in_mask _)) hZ (ow7 hw) (ow4 hw) (by decide) (by decide)) (g := (mkF m 201 #[.val (.int i0), .val (.int i1), .val (.int i2), .val (.int i3), .val (.int i4), .val (.int (2 : Int32)), .val (.int (i1 &&& (2147483647 : Int32))), .val (.int (i2 &&& (2147483647 : Int32))), .val (.int (i3 &&& (2147483647 : Int32))), .val (.int (i4 &&& (2147483647 : Int32))), .val (.long (((i1 &&& (2147483647 : Int32)).toInt64) + ((i2 &&& (2147483647 : Int32)).toInt64))), .second, .val (.ref b257), .unset] [(.ref b257), (.ref b263), (.ref b263)])) rfl (by rw [hml]; rfl) (Steps.refl _) (a := b263) (argsL := [(.ref b257)]) (rest := [(.ref b263)]) (lenOf opd_0 rfl) rfl (by show 2 * 0 + _ ≤ _; exact Nat.le_of_eq rfl) (hb hby at_201) (fun _ _ => ⟨rfl, e263, (by decide : 2 + 1 ≤ _), (by decide : 3 + 2 ≤ _)⟩)
      dsimp only [Pt.U, Pt.locs, Pt.cells, Pt.slots] at X265 l265 y265 z265 st265 hQ265
      subst l265 y265 z265
      obtain ⟨bt_265, kt_265, rfl, N265q, K265q, P265_0, P265_1, P265_2⟩ := hQ265
      have N265 := Fr.app N261 N265q
      refine Go.tr st265 ?_
      have K267 : Keep h0 T265.heap [] := K264.trans K265q (allS (Or.inr (Nat.le_trans (Nat.le_trans (Nat.le_trans E257.1 (Keep.of_wr W259).1) (Keep.of_wr W261).1) (Nat.le_of_eq g263.symm))) all0)
      show Go p e below _ T265 (mkF m 204 #[.val (.int i0), .val (.int i1), .val (.int i2), .val (.int i3), .val (.int i4), .val (.int (2 : Int32)), .val (.int (i1 &&& (2147483647 : Int32))), .val (.int (i2 &&& (2147483647 : Int32))), .val (.int (i3 &&& (2147483647 : Int32))), .val (.int (i4 &&& (2147483647 : Int32))), .val (.long (((i1 &&& (2147483647 : Int32)).toInt64) + ((i2 &&& (2147483647 : Int32)).toInt64))), .second, .val (.ref b257), .unset] [(.ref b263)])
      refine Go.by (fun t k => XS.astore X265.here hx rfl (hb hby at_204) rfl rfl (l' := #[.val (.int i0), .val (.int i1), .val (.int i2), .val (.int i3), .val (.int i4), .val (.int (2 : Int32)), .val (.int (i1 &&& (2147483647 : Int32))), .val (.int (i2 &&& (2147483647 : Int32))), .val (.int (i3 &&& (2147483647 : Int32))), .val (.int (i4 &&& (2147483647 : Int32))), .val (.long (((i1 &&& (2147483647 : Int32)).toInt64) + ((i2 &&& (2147483647 : Int32)).toInt64))), .second, .val (.ref b257), .val (.ref b263)]) rfl (XS.aload X265.here hx rfl (hb hby at_206) rfl rfl k)) ?_
      show Go p e below _ T265 (mkF m 208 #[.val (.int i0), .val (.int i1), .val (.int i2), .val (.int i3), .val (.int i4), .val (.int (2 : Int32)), .val (.int (i1 &&& (2147483647 : Int32))), .val (.int (i2 &&& (2147483647 : Int32))), .val (.int (i3 &&& (2147483647 : Int32))), .val (.int (i4 &&& (2147483647 : Int32))), .val (.long (((i1 &&& (2147483647 : Int32)).toInt64) + ((i2 &&& (2147483647 : Int32)).toInt64))), .second, .val (.ref b257), .val (.ref b263)] [(.ref b263)])
      obtain ⟨cq268, kq268, q268a, q268b, q268c⟩ := isOf hZ rfl P265_0
      obtain ⟨_, _, ⟨T268, L268, k268, n268⟩, -, X268, ⟨Lc268, hQ268, l268, y268, z268⟩, st268⟩ := X265.virtualBack hx (y := (⟨"com/example/shardpick/shardpick/generate/WeightedDraw", "total", "()D"⟩ : MethodName)) (z := (⟨"com/example/shardpick/shardpick/generate/WeightedDraw", "total", "()D"⟩ : MethodName)) hown (mvT hZ (ow13 hw)) (mvT hZ (ow14 hw)) (notFace_of_selects (args := #[]) (mvT hZ (ow16 hw))) (mvT hZ (ow16 hw)) (mvT hZ (ow15 hw)) (by decide) (backOf (W := 0) (rm_tot2 l Z a0 hw [] b263 bt_265 kt_265 ((0 : Int64) + ((i1 &&& (2147483647 : Int32)).toInt64)) (((0 : Int64) + ((i1 &&& (2147483647 : Int32)).toInt64)) + ((i2 &&& (2147483647 : Int32)).toInt64)) T265.heap n0 (Nat.le_trans Z0 (Nat.le_trans (Nat.le_trans (Nat.le_trans (Nat.le_trans E257.1 (Keep.of_wr W259).1) (Keep.of_wr W261).1) E263.1) K265q.1)) P265_1 P265_2) hZ (ow17 hw) (ow4 hw) (by decide) (by decide)) q268a q268c (g := (mkF m 208 #[.val (.int i0), .val (.int i1), .val (.int i2), .val (.int i3), .val (.int i4), .val (.int (2 : Int32)), .val (.int (i1 &&& (2147483647 : Int32))), .val (.int (i2 &&& (2147483647 : Int32))), .val (.int (i3 &&& (2147483647 : Int32))), .val (.int (i4 &&& (2147483647 : Int32))), .val (.long (((i1 &&& (2147483647 : Int32)).toInt64) + ((i2 &&& (2147483647 : Int32)).toInt64))), .second, .val (.ref b257), .val (.ref b263)] [(.ref b263)])) rfl (by rw [hml]; rfl) (Steps.refl _) (argsL := []) (rest := []) (lenOf opd_1 rfl) rfl (by show 2 * 0 + _ ≤ _; exact Nat.le_of_eq rfl) (hb hby at_208) (fun _ _ => ⟨rfl, rfl, (by decide : 3 + 0 ≤ _), (by decide : 5 + 0 ≤ _)⟩)
      dsimp only [Pt.U, Pt.locs, Pt.cells, Pt.slots] at X268 l268 y268 z268 st268 hQ268
      subst l268 y268 z268
      obtain ⟨rfl, N268q, e268⟩ := hQ268
      have N268 := Fr.app N265 N268q
      refine Go.tr st268 ?_
      show Go p e below _ T268 (mkF m 211 #[.val (.int i0), .val (.int i1), .val (.int i2), .val (.int i3), .val (.int i4), .val (.int (2 : Int32)), .val (.int (i1 &&& (2147483647 : Int32))), .val (.int (i2 &&& (2147483647 : Int32))), .val (.int (i3 &&& (2147483647 : Int32))), .val (.int (i4 &&& (2147483647 : Int32))), .val (.long (((i1 &&& (2147483647 : Int32)).toInt64) + ((i2 &&& (2147483647 : Int32)).toInt64))), .second, .val (.ref b257), .val (.ref b263)] [(.double (FP.l2d (((0 : Int64) + ((i1 &&& (2147483647 : Int32)).toInt64)) + ((i2 &&& (2147483647 : Int32)).toInt64))))])
      refine Go.by (fun t k => XS.lload X268.here hx rfl (hb hby at_211) rfl (XS.l2dS X268.here hx rfl (hb hby at_213) rfl rfl k)) ?_
      show Go p e below _ T268 (mkF m 214 #[.val (.int i0), .val (.int i1), .val (.int i2), .val (.int i3), .val (.int i4), .val (.int (2 : Int32)), .val (.int (i1 &&& (2147483647 : Int32))), .val (.int (i2 &&& (2147483647 : Int32))), .val (.int (i3 &&& (2147483647 : Int32))), .val (.int (i4 &&& (2147483647 : Int32))), .val (.long (((i1 &&& (2147483647 : Int32)).toInt64) + ((i2 &&& (2147483647 : Int32)).toInt64))), .second, .val (.ref b257), .val (.ref b263)] [(.double (FP.l2d (((i1 &&& (2147483647 : Int32)).toInt64) + ((i2 &&& (2147483647 : Int32)).toInt64)))), (.double (FP.l2d (((0 : Int64) + ((i1 &&& (2147483647 : Int32)).toInt64)) + ((i2 &&& (2147483647 : Int32)).toInt64))))])
      have q269 : cmpValue (FP.dcmp (FP.l2d (((0 : Int64) + ((i1 &&& (2147483647 : Int32)).toInt64)) + ((i2 &&& (2147483647 : Int32)).toInt64))) (FP.l2d (((i1 &&& (2147483647 : Int32)).toInt64) + ((i2 &&& (2147483647 : Int32)).toInt64)))) .l = (0 : Int32) := (by rw [Int64.zero_add]; exact dcmpV_self (nn_w rfl) _)
      refine Go.by (fun t k => XS.dcmpS X268.here hx rfl (hb hby at_214) rfl q269 k) ?_
      show Go p e below _ T268 (mkF m 215 #[.val (.int i0), .val (.int i1), .val (.int i2), .val (.int i3), .val (.int i4), .val (.int (2 : Int32)), .val (.int (i1 &&& (2147483647 : Int32))), .val (.int (i2 &&& (2147483647 : Int32))), .val (.int (i3 &&& (2147483647 : Int32))), .val (.int (i4 &&& (2147483647 : Int32))), .val (.long (((i1 &&& (2147483647 : Int32)).toInt64) + ((i2 &&& (2147483647 : Int32)).toInt64))), .second, .val (.ref b257), .val (.ref b263)] [(.int (0 : Int32))])
      refine Go.by (fun t k => XS.ifNo X268.here hx rfl (hb hby at_215) rfl ((if0 _ _).trans (teq (show (0 : Int32) = (0 : Int32) from (by decide))).2) k) ?_
      show Go p e below _ T268 (mkF m 218 #[.val (.int i0), .val (.int i1), .val (.int i2), .val (.int i3), .val (.int i4), .val (.int (2 : Int32)), .val (.int (i1 &&& (2147483647 : Int32))), .val (.int (i2 &&& (2147483647 : Int32))), .val (.int (i3 &&& (2147483647 : Int32))), .val (.int (i4 &&& (2147483647 : Int32))), .val (.long (((i1 &&& (2147483647 : Int32)).toInt64) + ((i2 &&& (2147483647 : Int32)).toInt64))), .second, .val (.ref b257), .val (.ref b263)] [])
      refine Go.by (fun t k => XS.iconst X268.here hx rfl (hb hby at_218) (XS.goto X268.here hx rfl (pc0 := 219) (pc' := 223) rfl (hb hby at_219) (by decide) (by decide) k)) ?_
      show Go p e below _ T268 (mkF m 223 #[.val (.int i0), .val (.int i1), .val (.int i2), .val (.int i3), .val (.int i4), .val (.int (2 : Int32)), .val (.int (i1 &&& (2147483647 : Int32))), .val (.int (i2 &&& (2147483647 : Int32))), .val (.int (i3 &&& (2147483647 : Int32))), .val (.int (i4 &&& (2147483647 : Int32))), .val (.long (((i1 &&& (2147483647 : Int32)).toInt64) + ((i2 &&& (2147483647 : Int32)).toInt64))), .second, .val (.ref b257), .val (.ref b263)] [(.int (1 : Int32))])
      exact Go.retN X268 hx (t := .boolean) hret (by simp) hlk (hb hby at_223) (by first | (rw [e268]; exact ⟨rfl, N268, K267⟩) | exact ⟨rfl, N268, K267⟩) (by decide) (by decide)
  · rw [hk245]
    show Go p e below _ s₁ (mkF m 4 #[.val (.int i0), .val (.int i1), .val (.int i2), .val (.int i3), .val (.int i4), .unset, .unset, .unset, .unset, .unset, .unset, .unset, .unset, .unset] [(.int (2 : Int32)), (.int (1 : Int32))])
    refine Go.by (fun t k => XS.iadd X0.here hx rfl (hb hby at_4) rfl (XS.istore X0.here hx rfl (hb hby at_5) rfl (l' := #[.val (.int i0), .val (.int i1), .val (.int i2), .val (.int i3), .val (.int i4), .val (.int (3 : Int32)), .unset, .unset, .unset, .unset, .unset, .unset, .unset, .unset]) rfl (XS.iloadN X0.here hx rfl (hb hby at_7) rfl k))) ?_
    show Go p e below _ s₁ (mkF m 8 #[.val (.int i0), .val (.int i1), .val (.int i2), .val (.int i3), .val (.int i4), .val (.int (3 : Int32)), .unset, .unset, .unset, .unset, .unset, .unset, .unset, .unset] [(.int i1)])
    refine Go.by (X0.ldcInt hx hown (mvT hZ (ow0 hw)) (g := (mkF m 8 #[.val (.int i0), .val (.int i1), .val (.int i2), .val (.int i3), .val (.int i4), .val (.int (3 : Int32)), .unset, .unset, .unset, .unset, .unset, .unset, .unset, .unset] [(.int i1)])) rfl (hb hby at_8)) ?_
    show Go p e below _ s₁ (mkF m 10 #[.val (.int i0), .val (.int i1), .val (.int i2), .val (.int i3), .val (.int i4), .val (.int (3 : Int32)), .unset, .unset, .unset, .unset, .unset, .unset, .unset, .unset] [(.int (2147483647 : Int32)), (.int i1)])
    refine Go.by (fun t k => XS.iand X0.here hx rfl (hb hby at_10) rfl (XS.istore X0.here hx rfl (hb hby at_11) rfl (l' := #[.val (.int i0), .val (.int i1), .val (.int i2), .val (.int i3), .val (.int i4), .val (.int (3 : Int32)), .val (.int (i1 &&& (2147483647 : Int32))), .unset, .unset, .unset, .unset, .unset, .unset, .unset]) rfl (XS.iloadN X0.here hx rfl (hb hby at_13) rfl k))) ?_
    show Go p e below _ s₁ (mkF m 14 #[.val (.int i0), .val (.int i1), .val (.int i2), .val (.int i3), .val (.int i4), .val (.int (3 : Int32)), .val (.int (i1 &&& (2147483647 : Int32))), .unset, .unset, .unset, .unset, .unset, .unset, .unset] [(.int i2)])
    refine Go.by (X0.ldcInt hx hown (mvT hZ (ow0 hw)) (g := (mkF m 14 #[.val (.int i0), .val (.int i1), .val (.int i2), .val (.int i3), .val (.int i4), .val (.int (3 : Int32)), .val (.int (i1 &&& (2147483647 : Int32))), .unset, .unset, .unset, .unset, .unset, .unset, .unset] [(.int i2)])) rfl (hb hby at_14)) ?_
    show Go p e below _ s₁ (mkF m 16 #[.val (.int i0), .val (.int i1), .val (.int i2), .val (.int i3), .val (.int i4), .val (.int (3 : Int32)), .val (.int (i1 &&& (2147483647 : Int32))), .unset, .unset, .unset, .unset, .unset, .unset, .unset] [(.int (2147483647 : Int32)), (.int i2)])
    refine Go.by (fun t k => XS.iand X0.here hx rfl (hb hby at_16) rfl (XS.istore X0.here hx rfl (hb hby at_17) rfl (l' := #[.val (.int i0), .val (.int i1), .val (.int i2), .val (.int i3), .val (.int i4), .val (.int (3 : Int32)), .val (.int (i1 &&& (2147483647 : Int32))), .val (.int (i2 &&& (2147483647 : Int32))), .unset, .unset, .unset, .unset, .unset, .unset]) rfl (XS.iloadN X0.here hx rfl (hb hby at_19) rfl k))) ?_
    show Go p e below _ s₁ (mkF m 20 #[.val (.int i0), .val (.int i1), .val (.int i2), .val (.int i3), .val (.int i4), .val (.int (3 : Int32)), .val (.int (i1 &&& (2147483647 : Int32))), .val (.int (i2 &&& (2147483647 : Int32))), .unset, .unset, .unset, .unset, .unset, .unset] [(.int i3)])
    refine Go.by (X0.ldcInt hx hown (mvT hZ (ow0 hw)) (g := (mkF m 20 #[.val (.int i0), .val (.int i1), .val (.int i2), .val (.int i3), .val (.int i4), .val (.int (3 : Int32)), .val (.int (i1 &&& (2147483647 : Int32))), .val (.int (i2 &&& (2147483647 : Int32))), .unset, .unset, .unset, .unset, .unset, .unset] [(.int i3)])) rfl (hb hby at_20)) ?_
    show Go p e below _ s₁ (mkF m 22 #[.val (.int i0), .val (.int i1), .val (.int i2), .val (.int i3), .val (.int i4), .val (.int (3 : Int32)), .val (.int (i1 &&& (2147483647 : Int32))), .val (.int (i2 &&& (2147483647 : Int32))), .unset, .unset, .unset, .unset, .unset, .unset] [(.int (2147483647 : Int32)), (.int i3)])
    refine Go.by (fun t k => XS.iand X0.here hx rfl (hb hby at_22) rfl (XS.istore X0.here hx rfl (hb hby at_23) rfl (l' := #[.val (.int i0), .val (.int i1), .val (.int i2), .val (.int i3), .val (.int i4), .val (.int (3 : Int32)), .val (.int (i1 &&& (2147483647 : Int32))), .val (.int (i2 &&& (2147483647 : Int32))), .val (.int (i3 &&& (2147483647 : Int32))), .unset, .unset, .unset, .unset, .unset]) rfl (XS.iload X0.here hx rfl (hb hby at_25) rfl k))) ?_
    show Go p e below _ s₁ (mkF m 27 #[.val (.int i0), .val (.int i1), .val (.int i2), .val (.int i3), .val (.int i4), .val (.int (3 : Int32)), .val (.int (i1 &&& (2147483647 : Int32))), .val (.int (i2 &&& (2147483647 : Int32))), .val (.int (i3 &&& (2147483647 : Int32))), .unset, .unset, .unset, .unset, .unset] [(.int i4)])
    refine Go.by (X0.ldcInt hx hown (mvT hZ (ow0 hw)) (g := (mkF m 27 #[.val (.int i0), .val (.int i1), .val (.int i2), .val (.int i3), .val (.int i4), .val (.int (3 : Int32)), .val (.int (i1 &&& (2147483647 : Int32))), .val (.int (i2 &&& (2147483647 : Int32))), .val (.int (i3 &&& (2147483647 : Int32))), .unset, .unset, .unset, .unset, .unset] [(.int i4)])) rfl (hb hby at_27)) ?_
    show Go p e below _ s₁ (mkF m 29 #[.val (.int i0), .val (.int i1), .val (.int i2), .val (.int i3), .val (.int i4), .val (.int (3 : Int32)), .val (.int (i1 &&& (2147483647 : Int32))), .val (.int (i2 &&& (2147483647 : Int32))), .val (.int (i3 &&& (2147483647 : Int32))), .unset, .unset, .unset, .unset, .unset] [(.int (2147483647 : Int32)), (.int i4)])
    refine Go.by (fun t k => XS.iand X0.here hx rfl (hb hby at_29) rfl (XS.istore X0.here hx rfl (hb hby at_30) rfl (l' := #[.val (.int i0), .val (.int i1), .val (.int i2), .val (.int i3), .val (.int i4), .val (.int (3 : Int32)), .val (.int (i1 &&& (2147483647 : Int32))), .val (.int (i2 &&& (2147483647 : Int32))), .val (.int (i3 &&& (2147483647 : Int32))), .val (.int (i4 &&& (2147483647 : Int32))), .unset, .unset, .unset, .unset]) rfl (XS.iload X0.here hx rfl (hb hby at_32) rfl (XS.i2l X0.here hx rfl (hb hby at_34) rfl k)))) ?_
    show Go p e below _ s₁ (mkF m 35 #[.val (.int i0), .val (.int i1), .val (.int i2), .val (.int i3), .val (.int i4), .val (.int (3 : Int32)), .val (.int (i1 &&& (2147483647 : Int32))), .val (.int (i2 &&& (2147483647 : Int32))), .val (.int (i3 &&& (2147483647 : Int32))), .val (.int (i4 &&& (2147483647 : Int32))), .unset, .unset, .unset, .unset] [(.long ((i1 &&& (2147483647 : Int32)).toInt64))])
    refine Go.by (fun t k => XS.lstore X0.here hx rfl (hb hby at_35) rfl (l' := #[.val (.int i0), .val (.int i1), .val (.int i2), .val (.int i3), .val (.int i4), .val (.int (3 : Int32)), .val (.int (i1 &&& (2147483647 : Int32))), .val (.int (i2 &&& (2147483647 : Int32))), .val (.int (i3 &&& (2147483647 : Int32))), .val (.int (i4 &&& (2147483647 : Int32))), .val (.long ((i1 &&& (2147483647 : Int32)).toInt64)), .second, .unset, .unset]) rfl (XS.iload X0.here hx rfl (hb hby at_37) rfl (XS.iconst X0.here hx rfl (hb hby at_39) (XS.icmpNo X0.here hx rfl (hb hby at_40) rfl (flt (show ¬ ((3 : Int32) < (2 : Int32)) from (by decide))).1 k)))) ?_
    show Go p e below _ s₁ (mkF m 43 #[.val (.int i0), .val (.int i1), .val (.int i2), .val (.int i3), .val (.int i4), .val (.int (3 : Int32)), .val (.int (i1 &&& (2147483647 : Int32))), .val (.int (i2 &&& (2147483647 : Int32))), .val (.int (i3 &&& (2147483647 : Int32))), .val (.int (i4 &&& (2147483647 : Int32))), .val (.long ((i1 &&& (2147483647 : Int32)).toInt64)), .second, .unset, .unset] [])
    refine Go.by (fun t k => XS.lload X0.here hx rfl (hb hby at_43) rfl (XS.iload X0.here hx rfl (hb hby at_45) rfl (XS.i2l X0.here hx rfl (hb hby at_47) rfl (XS.ladd X0.here hx rfl (hb hby at_48) rfl k)))) ?_
    show Go p e below _ s₁ (mkF m 49 #[.val (.int i0), .val (.int i1), .val (.int i2), .val (.int i3), .val (.int i4), .val (.int (3 : Int32)), .val (.int (i1 &&& (2147483647 : Int32))), .val (.int (i2 &&& (2147483647 : Int32))), .val (.int (i3 &&& (2147483647 : Int32))), .val (.int (i4 &&& (2147483647 : Int32))), .val (.long ((i1 &&& (2147483647 : Int32)).toInt64)), .second, .unset, .unset] [(.long (((i1 &&& (2147483647 : Int32)).toInt64) + ((i2 &&& (2147483647 : Int32)).toInt64)))])
    refine Go.by (fun t k => XS.lstore X0.here hx rfl (hb hby at_49) rfl (l' := #[.val (.int i0), .val (.int i1), .val (.int i2), .val (.int i3), .val (.int i4), .val (.int (3 : Int32)), .val (.int (i1 &&& (2147483647 : Int32))), .val (.int (i2 &&& (2147483647 : Int32))), .val (.int (i3 &&& (2147483647 : Int32))), .val (.int (i4 &&& (2147483647 : Int32))), .val (.long (((i1 &&& (2147483647 : Int32)).toInt64) + ((i2 &&& (2147483647 : Int32)).toInt64))), .second, .unset, .unset]) rfl (XS.iload X0.here hx rfl (hb hby at_51) rfl (XS.iconst X0.here hx rfl (hb hby at_53) (XS.icmpNo X0.here hx rfl (hb hby at_54) rfl (flt (show ¬ ((3 : Int32) < (3 : Int32)) from (by decide))).1 k)))) ?_
    show Go p e below _ s₁ (mkF m 57 #[.val (.int i0), .val (.int i1), .val (.int i2), .val (.int i3), .val (.int i4), .val (.int (3 : Int32)), .val (.int (i1 &&& (2147483647 : Int32))), .val (.int (i2 &&& (2147483647 : Int32))), .val (.int (i3 &&& (2147483647 : Int32))), .val (.int (i4 &&& (2147483647 : Int32))), .val (.long (((i1 &&& (2147483647 : Int32)).toInt64) + ((i2 &&& (2147483647 : Int32)).toInt64))), .second, .unset, .unset] [])
    refine Go.by (fun t k => XS.lload X0.here hx rfl (hb hby at_57) rfl (XS.iload X0.here hx rfl (hb hby at_59) rfl (XS.i2l X0.here hx rfl (hb hby at_61) rfl (XS.ladd X0.here hx rfl (hb hby at_62) rfl k)))) ?_
    show Go p e below _ s₁ (mkF m 63 #[.val (.int i0), .val (.int i1), .val (.int i2), .val (.int i3), .val (.int i4), .val (.int (3 : Int32)), .val (.int (i1 &&& (2147483647 : Int32))), .val (.int (i2 &&& (2147483647 : Int32))), .val (.int (i3 &&& (2147483647 : Int32))), .val (.int (i4 &&& (2147483647 : Int32))), .val (.long (((i1 &&& (2147483647 : Int32)).toInt64) + ((i2 &&& (2147483647 : Int32)).toInt64))), .second, .unset, .unset] [(.long ((((i1 &&& (2147483647 : Int32)).toInt64) + ((i2 &&& (2147483647 : Int32)).toInt64)) + ((i3 &&& (2147483647 : Int32)).toInt64)))])
    refine Go.by (fun t k => XS.lstore X0.here hx rfl (hb hby at_63) rfl (l' := #[.val (.int i0), .val (.int i1), .val (.int i2), .val (.int i3), .val (.int i4), .val (.int (3 : Int32)), .val (.int (i1 &&& (2147483647 : Int32))), .val (.int (i2 &&& (2147483647 : Int32))), .val (.int (i3 &&& (2147483647 : Int32))), .val (.int (i4 &&& (2147483647 : Int32))), .val (.long ((((i1 &&& (2147483647 : Int32)).toInt64) + ((i2 &&& (2147483647 : Int32)).toInt64)) + ((i3 &&& (2147483647 : Int32)).toInt64))), .second, .unset, .unset]) rfl (XS.iload X0.here hx rfl (hb hby at_65) rfl (XS.iconst X0.here hx rfl (hb hby at_67) (XS.icmpYes X0.here hx rfl (pc0 := 68) (pc' := 79) rfl (hb hby at_68) rfl (tlt (show (3 : Int32) < (4 : Int32) from (by decide))).1 (by decide) (by decide) k)))) ?_
    show Go p e below _ s₁ (mkF m 79 #[.val (.int i0), .val (.int i1), .val (.int i2), .val (.int i3), .val (.int i4), .val (.int (3 : Int32)), .val (.int (i1 &&& (2147483647 : Int32))), .val (.int (i2 &&& (2147483647 : Int32))), .val (.int (i3 &&& (2147483647 : Int32))), .val (.int (i4 &&& (2147483647 : Int32))), .val (.long ((((i1 &&& (2147483647 : Int32)).toInt64) + ((i2 &&& (2147483647 : Int32)).toInt64)) + ((i3 &&& (2147483647 : Int32)).toInt64))), .second, .unset, .unset] [])
    refine Go.by (fun t k => XS.lload X0.here hx rfl (hb hby at_79) rfl (XS.lconst X0.here hx rfl (hb hby at_81) (XS.lcmp X0.here hx rfl (hb hby at_82) rfl k))) ?_
    show Go p e below _ s₁ (mkF m 83 #[.val (.int i0), .val (.int i1), .val (.int i2), .val (.int i3), .val (.int i4), .val (.int (3 : Int32)), .val (.int (i1 &&& (2147483647 : Int32))), .val (.int (i2 &&& (2147483647 : Int32))), .val (.int (i3 &&& (2147483647 : Int32))), .val (.int (i4 &&& (2147483647 : Int32))), .val (.long ((((i1 &&& (2147483647 : Int32)).toInt64) + ((i2 &&& (2147483647 : Int32)).toInt64)) + ((i3 &&& (2147483647 : Int32)).toInt64))), .second, .unset, .unset] [(.int (lcmpW ((((i1 &&& (2147483647 : Int32)).toInt64) + ((i2 &&& (2147483647 : Int32)).toInt64)) + ((i3 &&& (2147483647 : Int32)).toInt64)) (0 : Int64)))])
    by_cases hz : (lcmpW ((((i1 &&& (2147483647 : Int32)).toInt64) + ((i2 &&& (2147483647 : Int32)).toInt64)) + ((i3 &&& (2147483647 : Int32)).toInt64)) (0 : Int64)) = (0 : Int32)
    · refine Go.by (fun t k => XS.ifNo X0.here hx rfl (hb hby at_83) rfl ((if0 _ _).trans (teq (show (lcmpW ((((i1 &&& (2147483647 : Int32)).toInt64) + ((i2 &&& (2147483647 : Int32)).toInt64)) + ((i3 &&& (2147483647 : Int32)).toInt64)) (0 : Int64)) = (0 : Int32) from hz)).2) k) ?_
      show Go p e below _ s₁ (mkF m 86 #[.val (.int i0), .val (.int i1), .val (.int i2), .val (.int i3), .val (.int i4), .val (.int (3 : Int32)), .val (.int (i1 &&& (2147483647 : Int32))), .val (.int (i2 &&& (2147483647 : Int32))), .val (.int (i3 &&& (2147483647 : Int32))), .val (.int (i4 &&& (2147483647 : Int32))), .val (.long ((((i1 &&& (2147483647 : Int32)).toInt64) + ((i2 &&& (2147483647 : Int32)).toInt64)) + ((i3 &&& (2147483647 : Int32)).toInt64))), .second, .unset, .unset] [])
      refine Go.by (fun t k => XS.iconst X0.here hx rfl (hb hby at_86) k) ?_
      show Go p e below _ s₁ (mkF m 87 #[.val (.int i0), .val (.int i1), .val (.int i2), .val (.int i3), .val (.int i4), .val (.int (3 : Int32)), .val (.int (i1 &&& (2147483647 : Int32))), .val (.int (i2 &&& (2147483647 : Int32))), .val (.int (i3 &&& (2147483647 : Int32))), .val (.int (i4 &&& (2147483647 : Int32))), .val (.long ((((i1 &&& (2147483647 : Int32)).toInt64) + ((i2 &&& (2147483647 : Int32)).toInt64)) + ((i3 &&& (2147483647 : Int32)).toInt64))), .second, .unset, .unset] [(.int (1 : Int32))])
      exact Go.retN X0 hx (t := .boolean) hret (by simp) hlk (hb hby at_87) (by first | (rw [e0]; exact ⟨rfl, N0, K0⟩) | exact ⟨rfl, N0, K0⟩) (by decide) (by decide)
    · skip
      refine Go.by (fun t k => XS.ifYes X0.here hx rfl (pc0 := 83) (pc' := 88) rfl (hb hby at_83) rfl ((if0 _ _).trans (feq (show ¬ ((lcmpW ((((i1 &&& (2147483647 : Int32)).toInt64) + ((i2 &&& (2147483647 : Int32)).toInt64)) + ((i3 &&& (2147483647 : Int32)).toInt64)) (0 : Int64)) = (0 : Int32)) from hz)).2) (by decide) (by decide) k) ?_
      show Go p e below _ s₁ (mkF m 88 #[.val (.int i0), .val (.int i1), .val (.int i2), .val (.int i3), .val (.int i4), .val (.int (3 : Int32)), .val (.int (i1 &&& (2147483647 : Int32))), .val (.int (i2 &&& (2147483647 : Int32))), .val (.int (i3 &&& (2147483647 : Int32))), .val (.int (i4 &&& (2147483647 : Int32))), .val (.long ((((i1 &&& (2147483647 : Int32)).toInt64) + ((i2 &&& (2147483647 : Int32)).toInt64)) + ((i3 &&& (2147483647 : Int32)).toInt64))), .second, .unset, .unset] [])
      refine Go.by (fun t k => XS.iload X0.here hx rfl (hb hby at_88) rfl (XS.iconst X0.here hx rfl (hb hby at_90) (XS.icmpYes X0.here hx rfl (pc0 := 91) (pc' := 108) rfl (hb hby at_91) rfl (feq (show ¬ ((3 : Int32) = (1 : Int32)) from (by decide))).2 (by decide) (by decide) k))) ?_
      show Go p e below _ s₁ (mkF m 108 #[.val (.int i0), .val (.int i1), .val (.int i2), .val (.int i3), .val (.int i4), .val (.int (3 : Int32)), .val (.int (i1 &&& (2147483647 : Int32))), .val (.int (i2 &&& (2147483647 : Int32))), .val (.int (i3 &&& (2147483647 : Int32))), .val (.int (i4 &&& (2147483647 : Int32))), .val (.long ((((i1 &&& (2147483647 : Int32)).toInt64) + ((i2 &&& (2147483647 : Int32)).toInt64)) + ((i3 &&& (2147483647 : Int32)).toInt64))), .second, .unset, .unset] [])
      refine Go.by (fun t k => XS.iload X0.here hx rfl (hb hby at_108) rfl (XS.iconst X0.here hx rfl (hb hby at_110) (XS.icmpYes X0.here hx rfl (pc0 := 111) (pc' := 134) rfl (hb hby at_111) rfl (feq (show ¬ ((3 : Int32) = (2 : Int32)) from (by decide))).2 (by decide) (by decide) k))) ?_
      show Go p e below _ s₁ (mkF m 134 #[.val (.int i0), .val (.int i1), .val (.int i2), .val (.int i3), .val (.int i4), .val (.int (3 : Int32)), .val (.int (i1 &&& (2147483647 : Int32))), .val (.int (i2 &&& (2147483647 : Int32))), .val (.int (i3 &&& (2147483647 : Int32))), .val (.int (i4 &&& (2147483647 : Int32))), .val (.long ((((i1 &&& (2147483647 : Int32)).toInt64) + ((i2 &&& (2147483647 : Int32)).toInt64)) + ((i3 &&& (2147483647 : Int32)).toInt64))), .second, .unset, .unset] [])
      refine Go.by (fun t k => XS.iload X0.here hx rfl (hb hby at_134) rfl (XS.iconst X0.here hx rfl (hb hby at_136) (XS.icmpNo X0.here hx rfl (hb hby at_137) rfl (teq (show (3 : Int32) = (3 : Int32) from (by decide))).2 k))) ?_
      show Go p e below _ s₁ (mkF m 140 #[.val (.int i0), .val (.int i1), .val (.int i2), .val (.int i3), .val (.int i4), .val (.int (3 : Int32)), .val (.int (i1 &&& (2147483647 : Int32))), .val (.int (i2 &&& (2147483647 : Int32))), .val (.int (i3 &&& (2147483647 : Int32))), .val (.int (i4 &&& (2147483647 : Int32))), .val (.long ((((i1 &&& (2147483647 : Int32)).toInt64) + ((i2 &&& (2147483647 : Int32)).toInt64)) + ((i3 &&& (2147483647 : Int32)).toInt64))), .second, .unset, .unset] [])
      refine Go.by (fun t k => XS.iconst X0.here hx rfl (hb hby at_140) k) ?_
      show Go p e below _ s₁ (mkF m 141 #[.val (.int i0), .val (.int i1), .val (.int i2), .val (.int i3), .val (.int i4), .val (.int (3 : Int32)), .val (.int (i1 &&& (2147483647 : Int32))), .val (.int (i2 &&& (2147483647 : Int32))), .val (.int (i3 &&& (2147483647 : Int32))), .val (.int (i4 &&& (2147483647 : Int32))), .val (.long ((((i1 &&& (2147483647 : Int32)).toInt64) + ((i2 &&& (2147483647 : Int32)).toInt64)) + ((i3 &&& (2147483647 : Int32)).toInt64))), .second, .unset, .unset] [(.int (3 : Int32))])
      obtain ⟨T270, h270, k270, X270, e270, E270, A270, st270⟩ := newP X0 hx hZ (aty := .double) (ow1 hw) e0 (g := (mkF m 141 #[.val (.int i0), .val (.int i1), .val (.int i2), .val (.int i3), .val (.int i4), .val (.int (3 : Int32)), .val (.int (i1 &&& (2147483647 : Int32))), .val (.int (i2 &&& (2147483647 : Int32))), .val (.int (i3 &&& (2147483647 : Int32))), .val (.int (i4 &&& (2147483647 : Int32))), .val (.long ((((i1 &&& (2147483647 : Int32)).toInt64) + ((i2 &&& (2147483647 : Int32)).toInt64)) + ((i3 &&& (2147483647 : Int32)).toInt64))), .second, .unset, .unset] [(.int (3 : Int32))])) rfl (hb hby at_141) rfl (by decide) (cap := 3) (by decide) (by decide) (by decide) (by decide)
      obtain ⟨b270, g270⟩ : ∃ z, z = h0.size := ⟨_, rfl⟩
      rw [← g270] at A270 st270
      refine Go.by st270 ?_
      have K271 : Keep h0 h270 [] := K0.ext E270
      show Go p e below _ T270 (mkF m 143 #[.val (.int i0), .val (.int i1), .val (.int i2), .val (.int i3), .val (.int i4), .val (.int (3 : Int32)), .val (.int (i1 &&& (2147483647 : Int32))), .val (.int (i2 &&& (2147483647 : Int32))), .val (.int (i3 &&& (2147483647 : Int32))), .val (.int (i4 &&& (2147483647 : Int32))), .val (.long ((((i1 &&& (2147483647 : Int32)).toInt64) + ((i2 &&& (2147483647 : Int32)).toInt64)) + ((i3 &&& (2147483647 : Int32)).toInt64))), .second, .unset, .unset] [(.ref b270)])
      have V270 : Arv Z h270 b270 k270 .double (3 : Int32) [(.double (FP.l2d 0)), (.double (FP.l2d 0)), (.double (FP.l2d 0))] (.double (FP.l2d 0)) := (Arv.newD A270 (by decide)).pad (pad_rep [] (.double (FP.l2d 0)) 3)
      refine Go.by (fun t k => XS.dup X270.here hx rfl (hb hby at_143) rfl rfl (XS.iconst X270.here hx rfl (hb hby at_144) (XS.iload X270.here hx rfl (hb hby at_145) rfl (XS.i2dS X270.here hx rfl (hb hby at_147) rfl (i2d_w _) k)))) ?_
      show Go p e below _ T270 (mkF m 148 #[.val (.int i0), .val (.int i1), .val (.int i2), .val (.int i3), .val (.int i4), .val (.int (3 : Int32)), .val (.int (i1 &&& (2147483647 : Int32))), .val (.int (i2 &&& (2147483647 : Int32))), .val (.int (i3 &&& (2147483647 : Int32))), .val (.int (i4 &&& (2147483647 : Int32))), .val (.long ((((i1 &&& (2147483647 : Int32)).toInt64) + ((i2 &&& (2147483647 : Int32)).toInt64)) + ((i3 &&& (2147483647 : Int32)).toInt64))), .second, .unset, .unset] [(.double (FP.l2d (i1 &&& (2147483647 : Int32)).toInt64)), (.int (0 : Int32)), (.ref b270), (.ref b270)])
      obtain ⟨c272, A272, q272, S272, M272, G272, J272⟩ := id V270
      obtain ⟨T272, h272, X272, e272, W272, st272⟩ := stD X270 hx hZ e270 A272 (j := (0 : Int32)) (inb_of S272 ⟨by decide, by decide⟩) (g := (mkF m 148 #[.val (.int i0), .val (.int i1), .val (.int i2), .val (.int i3), .val (.int i4), .val (.int (3 : Int32)), .val (.int (i1 &&& (2147483647 : Int32))), .val (.int (i2 &&& (2147483647 : Int32))), .val (.int (i3 &&& (2147483647 : Int32))), .val (.int (i4 &&& (2147483647 : Int32))), .val (.long ((((i1 &&& (2147483647 : Int32)).toInt64) + ((i2 &&& (2147483647 : Int32)).toInt64)) + ((i3 &&& (2147483647 : Int32)).toInt64))), .second, .unset, .unset] [(.double (FP.l2d (i1 &&& (2147483647 : Int32)).toInt64)), (.int (0 : Int32)), (.ref b270), (.ref b270)])) rfl rfl (hb hby at_148)
      refine Go.by st272 ?_
      have N272 := Fr.snoc X272 N0 (Nat.le_trans (Nat.le_trans Z0 (Nat.le_refl _)) (Nat.le_of_eq g270.symm))
      have K273 : Keep h0 h272 [] := K271.wr W272 (Or.inr (Nat.le_trans (Nat.le_refl _) (Nat.le_of_eq g270.symm)))
      show Go p e below _ T272 (mkF m 149 #[.val (.int i0), .val (.int i1), .val (.int i2), .val (.int i3), .val (.int i4), .val (.int (3 : Int32)), .val (.int (i1 &&& (2147483647 : Int32))), .val (.int (i2 &&& (2147483647 : Int32))), .val (.int (i3 &&& (2147483647 : Int32))), .val (.int (i4 &&& (2147483647 : Int32))), .val (.long ((((i1 &&& (2147483647 : Int32)).toInt64) + ((i2 &&& (2147483647 : Int32)).toInt64)) + ((i3 &&& (2147483647 : Int32)).toInt64))), .second, .unset, .unset] [(.ref b270)])
      have V272 : Arv Z h272 b270 k270 .double (3 : Int32) ([(.double (FP.l2d (i1 &&& (2147483647 : Int32)).toInt64)), (.double (FP.l2d 0)), (.double (FP.l2d 0))]) (.double (FP.l2d 0)) := Arv.set A272 q272 S272 M272 G272 J272 rfl W272 0 rfl (Nat.le_of_ble_eq_true rfl)
      refine Go.by (fun t k => XS.dup X272.here hx rfl (hb hby at_149) rfl rfl (XS.iconst X272.here hx rfl (hb hby at_150) (XS.iload X272.here hx rfl (hb hby at_151) rfl (XS.i2dS X272.here hx rfl (hb hby at_153) rfl (i2d_w _) k)))) ?_
      show Go p e below _ T272 (mkF m 154 #[.val (.int i0), .val (.int i1), .val (.int i2), .val (.int i3), .val (.int i4), .val (.int (3 : Int32)), .val (.int (i1 &&& (2147483647 : Int32))), .val (.int (i2 &&& (2147483647 : Int32))), .val (.int (i3 &&& (2147483647 : Int32))), .val (.int (i4 &&& (2147483647 : Int32))), .val (.long ((((i1 &&& (2147483647 : Int32)).toInt64) + ((i2 &&& (2147483647 : Int32)).toInt64)) + ((i3 &&& (2147483647 : Int32)).toInt64))), .second, .unset, .unset] [(.double (FP.l2d (i2 &&& (2147483647 : Int32)).toInt64)), (.int (1 : Int32)), (.ref b270), (.ref b270)])
      obtain ⟨c274, A274, q274, S274, M274, G274, J274⟩ := id V272
      obtain ⟨T274, h274, X274, e274, W274, st274⟩ := stD X272 hx hZ e272 A274 (j := (1 : Int32)) (inb_of S274 ⟨by decide, by decide⟩) (g := (mkF m 154 #[.val (.int i0), .val (.int i1), .val (.int i2), .val (.int i3), .val (.int i4), .val (.int (3 : Int32)), .val (.int (i1 &&& (2147483647 : Int32))), .val (.int (i2 &&& (2147483647 : Int32))), .val (.int (i3 &&& (2147483647 : Int32))), .val (.int (i4 &&& (2147483647 : Int32))), .val (.long ((((i1 &&& (2147483647 : Int32)).toInt64) + ((i2 &&& (2147483647 : Int32)).toInt64)) + ((i3 &&& (2147483647 : Int32)).toInt64))), .second, .unset, .unset] [(.double (FP.l2d (i2 &&& (2147483647 : Int32)).toInt64)), (.int (1 : Int32)), (.ref b270), (.ref b270)])) rfl rfl (hb hby at_154)
      refine Go.by st274 ?_
      have N274 := Fr.snoc X274 N272 (Nat.le_trans (Nat.le_trans Z0 (Nat.le_refl _)) (Nat.le_of_eq g270.symm))
      have K275 : Keep h0 h274 [] := K273.wr W274 (Or.inr (Nat.le_trans (Nat.le_refl _) (Nat.le_of_eq g270.symm)))
      show Go p e below _ T274 (mkF m 155 #[.val (.int i0), .val (.int i1), .val (.int i2), .val (.int i3), .val (.int i4), .val (.int (3 : Int32)), .val (.int (i1 &&& (2147483647 : Int32))), .val (.int (i2 &&& (2147483647 : Int32))), .val (.int (i3 &&& (2147483647 : Int32))), .val (.int (i4 &&& (2147483647 : Int32))), .val (.long ((((i1 &&& (2147483647 : Int32)).toInt64) + ((i2 &&& (2147483647 : Int32)).toInt64)) + ((i3 &&& (2147483647 : Int32)).toInt64))), .second, .unset, .unset] [(.ref b270)])
      have V274 : Arv Z h274 b270 k270 .double (3 : Int32) ([(.double (FP.l2d (i1 &&& (2147483647 : Int32)).toInt64)), (.double (FP.l2d (i2 &&& (2147483647 : Int32)).toInt64)), (.double (FP.l2d 0))]) (.double (FP.l2d 0)) := Arv.set A274 q274 S274 M274 G274 J274 rfl W274 1 rfl (Nat.le_of_ble_eq_true rfl)
      refine Go.by (fun t k => XS.dup X274.here hx rfl (hb hby at_155) rfl rfl (XS.iconst X274.here hx rfl (hb hby at_156) (XS.iload X274.here hx rfl (hb hby at_157) rfl (XS.i2dS X274.here hx rfl (hb hby at_159) rfl (i2d_w _) k)))) ?_
      show Go p e below _ T274 (mkF m 160 #[.val (.int i0), .val (.int i1), .val (.int i2), .val (.int i3), .val (.int i4), .val (.int (3 : Int32)), .val (.int (i1 &&& (2147483647 : Int32))), .val (.int (i2 &&& (2147483647 : Int32))), .val (.int (i3 &&& (2147483647 : Int32))), .val (.int (i4 &&& (2147483647 : Int32))), .val (.long ((((i1 &&& (2147483647 : Int32)).toInt64) + ((i2 &&& (2147483647 : Int32)).toInt64)) + ((i3 &&& (2147483647 : Int32)).toInt64))), .second, .unset, .unset] [(.double (FP.l2d (i3 &&& (2147483647 : Int32)).toInt64)), (.int (2 : Int32)), (.ref b270), (.ref b270)])
      obtain ⟨c276, A276, q276, S276, M276, G276, J276⟩ := id V274
      obtain ⟨T276, h276, X276, e276, W276, st276⟩ := stD X274 hx hZ e274 A276 (j := (2 : Int32)) (inb_of S276 ⟨by decide, by decide⟩) (g := (mkF m 160 #[.val (.int i0), .val (.int i1), .val (.int i2), .val (.int i3), .val (.int i4), .val (.int (3 : Int32)), .val (.int (i1 &&& (2147483647 : Int32))), .val (.int (i2 &&& (2147483647 : Int32))), .val (.int (i3 &&& (2147483647 : Int32))), .val (.int (i4 &&& (2147483647 : Int32))), .val (.long ((((i1 &&& (2147483647 : Int32)).toInt64) + ((i2 &&& (2147483647 : Int32)).toInt64)) + ((i3 &&& (2147483647 : Int32)).toInt64))), .second, .unset, .unset] [(.double (FP.l2d (i3 &&& (2147483647 : Int32)).toInt64)), (.int (2 : Int32)), (.ref b270), (.ref b270)])) rfl rfl (hb hby at_160)
      refine Go.by st276 ?_
      have N276 := Fr.snoc X276 N274 (Nat.le_trans (Nat.le_trans Z0 (Nat.le_refl _)) (Nat.le_of_eq g270.symm))
      have K277 : Keep h0 h276 [] := K275.wr W276 (Or.inr (Nat.le_trans (Nat.le_refl _) (Nat.le_of_eq g270.symm)))
      show Go p e below _ T276 (mkF m 161 #[.val (.int i0), .val (.int i1), .val (.int i2), .val (.int i3), .val (.int i4), .val (.int (3 : Int32)), .val (.int (i1 &&& (2147483647 : Int32))), .val (.int (i2 &&& (2147483647 : Int32))), .val (.int (i3 &&& (2147483647 : Int32))), .val (.int (i4 &&& (2147483647 : Int32))), .val (.long ((((i1 &&& (2147483647 : Int32)).toInt64) + ((i2 &&& (2147483647 : Int32)).toInt64)) + ((i3 &&& (2147483647 : Int32)).toInt64))), .second, .unset, .unset] [(.ref b270)])
      have V276 : Arv Z h276 b270 k270 .double (3 : Int32) ([(.double (FP.l2d (i1 &&& (2147483647 : Int32)).toInt64)), (.double (FP.l2d (i2 &&& (2147483647 : Int32)).toInt64)), (.double (FP.l2d (i3 &&& (2147483647 : Int32)).toInt64))]) (.double (FP.l2d 0)) := Arv.set A276 q276 S276 M276 G276 J276 rfl W276 2 rfl (Nat.le_of_ble_eq_true rfl)
      refine Go.by (fun t k => XS.astore X276.here hx rfl (hb hby at_161) rfl rfl (l' := #[.val (.int i0), .val (.int i1), .val (.int i2), .val (.int i3), .val (.int i4), .val (.int (3 : Int32)), .val (.int (i1 &&& (2147483647 : Int32))), .val (.int (i2 &&& (2147483647 : Int32))), .val (.int (i3 &&& (2147483647 : Int32))), .val (.int (i4 &&& (2147483647 : Int32))), .val (.long ((((i1 &&& (2147483647 : Int32)).toInt64) + ((i2 &&& (2147483647 : Int32)).toInt64)) + ((i3 &&& (2147483647 : Int32)).toInt64))), .second, .val (.ref b270), .unset]) rfl (XS.goto X276.here hx rfl (pc0 := 163) (pc' := 195) rfl (hb hby at_163) (by decide) (by decide) k)) ?_
      show Go p e below _ T276 (mkF m 195 #[.val (.int i0), .val (.int i1), .val (.int i2), .val (.int i3), .val (.int i4), .val (.int (3 : Int32)), .val (.int (i1 &&& (2147483647 : Int32))), .val (.int (i2 &&& (2147483647 : Int32))), .val (.int (i3 &&& (2147483647 : Int32))), .val (.int (i4 &&& (2147483647 : Int32))), .val (.long ((((i1 &&& (2147483647 : Int32)).toInt64) + ((i2 &&& (2147483647 : Int32)).toInt64)) + ((i3 &&& (2147483647 : Int32)).toInt64))), .second, .val (.ref b270), .unset] [])
      obtain ⟨T278, h278, X278, e278, E278, A278, D278, U278, st278⟩ := newO X276 hx hZ hown (ow2 hw) (ow3 hw) (ow4 hw) e276 (g := (mkF m 195 #[.val (.int i0), .val (.int i1), .val (.int i2), .val (.int i3), .val (.int i4), .val (.int (3 : Int32)), .val (.int (i1 &&& (2147483647 : Int32))), .val (.int (i2 &&& (2147483647 : Int32))), .val (.int (i3 &&& (2147483647 : Int32))), .val (.int (i4 &&& (2147483647 : Int32))), .val (.long ((((i1 &&& (2147483647 : Int32)).toInt64) + ((i2 &&& (2147483647 : Int32)).toInt64)) + ((i3 &&& (2147483647 : Int32)).toInt64))), .second, .val (.ref b270), .unset] [])) rfl (hb hby at_195) (by decide) (by decide)
      obtain ⟨b278, g278⟩ : ∃ z, z = h276.size := ⟨_, rfl⟩
      rw [← g278] at A278 D278 U278 st278
      refine Go.by st278 ?_
      have K279 : Keep h0 h278 [] := K277.ext E278
      show Go p e below _ T278 (mkF m 198 #[.val (.int i0), .val (.int i1), .val (.int i2), .val (.int i3), .val (.int i4), .val (.int (3 : Int32)), .val (.int (i1 &&& (2147483647 : Int32))), .val (.int (i2 &&& (2147483647 : Int32))), .val (.int (i3 &&& (2147483647 : Int32))), .val (.int (i4 &&& (2147483647 : Int32))), .val (.long ((((i1 &&& (2147483647 : Int32)).toInt64) + ((i2 &&& (2147483647 : Int32)).toInt64)) + ((i3 &&& (2147483647 : Int32)).toInt64))), .second, .val (.ref b270), .unset] [(.ref b278)])
      refine Go.by (fun t k => XS.dup X278.here hx rfl (hb hby at_198) rfl rfl (XS.aload X278.here hx rfl (hb hby at_199) rfl rfl k)) ?_
      show Go p e below _ T278 (mkF m 201 #[.val (.int i0), .val (.int i1), .val (.int i2), .val (.int i3), .val (.int i4), .val (.int (3 : Int32)), .val (.int (i1 &&& (2147483647 : Int32))), .val (.int (i2 &&& (2147483647 : Int32))), .val (.int (i3 &&& (2147483647 : Int32))), .val (.int (i4 &&& (2147483647 : Int32))), .val (.long ((((i1 &&& (2147483647 : Int32)).toInt64) + ((i2 &&& (2147483647 : Int32)).toInt64)) + ((i3 &&& (2147483647 : Int32)).toInt64))), .second, .val (.ref b270), .unset] [(.ref b270), (.ref b278), (.ref b278)])
      have F281 : Arv Z h278 b270 k270 .double (3 : Int32) ([(.double (FP.l2d (i1 &&& (2147483647 : Int32)).toInt64)), (.double (FP.l2d (i2 &&& (2147483647 : Int32)).toInt64)), (.double (FP.l2d (i3 &&& (2147483647 : Int32)).toInt64))]) (.double (FP.l2d 0)) := (V276.ext E278)
      obtain ⟨_, _, ⟨T280, L280, k280, n280⟩, -, X280, ⟨Lc280, hQ280, l280, y280, z280⟩, st280⟩ := X278.specialBack hx (y := (⟨"com/example/shardpick/shardpick/generate/WeightedDraw", "<init>", "([D)V"⟩ : MethodName)) rfl hown (mvT hZ (ow5 hw)) (mvT hZ (ow6 hw)) (mvT hZ (ow7 hw)) (by decide) (backOf (W := 1) (rm_wd3 l Z a0 hw [] b278 b270 k270 ((i1 &&& (2147483647 : Int32)).toInt64) ((i2 &&& (2147483647 : Int32)).toInt64) ((i3 &&& (2147483647 : Int32)).toInt64) h278 n0 (Nat.le_trans Z0 (Nat.le_trans (Nat.le_trans (Nat.le_trans (Nat.le_trans E270.1 (Keep.of_wr W272).1) (Keep.of_wr W274).1) (Keep.of_wr W276).1) E278.1)) A278 ((Nat.le_trans (Nat.le_trans Z0 (Nat.le_trans (Nat.le_trans (Nat.le_trans E270.1 (Keep.of_wr W272).1) (Keep.of_wr W274).1) (Keep.of_wr W276).1)) (Nat.le_of_eq g278.symm))) (D278 (Or.inr (ow12 hw)) (ty := (.array .double)) (by decide)) F281 (in_mask _) (in_mask _) (in_mask _)) hZ (ow7 hw) (ow4 hw) (by decide) (by decide)) (g := (mkF m 201 #[.val (.int i0), .val (.int i1), .val (.int i2), .val (.int i3), .val (.int i4), .val (.int (3 : Int32)), .val (.int (i1 &&& (2147483647 : Int32))), .val (.int (i2 &&& (2147483647 : Int32))), .val (.int (i3 &&& (2147483647 : Int32))), .val (.int (i4 &&& (2147483647 : Int32))), .val (.long ((((i1 &&& (2147483647 : Int32)).toInt64) + ((i2 &&& (2147483647 : Int32)).toInt64)) + ((i3 &&& (2147483647 : Int32)).toInt64))), .second, .val (.ref b270), .unset] [(.ref b270), (.ref b278), (.ref b278)])) rfl (by rw [hml]; rfl) (Steps.refl _) (a := b278) (argsL := [(.ref b270)]) (rest := [(.ref b278)]) (lenOf opd_0 rfl) rfl (by show 2 * 0 + _ ≤ _; exact Nat.le_of_eq rfl) (hb hby at_201) (fun _ _ => ⟨rfl, e278, (by decide : 2 + 1 ≤ _), (by decide : 4 + 3 ≤ _)⟩)
      dsimp only [Pt.U, Pt.locs, Pt.cells, Pt.slots] at X280 l280 y280 z280 st280 hQ280
      subst l280 y280 z280
      obtain ⟨bt_280, kt_280, rfl, N280q, K280q, P280_0, P280_1, P280_2⟩ := hQ280
      have N280 := Fr.app N276 N280q
      refine Go.tr st280 ?_
      have K282 : Keep h0 T280.heap [] := K279.trans K280q (allS (Or.inr (Nat.le_trans (Nat.le_trans (Nat.le_trans (Nat.le_trans E270.1 (Keep.of_wr W272).1) (Keep.of_wr W274).1) (Keep.of_wr W276).1) (Nat.le_of_eq g278.symm))) all0)
      show Go p e below _ T280 (mkF m 204 #[.val (.int i0), .val (.int i1), .val (.int i2), .val (.int i3), .val (.int i4), .val (.int (3 : Int32)), .val (.int (i1 &&& (2147483647 : Int32))), .val (.int (i2 &&& (2147483647 : Int32))), .val (.int (i3 &&& (2147483647 : Int32))), .val (.int (i4 &&& (2147483647 : Int32))), .val (.long ((((i1 &&& (2147483647 : Int32)).toInt64) + ((i2 &&& (2147483647 : Int32)).toInt64)) + ((i3 &&& (2147483647 : Int32)).toInt64))), .second, .val (.ref b270), .unset] [(.ref b278)])
      refine Go.by (fun t k => XS.astore X280.here hx rfl (hb hby at_204) rfl rfl (l' := #[.val (.int i0), .val (.int i1), .val (.int i2), .val (.int i3), .val (.int i4), .val (.int (3 : Int32)), .val (.int (i1 &&& (2147483647 : Int32))), .val (.int (i2 &&& (2147483647 : Int32))), .val (.int (i3 &&& (2147483647 : Int32))), .val (.int (i4 &&& (2147483647 : Int32))), .val (.long ((((i1 &&& (2147483647 : Int32)).toInt64) + ((i2 &&& (2147483647 : Int32)).toInt64)) + ((i3 &&& (2147483647 : Int32)).toInt64))), .second, .val (.ref b270), .val (.ref b278)]) rfl (XS.aload X280.here hx rfl (hb hby at_206) rfl rfl k)) ?_
      show Go p e below _ T280 (mkF m 208 #[.val (.int i0), .val (.int i1), .val (.int i2), .val (.int i3), .val (.int i4), .val (.int (3 : Int32)), .val (.int (i1 &&& (2147483647 : Int32))), .val (.int (i2 &&& (2147483647 : Int32))), .val (.int (i3 &&& (2147483647 : Int32))), .val (.int (i4 &&& (2147483647 : Int32))), .val (.long ((((i1 &&& (2147483647 : Int32)).toInt64) + ((i2 &&& (2147483647 : Int32)).toInt64)) + ((i3 &&& (2147483647 : Int32)).toInt64))), .second, .val (.ref b270), .val (.ref b278)] [(.ref b278)])
      obtain ⟨cq283, kq283, q283a, q283b, q283c⟩ := isOf hZ rfl P280_0
      obtain ⟨_, _, ⟨T283, L283, k283, n283⟩, -, X283, ⟨Lc283, hQ283, l283, y283, z283⟩, st283⟩ := X280.virtualBack hx (y := (⟨"com/example/shardpick/shardpick/generate/WeightedDraw", "total", "()D"⟩ : MethodName)) (z := (⟨"com/example/shardpick/shardpick/generate/WeightedDraw", "total", "()D"⟩ : MethodName)) hown (mvT hZ (ow13 hw)) (mvT hZ (ow14 hw)) (notFace_of_selects (args := #[]) (mvT hZ (ow16 hw))) (mvT hZ (ow16 hw)) (mvT hZ (ow15 hw)) (by decide) (backOf (W := 0) (rm_tot3 l Z a0 hw [] b278 bt_280 kt_280 ((0 : Int64) + ((i1 &&& (2147483647 : Int32)).toInt64)) (((0 : Int64) + ((i1 &&& (2147483647 : Int32)).toInt64)) + ((i2 &&& (2147483647 : Int32)).toInt64)) ((((0 : Int64) + ((i1 &&& (2147483647 : Int32)).toInt64)) + ((i2 &&& (2147483647 : Int32)).toInt64)) + ((i3 &&& (2147483647 : Int32)).toInt64)) T280.heap n0 (Nat.le_trans Z0 (Nat.le_trans (Nat.le_trans (Nat.le_trans (Nat.le_trans (Nat.le_trans E270.1 (Keep.of_wr W272).1) (Keep.of_wr W274).1) (Keep.of_wr W276).1) E278.1) K280q.1)) P280_1 P280_2) hZ (ow17 hw) (ow4 hw) (by decide) (by decide)) q283a q283c (g := (mkF m 208 #[.val (.int i0), .val (.int i1), .val (.int i2), .val (.int i3), .val (.int i4), .val (.int (3 : Int32)), .val (.int (i1 &&& (2147483647 : Int32))), .val (.int (i2 &&& (2147483647 : Int32))), .val (.int (i3 &&& (2147483647 : Int32))), .val (.int (i4 &&& (2147483647 : Int32))), .val (.long ((((i1 &&& (2147483647 : Int32)).toInt64) + ((i2 &&& (2147483647 : Int32)).toInt64)) + ((i3 &&& (2147483647 : Int32)).toInt64))), .second, .val (.ref b270), .val (.ref b278)] [(.ref b278)])) rfl (by rw [hml]; rfl) (Steps.refl _) (argsL := []) (rest := []) (lenOf opd_1 rfl) rfl (by show 2 * 0 + _ ≤ _; exact Nat.le_of_eq rfl) (hb hby at_208) (fun _ _ => ⟨rfl, rfl, (by decide : 3 + 0 ≤ _), (by decide : 7 + 0 ≤ _)⟩)
      dsimp only [Pt.U, Pt.locs, Pt.cells, Pt.slots] at X283 l283 y283 z283 st283 hQ283
      subst l283 y283 z283
      obtain ⟨rfl, N283q, e283⟩ := hQ283
      have N283 := Fr.app N280 N283q
      refine Go.tr st283 ?_
      show Go p e below _ T283 (mkF m 211 #[.val (.int i0), .val (.int i1), .val (.int i2), .val (.int i3), .val (.int i4), .val (.int (3 : Int32)), .val (.int (i1 &&& (2147483647 : Int32))), .val (.int (i2 &&& (2147483647 : Int32))), .val (.int (i3 &&& (2147483647 : Int32))), .val (.int (i4 &&& (2147483647 : Int32))), .val (.long ((((i1 &&& (2147483647 : Int32)).toInt64) + ((i2 &&& (2147483647 : Int32)).toInt64)) + ((i3 &&& (2147483647 : Int32)).toInt64))), .second, .val (.ref b270), .val (.ref b278)] [(.double (FP.l2d ((((0 : Int64) + ((i1 &&& (2147483647 : Int32)).toInt64)) + ((i2 &&& (2147483647 : Int32)).toInt64)) + ((i3 &&& (2147483647 : Int32)).toInt64))))])
      refine Go.by (fun t k => XS.lload X283.here hx rfl (hb hby at_211) rfl (XS.l2dS X283.here hx rfl (hb hby at_213) rfl rfl k)) ?_
      show Go p e below _ T283 (mkF m 214 #[.val (.int i0), .val (.int i1), .val (.int i2), .val (.int i3), .val (.int i4), .val (.int (3 : Int32)), .val (.int (i1 &&& (2147483647 : Int32))), .val (.int (i2 &&& (2147483647 : Int32))), .val (.int (i3 &&& (2147483647 : Int32))), .val (.int (i4 &&& (2147483647 : Int32))), .val (.long ((((i1 &&& (2147483647 : Int32)).toInt64) + ((i2 &&& (2147483647 : Int32)).toInt64)) + ((i3 &&& (2147483647 : Int32)).toInt64))), .second, .val (.ref b270), .val (.ref b278)] [(.double (FP.l2d ((((i1 &&& (2147483647 : Int32)).toInt64) + ((i2 &&& (2147483647 : Int32)).toInt64)) + ((i3 &&& (2147483647 : Int32)).toInt64)))), (.double (FP.l2d ((((0 : Int64) + ((i1 &&& (2147483647 : Int32)).toInt64)) + ((i2 &&& (2147483647 : Int32)).toInt64)) + ((i3 &&& (2147483647 : Int32)).toInt64))))])
      have q284 : cmpValue (FP.dcmp (FP.l2d ((((0 : Int64) + ((i1 &&& (2147483647 : Int32)).toInt64)) + ((i2 &&& (2147483647 : Int32)).toInt64)) + ((i3 &&& (2147483647 : Int32)).toInt64))) (FP.l2d ((((i1 &&& (2147483647 : Int32)).toInt64) + ((i2 &&& (2147483647 : Int32)).toInt64)) + ((i3 &&& (2147483647 : Int32)).toInt64)))) .l = (0 : Int32) := (by rw [Int64.zero_add]; exact dcmpV_self (nn_w rfl) _)
      refine Go.by (fun t k => XS.dcmpS X283.here hx rfl (hb hby at_214) rfl q284 k) ?_
      show Go p e below _ T283 (mkF m 215 #[.val (.int i0), .val (.int i1), .val (.int i2), .val (.int i3), .val (.int i4), .val (.int (3 : Int32)), .val (.int (i1 &&& (2147483647 : Int32))), .val (.int (i2 &&& (2147483647 : Int32))), .val (.int (i3 &&& (2147483647 : Int32))), .val (.int (i4 &&& (2147483647 : Int32))), .val (.long ((((i1 &&& (2147483647 : Int32)).toInt64) + ((i2 &&& (2147483647 : Int32)).toInt64)) + ((i3 &&& (2147483647 : Int32)).toInt64))), .second, .val (.ref b270), .val (.ref b278)] [(.int (0 : Int32))])
      refine Go.by (fun t k => XS.ifNo X283.here hx rfl (hb hby at_215) rfl ((if0 _ _).trans (teq (show (0 : Int32) = (0 : Int32) from (by decide))).2) k) ?_
      show Go p e below _ T283 (mkF m 218 #[.val (.int i0), .val (.int i1), .val (.int i2), .val (.int i3), .val (.int i4), .val (.int (3 : Int32)), .val (.int (i1 &&& (2147483647 : Int32))), .val (.int (i2 &&& (2147483647 : Int32))), .val (.int (i3 &&& (2147483647 : Int32))), .val (.int (i4 &&& (2147483647 : Int32))), .val (.long ((((i1 &&& (2147483647 : Int32)).toInt64) + ((i2 &&& (2147483647 : Int32)).toInt64)) + ((i3 &&& (2147483647 : Int32)).toInt64))), .second, .val (.ref b270), .val (.ref b278)] [])
      refine Go.by (fun t k => XS.iconst X283.here hx rfl (hb hby at_218) (XS.goto X283.here hx rfl (pc0 := 219) (pc' := 223) rfl (hb hby at_219) (by decide) (by decide) k)) ?_
      show Go p e below _ T283 (mkF m 223 #[.val (.int i0), .val (.int i1), .val (.int i2), .val (.int i3), .val (.int i4), .val (.int (3 : Int32)), .val (.int (i1 &&& (2147483647 : Int32))), .val (.int (i2 &&& (2147483647 : Int32))), .val (.int (i3 &&& (2147483647 : Int32))), .val (.int (i4 &&& (2147483647 : Int32))), .val (.long ((((i1 &&& (2147483647 : Int32)).toInt64) + ((i2 &&& (2147483647 : Int32)).toInt64)) + ((i3 &&& (2147483647 : Int32)).toInt64))), .second, .val (.ref b270), .val (.ref b278)] [(.int (1 : Int32))])
      exact Go.retN X283 hx (t := .boolean) hret (by simp) hlk (hb hby at_223) (by first | (rw [e283]; exact ⟨rfl, N283, K282⟩) | exact ⟨rfl, N283, K282⟩) (by decide) (by decide)
  · rw [hk245]
    show Go p e below _ s₁ (mkF m 4 #[.val (.int i0), .val (.int i1), .val (.int i2), .val (.int i3), .val (.int i4), .unset, .unset, .unset, .unset, .unset, .unset, .unset, .unset, .unset] [(.int (3 : Int32)), (.int (1 : Int32))])
    refine Go.by (fun t k => XS.iadd X0.here hx rfl (hb hby at_4) rfl (XS.istore X0.here hx rfl (hb hby at_5) rfl (l' := #[.val (.int i0), .val (.int i1), .val (.int i2), .val (.int i3), .val (.int i4), .val (.int (4 : Int32)), .unset, .unset, .unset, .unset, .unset, .unset, .unset, .unset]) rfl (XS.iloadN X0.here hx rfl (hb hby at_7) rfl k))) ?_
    show Go p e below _ s₁ (mkF m 8 #[.val (.int i0), .val (.int i1), .val (.int i2), .val (.int i3), .val (.int i4), .val (.int (4 : Int32)), .unset, .unset, .unset, .unset, .unset, .unset, .unset, .unset] [(.int i1)])
    refine Go.by (X0.ldcInt hx hown (mvT hZ (ow0 hw)) (g := (mkF m 8 #[.val (.int i0), .val (.int i1), .val (.int i2), .val (.int i3), .val (.int i4), .val (.int (4 : Int32)), .unset, .unset, .unset, .unset, .unset, .unset, .unset, .unset] [(.int i1)])) rfl (hb hby at_8)) ?_
    show Go p e below _ s₁ (mkF m 10 #[.val (.int i0), .val (.int i1), .val (.int i2), .val (.int i3), .val (.int i4), .val (.int (4 : Int32)), .unset, .unset, .unset, .unset, .unset, .unset, .unset, .unset] [(.int (2147483647 : Int32)), (.int i1)])
    refine Go.by (fun t k => XS.iand X0.here hx rfl (hb hby at_10) rfl (XS.istore X0.here hx rfl (hb hby at_11) rfl (l' := #[.val (.int i0), .val (.int i1), .val (.int i2), .val (.int i3), .val (.int i4), .val (.int (4 : Int32)), .val (.int (i1 &&& (2147483647 : Int32))), .unset, .unset, .unset, .unset, .unset, .unset, .unset]) rfl (XS.iloadN X0.here hx rfl (hb hby at_13) rfl k))) ?_
    show Go p e below _ s₁ (mkF m 14 #[.val (.int i0), .val (.int i1), .val (.int i2), .val (.int i3), .val (.int i4), .val (.int (4 : Int32)), .val (.int (i1 &&& (2147483647 : Int32))), .unset, .unset, .unset, .unset, .unset, .unset, .unset] [(.int i2)])
    refine Go.by (X0.ldcInt hx hown (mvT hZ (ow0 hw)) (g := (mkF m 14 #[.val (.int i0), .val (.int i1), .val (.int i2), .val (.int i3), .val (.int i4), .val (.int (4 : Int32)), .val (.int (i1 &&& (2147483647 : Int32))), .unset, .unset, .unset, .unset, .unset, .unset, .unset] [(.int i2)])) rfl (hb hby at_14)) ?_
    show Go p e below _ s₁ (mkF m 16 #[.val (.int i0), .val (.int i1), .val (.int i2), .val (.int i3), .val (.int i4), .val (.int (4 : Int32)), .val (.int (i1 &&& (2147483647 : Int32))), .unset, .unset, .unset, .unset, .unset, .unset, .unset] [(.int (2147483647 : Int32)), (.int i2)])
    refine Go.by (fun t k => XS.iand X0.here hx rfl (hb hby at_16) rfl (XS.istore X0.here hx rfl (hb hby at_17) rfl (l' := #[.val (.int i0), .val (.int i1), .val (.int i2), .val (.int i3), .val (.int i4), .val (.int (4 : Int32)), .val (.int (i1 &&& (2147483647 : Int32))), .val (.int (i2 &&& (2147483647 : Int32))), .unset, .unset, .unset, .unset, .unset, .unset]) rfl (XS.iloadN X0.here hx rfl (hb hby at_19) rfl k))) ?_
    show Go p e below _ s₁ (mkF m 20 #[.val (.int i0), .val (.int i1), .val (.int i2), .val (.int i3), .val (.int i4), .val (.int (4 : Int32)), .val (.int (i1 &&& (2147483647 : Int32))), .val (.int (i2 &&& (2147483647 : Int32))), .unset, .unset, .unset, .unset, .unset, .unset] [(.int i3)])
    refine Go.by (X0.ldcInt hx hown (mvT hZ (ow0 hw)) (g := (mkF m 20 #[.val (.int i0), .val (.int i1), .val (.int i2), .val (.int i3), .val (.int i4), .val (.int (4 : Int32)), .val (.int (i1 &&& (2147483647 : Int32))), .val (.int (i2 &&& (2147483647 : Int32))), .unset, .unset, .unset, .unset, .unset, .unset] [(.int i3)])) rfl (hb hby at_20)) ?_
    show Go p e below _ s₁ (mkF m 22 #[.val (.int i0), .val (.int i1), .val (.int i2), .val (.int i3), .val (.int i4), .val (.int (4 : Int32)), .val (.int (i1 &&& (2147483647 : Int32))), .val (.int (i2 &&& (2147483647 : Int32))), .unset, .unset, .unset, .unset, .unset, .unset] [(.int (2147483647 : Int32)), (.int i3)])
    refine Go.by (fun t k => XS.iand X0.here hx rfl (hb hby at_22) rfl (XS.istore X0.here hx rfl (hb hby at_23) rfl (l' := #[.val (.int i0), .val (.int i1), .val (.int i2), .val (.int i3), .val (.int i4), .val (.int (4 : Int32)), .val (.int (i1 &&& (2147483647 : Int32))), .val (.int (i2 &&& (2147483647 : Int32))), .val (.int (i3 &&& (2147483647 : Int32))), .unset, .unset, .unset, .unset, .unset]) rfl (XS.iload X0.here hx rfl (hb hby at_25) rfl k))) ?_
    show Go p e below _ s₁ (mkF m 27 #[.val (.int i0), .val (.int i1), .val (.int i2), .val (.int i3), .val (.int i4), .val (.int (4 : Int32)), .val (.int (i1 &&& (2147483647 : Int32))), .val (.int (i2 &&& (2147483647 : Int32))), .val (.int (i3 &&& (2147483647 : Int32))), .unset, .unset, .unset, .unset, .unset] [(.int i4)])
    refine Go.by (X0.ldcInt hx hown (mvT hZ (ow0 hw)) (g := (mkF m 27 #[.val (.int i0), .val (.int i1), .val (.int i2), .val (.int i3), .val (.int i4), .val (.int (4 : Int32)), .val (.int (i1 &&& (2147483647 : Int32))), .val (.int (i2 &&& (2147483647 : Int32))), .val (.int (i3 &&& (2147483647 : Int32))), .unset, .unset, .unset, .unset, .unset] [(.int i4)])) rfl (hb hby at_27)) ?_
    show Go p e below _ s₁ (mkF m 29 #[.val (.int i0), .val (.int i1), .val (.int i2), .val (.int i3), .val (.int i4), .val (.int (4 : Int32)), .val (.int (i1 &&& (2147483647 : Int32))), .val (.int (i2 &&& (2147483647 : Int32))), .val (.int (i3 &&& (2147483647 : Int32))), .unset, .unset, .unset, .unset, .unset] [(.int (2147483647 : Int32)), (.int i4)])
    refine Go.by (fun t k => XS.iand X0.here hx rfl (hb hby at_29) rfl (XS.istore X0.here hx rfl (hb hby at_30) rfl (l' := #[.val (.int i0), .val (.int i1), .val (.int i2), .val (.int i3), .val (.int i4), .val (.int (4 : Int32)), .val (.int (i1 &&& (2147483647 : Int32))), .val (.int (i2 &&& (2147483647 : Int32))), .val (.int (i3 &&& (2147483647 : Int32))), .val (.int (i4 &&& (2147483647 : Int32))), .unset, .unset, .unset, .unset]) rfl (XS.iload X0.here hx rfl (hb hby at_32) rfl (XS.i2l X0.here hx rfl (hb hby at_34) rfl k)))) ?_
    show Go p e below _ s₁ (mkF m 35 #[.val (.int i0), .val (.int i1), .val (.int i2), .val (.int i3), .val (.int i4), .val (.int (4 : Int32)), .val (.int (i1 &&& (2147483647 : Int32))), .val (.int (i2 &&& (2147483647 : Int32))), .val (.int (i3 &&& (2147483647 : Int32))), .val (.int (i4 &&& (2147483647 : Int32))), .unset, .unset, .unset, .unset] [(.long ((i1 &&& (2147483647 : Int32)).toInt64))])
    refine Go.by (fun t k => XS.lstore X0.here hx rfl (hb hby at_35) rfl (l' := #[.val (.int i0), .val (.int i1), .val (.int i2), .val (.int i3), .val (.int i4), .val (.int (4 : Int32)), .val (.int (i1 &&& (2147483647 : Int32))), .val (.int (i2 &&& (2147483647 : Int32))), .val (.int (i3 &&& (2147483647 : Int32))), .val (.int (i4 &&& (2147483647 : Int32))), .val (.long ((i1 &&& (2147483647 : Int32)).toInt64)), .second, .unset, .unset]) rfl (XS.iload X0.here hx rfl (hb hby at_37) rfl (XS.iconst X0.here hx rfl (hb hby at_39) (XS.icmpNo X0.here hx rfl (hb hby at_40) rfl (flt (show ¬ ((4 : Int32) < (2 : Int32)) from (by decide))).1 k)))) ?_
    show Go p e below _ s₁ (mkF m 43 #[.val (.int i0), .val (.int i1), .val (.int i2), .val (.int i3), .val (.int i4), .val (.int (4 : Int32)), .val (.int (i1 &&& (2147483647 : Int32))), .val (.int (i2 &&& (2147483647 : Int32))), .val (.int (i3 &&& (2147483647 : Int32))), .val (.int (i4 &&& (2147483647 : Int32))), .val (.long ((i1 &&& (2147483647 : Int32)).toInt64)), .second, .unset, .unset] [])
    refine Go.by (fun t k => XS.lload X0.here hx rfl (hb hby at_43) rfl (XS.iload X0.here hx rfl (hb hby at_45) rfl (XS.i2l X0.here hx rfl (hb hby at_47) rfl (XS.ladd X0.here hx rfl (hb hby at_48) rfl k)))) ?_
    show Go p e below _ s₁ (mkF m 49 #[.val (.int i0), .val (.int i1), .val (.int i2), .val (.int i3), .val (.int i4), .val (.int (4 : Int32)), .val (.int (i1 &&& (2147483647 : Int32))), .val (.int (i2 &&& (2147483647 : Int32))), .val (.int (i3 &&& (2147483647 : Int32))), .val (.int (i4 &&& (2147483647 : Int32))), .val (.long ((i1 &&& (2147483647 : Int32)).toInt64)), .second, .unset, .unset] [(.long (((i1 &&& (2147483647 : Int32)).toInt64) + ((i2 &&& (2147483647 : Int32)).toInt64)))])
    refine Go.by (fun t k => XS.lstore X0.here hx rfl (hb hby at_49) rfl (l' := #[.val (.int i0), .val (.int i1), .val (.int i2), .val (.int i3), .val (.int i4), .val (.int (4 : Int32)), .val (.int (i1 &&& (2147483647 : Int32))), .val (.int (i2 &&& (2147483647 : Int32))), .val (.int (i3 &&& (2147483647 : Int32))), .val (.int (i4 &&& (2147483647 : Int32))), .val (.long (((i1 &&& (2147483647 : Int32)).toInt64) + ((i2 &&& (2147483647 : Int32)).toInt64))), .second, .unset, .unset]) rfl (XS.iload X0.here hx rfl (hb hby at_51) rfl (XS.iconst X0.here hx rfl (hb hby at_53) (XS.icmpNo X0.here hx rfl (hb hby at_54) rfl (flt (show ¬ ((4 : Int32) < (3 : Int32)) from (by decide))).1 k)))) ?_
    show Go p e below _ s₁ (mkF m 57 #[.val (.int i0), .val (.int i1), .val (.int i2), .val (.int i3), .val (.int i4), .val (.int (4 : Int32)), .val (.int (i1 &&& (2147483647 : Int32))), .val (.int (i2 &&& (2147483647 : Int32))), .val (.int (i3 &&& (2147483647 : Int32))), .val (.int (i4 &&& (2147483647 : Int32))), .val (.long (((i1 &&& (2147483647 : Int32)).toInt64) + ((i2 &&& (2147483647 : Int32)).toInt64))), .second, .unset, .unset] [])
    refine Go.by (fun t k => XS.lload X0.here hx rfl (hb hby at_57) rfl (XS.iload X0.here hx rfl (hb hby at_59) rfl (XS.i2l X0.here hx rfl (hb hby at_61) rfl (XS.ladd X0.here hx rfl (hb hby at_62) rfl k)))) ?_
    show Go p e below _ s₁ (mkF m 63 #[.val (.int i0), .val (.int i1), .val (.int i2), .val (.int i3), .val (.int i4), .val (.int (4 : Int32)), .val (.int (i1 &&& (2147483647 : Int32))), .val (.int (i2 &&& (2147483647 : Int32))), .val (.int (i3 &&& (2147483647 : Int32))), .val (.int (i4 &&& (2147483647 : Int32))), .val (.long (((i1 &&& (2147483647 : Int32)).toInt64) + ((i2 &&& (2147483647 : Int32)).toInt64))), .second, .unset, .unset] [(.long ((((i1 &&& (2147483647 : Int32)).toInt64) + ((i2 &&& (2147483647 : Int32)).toInt64)) + ((i3 &&& (2147483647 : Int32)).toInt64)))])
    refine Go.by (fun t k => XS.lstore X0.here hx rfl (hb hby at_63) rfl (l' := #[.val (.int i0), .val (.int i1), .val (.int i2), .val (.int i3), .val (.int i4), .val (.int (4 : Int32)), .val (.int (i1 &&& (2147483647 : Int32))), .val (.int (i2 &&& (2147483647 : Int32))), .val (.int (i3 &&& (2147483647 : Int32))), .val (.int (i4 &&& (2147483647 : Int32))), .val (.long ((((i1 &&& (2147483647 : Int32)).toInt64) + ((i2 &&& (2147483647 : Int32)).toInt64)) + ((i3 &&& (2147483647 : Int32)).toInt64))), .second, .unset, .unset]) rfl (XS.iload X0.here hx rfl (hb hby at_65) rfl (XS.iconst X0.here hx rfl (hb hby at_67) (XS.icmpNo X0.here hx rfl (hb hby at_68) rfl (flt (show ¬ ((4 : Int32) < (4 : Int32)) from (by decide))).1 k)))) ?_
    show Go p e below _ s₁ (mkF m 71 #[.val (.int i0), .val (.int i1), .val (.int i2), .val (.int i3), .val (.int i4), .val (.int (4 : Int32)), .val (.int (i1 &&& (2147483647 : Int32))), .val (.int (i2 &&& (2147483647 : Int32))), .val (.int (i3 &&& (2147483647 : Int32))), .val (.int (i4 &&& (2147483647 : Int32))), .val (.long ((((i1 &&& (2147483647 : Int32)).toInt64) + ((i2 &&& (2147483647 : Int32)).toInt64)) + ((i3 &&& (2147483647 : Int32)).toInt64))), .second, .unset, .unset] [])
    refine Go.by (fun t k => XS.lload X0.here hx rfl (hb hby at_71) rfl (XS.iload X0.here hx rfl (hb hby at_73) rfl (XS.i2l X0.here hx rfl (hb hby at_75) rfl (XS.ladd X0.here hx rfl (hb hby at_76) rfl k)))) ?_
    show Go p e below _ s₁ (mkF m 77 #[.val (.int i0), .val (.int i1), .val (.int i2), .val (.int i3), .val (.int i4), .val (.int (4 : Int32)), .val (.int (i1 &&& (2147483647 : Int32))), .val (.int (i2 &&& (2147483647 : Int32))), .val (.int (i3 &&& (2147483647 : Int32))), .val (.int (i4 &&& (2147483647 : Int32))), .val (.long ((((i1 &&& (2147483647 : Int32)).toInt64) + ((i2 &&& (2147483647 : Int32)).toInt64)) + ((i3 &&& (2147483647 : Int32)).toInt64))), .second, .unset, .unset] [(.long (((((i1 &&& (2147483647 : Int32)).toInt64) + ((i2 &&& (2147483647 : Int32)).toInt64)) + ((i3 &&& (2147483647 : Int32)).toInt64)) + ((i4 &&& (2147483647 : Int32)).toInt64)))])
    refine Go.by (fun t k => XS.lstore X0.here hx rfl (hb hby at_77) rfl (l' := #[.val (.int i0), .val (.int i1), .val (.int i2), .val (.int i3), .val (.int i4), .val (.int (4 : Int32)), .val (.int (i1 &&& (2147483647 : Int32))), .val (.int (i2 &&& (2147483647 : Int32))), .val (.int (i3 &&& (2147483647 : Int32))), .val (.int (i4 &&& (2147483647 : Int32))), .val (.long (((((i1 &&& (2147483647 : Int32)).toInt64) + ((i2 &&& (2147483647 : Int32)).toInt64)) + ((i3 &&& (2147483647 : Int32)).toInt64)) + ((i4 &&& (2147483647 : Int32)).toInt64))), .second, .unset, .unset]) rfl (XS.lload X0.here hx rfl (hb hby at_79) rfl (XS.lconst X0.here hx rfl (hb hby at_81) (XS.lcmp X0.here hx rfl (hb hby at_82) rfl k)))) ?_
    show Go p e below _ s₁ (mkF m 83 #[.val (.int i0), .val (.int i1), .val (.int i2), .val (.int i3), .val (.int i4), .val (.int (4 : Int32)), .val (.int (i1 &&& (2147483647 : Int32))), .val (.int (i2 &&& (2147483647 : Int32))), .val (.int (i3 &&& (2147483647 : Int32))), .val (.int (i4 &&& (2147483647 : Int32))), .val (.long (((((i1 &&& (2147483647 : Int32)).toInt64) + ((i2 &&& (2147483647 : Int32)).toInt64)) + ((i3 &&& (2147483647 : Int32)).toInt64)) + ((i4 &&& (2147483647 : Int32)).toInt64))), .second, .unset, .unset] [(.int (lcmpW (((((i1 &&& (2147483647 : Int32)).toInt64) + ((i2 &&& (2147483647 : Int32)).toInt64)) + ((i3 &&& (2147483647 : Int32)).toInt64)) + ((i4 &&& (2147483647 : Int32)).toInt64)) (0 : Int64)))])
    by_cases hz : (lcmpW (((((i1 &&& (2147483647 : Int32)).toInt64) + ((i2 &&& (2147483647 : Int32)).toInt64)) + ((i3 &&& (2147483647 : Int32)).toInt64)) + ((i4 &&& (2147483647 : Int32)).toInt64)) (0 : Int64)) = (0 : Int32)
    · refine Go.by (fun t k => XS.ifNo X0.here hx rfl (hb hby at_83) rfl ((if0 _ _).trans (teq (show (lcmpW (((((i1 &&& (2147483647 : Int32)).toInt64) + ((i2 &&& (2147483647 : Int32)).toInt64)) + ((i3 &&& (2147483647 : Int32)).toInt64)) + ((i4 &&& (2147483647 : Int32)).toInt64)) (0 : Int64)) = (0 : Int32) from hz)).2) k) ?_
      show Go p e below _ s₁ (mkF m 86 #[.val (.int i0), .val (.int i1), .val (.int i2), .val (.int i3), .val (.int i4), .val (.int (4 : Int32)), .val (.int (i1 &&& (2147483647 : Int32))), .val (.int (i2 &&& (2147483647 : Int32))), .val (.int (i3 &&& (2147483647 : Int32))), .val (.int (i4 &&& (2147483647 : Int32))), .val (.long (((((i1 &&& (2147483647 : Int32)).toInt64) + ((i2 &&& (2147483647 : Int32)).toInt64)) + ((i3 &&& (2147483647 : Int32)).toInt64)) + ((i4 &&& (2147483647 : Int32)).toInt64))), .second, .unset, .unset] [])
      refine Go.by (fun t k => XS.iconst X0.here hx rfl (hb hby at_86) k) ?_
      show Go p e below _ s₁ (mkF m 87 #[.val (.int i0), .val (.int i1), .val (.int i2), .val (.int i3), .val (.int i4), .val (.int (4 : Int32)), .val (.int (i1 &&& (2147483647 : Int32))), .val (.int (i2 &&& (2147483647 : Int32))), .val (.int (i3 &&& (2147483647 : Int32))), .val (.int (i4 &&& (2147483647 : Int32))), .val (.long (((((i1 &&& (2147483647 : Int32)).toInt64) + ((i2 &&& (2147483647 : Int32)).toInt64)) + ((i3 &&& (2147483647 : Int32)).toInt64)) + ((i4 &&& (2147483647 : Int32)).toInt64))), .second, .unset, .unset] [(.int (1 : Int32))])
      exact Go.retN X0 hx (t := .boolean) hret (by simp) hlk (hb hby at_87) (by first | (rw [e0]; exact ⟨rfl, N0, K0⟩) | exact ⟨rfl, N0, K0⟩) (by decide) (by decide)
    · skip
      refine Go.by (fun t k => XS.ifYes X0.here hx rfl (pc0 := 83) (pc' := 88) rfl (hb hby at_83) rfl ((if0 _ _).trans (feq (show ¬ ((lcmpW (((((i1 &&& (2147483647 : Int32)).toInt64) + ((i2 &&& (2147483647 : Int32)).toInt64)) + ((i3 &&& (2147483647 : Int32)).toInt64)) + ((i4 &&& (2147483647 : Int32)).toInt64)) (0 : Int64)) = (0 : Int32)) from hz)).2) (by decide) (by decide) k) ?_
      show Go p e below _ s₁ (mkF m 88 #[.val (.int i0), .val (.int i1), .val (.int i2), .val (.int i3), .val (.int i4), .val (.int (4 : Int32)), .val (.int (i1 &&& (2147483647 : Int32))), .val (.int (i2 &&& (2147483647 : Int32))), .val (.int (i3 &&& (2147483647 : Int32))), .val (.int (i4 &&& (2147483647 : Int32))), .val (.long (((((i1 &&& (2147483647 : Int32)).toInt64) + ((i2 &&& (2147483647 : Int32)).toInt64)) + ((i3 &&& (2147483647 : Int32)).toInt64)) + ((i4 &&& (2147483647 : Int32)).toInt64))), .second, .unset, .unset] [])
      refine Go.by (fun t k => XS.iload X0.here hx rfl (hb hby at_88) rfl (XS.iconst X0.here hx rfl (hb hby at_90) (XS.icmpYes X0.here hx rfl (pc0 := 91) (pc' := 108) rfl (hb hby at_91) rfl (feq (show ¬ ((4 : Int32) = (1 : Int32)) from (by decide))).2 (by decide) (by decide) k))) ?_
      show Go p e below _ s₁ (mkF m 108 #[.val (.int i0), .val (.int i1), .val (.int i2), .val (.int i3), .val (.int i4), .val (.int (4 : Int32)), .val (.int (i1 &&& (2147483647 : Int32))), .val (.int (i2 &&& (2147483647 : Int32))), .val (.int (i3 &&& (2147483647 : Int32))), .val (.int (i4 &&& (2147483647 : Int32))), .val (.long (((((i1 &&& (2147483647 : Int32)).toInt64) + ((i2 &&& (2147483647 : Int32)).toInt64)) + ((i3 &&& (2147483647 : Int32)).toInt64)) + ((i4 &&& (2147483647 : Int32)).toInt64))), .second, .unset, .unset] [])
      refine Go.by (fun t k => XS.iload X0.here hx rfl (hb hby at_108) rfl (XS.iconst X0.here hx rfl (hb hby at_110) (XS.icmpYes X0.here hx rfl (pc0 := 111) (pc' := 134) rfl (hb hby at_111) rfl (feq (show ¬ ((4 : Int32) = (2 : Int32)) from (by decide))).2 (by decide) (by decide) k))) ?_
      show Go p e below _ s₁ (mkF m 134 #[.val (.int i0), .val (.int i1), .val (.int i2), .val (.int i3), .val (.int i4), .val (.int (4 : Int32)), .val (.int (i1 &&& (2147483647 : Int32))), .val (.int (i2 &&& (2147483647 : Int32))), .val (.int (i3 &&& (2147483647 : Int32))), .val (.int (i4 &&& (2147483647 : Int32))), .val (.long (((((i1 &&& (2147483647 : Int32)).toInt64) + ((i2 &&& (2147483647 : Int32)).toInt64)) + ((i3 &&& (2147483647 : Int32)).toInt64)) + ((i4 &&& (2147483647 : Int32)).toInt64))), .second, .unset, .unset] [])
      refine Go.by (fun t k => XS.iload X0.here hx rfl (hb hby at_134) rfl (XS.iconst X0.here hx rfl (hb hby at_136) (XS.icmpYes X0.here hx rfl (pc0 := 137) (pc' := 166) rfl (hb hby at_137) rfl (feq (show ¬ ((4 : Int32) = (3 : Int32)) from (by decide))).2 (by decide) (by decide) k))) ?_
      show Go p e below _ s₁ (mkF m 166 #[.val (.int i0), .val (.int i1), .val (.int i2), .val (.int i3), .val (.int i4), .val (.int (4 : Int32)), .val (.int (i1 &&& (2147483647 : Int32))), .val (.int (i2 &&& (2147483647 : Int32))), .val (.int (i3 &&& (2147483647 : Int32))), .val (.int (i4 &&& (2147483647 : Int32))), .val (.long (((((i1 &&& (2147483647 : Int32)).toInt64) + ((i2 &&& (2147483647 : Int32)).toInt64)) + ((i3 &&& (2147483647 : Int32)).toInt64)) + ((i4 &&& (2147483647 : Int32)).toInt64))), .second, .unset, .unset] [])
      refine Go.by (fun t k => XS.iconst X0.here hx rfl (hb hby at_166) k) ?_
      show Go p e below _ s₁ (mkF m 167 #[.val (.int i0), .val (.int i1), .val (.int i2), .val (.int i3), .val (.int i4), .val (.int (4 : Int32)), .val (.int (i1 &&& (2147483647 : Int32))), .val (.int (i2 &&& (2147483647 : Int32))), .val (.int (i3 &&& (2147483647 : Int32))), .val (.int (i4 &&& (2147483647 : Int32))), .val (.long (((((i1 &&& (2147483647 : Int32)).toInt64) + ((i2 &&& (2147483647 : Int32)).toInt64)) + ((i3 &&& (2147483647 : Int32)).toInt64)) + ((i4 &&& (2147483647 : Int32)).toInt64))), .second, .unset, .unset] [(.int (4 : Int32))])
      obtain ⟨T285, h285, k285, X285, e285, E285, A285, st285⟩ := newP X0 hx hZ (aty := .double) (ow1 hw) e0 (g := (mkF m 167 #[.val (.int i0), .val (.int i1), .val (.int i2), .val (.int i3), .val (.int i4), .val (.int (4 : Int32)), .val (.int (i1 &&& (2147483647 : Int32))), .val (.int (i2 &&& (2147483647 : Int32))), .val (.int (i3 &&& (2147483647 : Int32))), .val (.int (i4 &&& (2147483647 : Int32))), .val (.long (((((i1 &&& (2147483647 : Int32)).toInt64) + ((i2 &&& (2147483647 : Int32)).toInt64)) + ((i3 &&& (2147483647 : Int32)).toInt64)) + ((i4 &&& (2147483647 : Int32)).toInt64))), .second, .unset, .unset] [(.int (4 : Int32))])) rfl (hb hby at_167) rfl (by decide) (cap := 4) (by decide) (by decide) (by decide) (by decide)
      obtain ⟨b285, g285⟩ : ∃ z, z = h0.size := ⟨_, rfl⟩
      rw [← g285] at A285 st285
      refine Go.by st285 ?_
      have K286 : Keep h0 h285 [] := K0.ext E285
      show Go p e below _ T285 (mkF m 169 #[.val (.int i0), .val (.int i1), .val (.int i2), .val (.int i3), .val (.int i4), .val (.int (4 : Int32)), .val (.int (i1 &&& (2147483647 : Int32))), .val (.int (i2 &&& (2147483647 : Int32))), .val (.int (i3 &&& (2147483647 : Int32))), .val (.int (i4 &&& (2147483647 : Int32))), .val (.long (((((i1 &&& (2147483647 : Int32)).toInt64) + ((i2 &&& (2147483647 : Int32)).toInt64)) + ((i3 &&& (2147483647 : Int32)).toInt64)) + ((i4 &&& (2147483647 : Int32)).toInt64))), .second, .unset, .unset] [(.ref b285)])
      have V285 : Arv Z h285 b285 k285 .double (4 : Int32) [(.double (FP.l2d 0)), (.double (FP.l2d 0)), (.double (FP.l2d 0)), (.double (FP.l2d 0))] (.double (FP.l2d 0)) := (Arv.newD A285 (by decide)).pad (pad_rep [] (.double (FP.l2d 0)) 4)
      refine Go.by (fun t k => XS.dup X285.here hx rfl (hb hby at_169) rfl rfl (XS.iconst X285.here hx rfl (hb hby at_170) (XS.iload X285.here hx rfl (hb hby at_171) rfl (XS.i2dS X285.here hx rfl (hb hby at_173) rfl (i2d_w _) k)))) ?_
      show Go p e below _ T285 (mkF m 174 #[.val (.int i0), .val (.int i1), .val (.int i2), .val (.int i3), .val (.int i4), .val (.int (4 : Int32)), .val (.int (i1 &&& (2147483647 : Int32))), .val (.int (i2 &&& (2147483647 : Int32))), .val (.int (i3 &&& (2147483647 : Int32))), .val (.int (i4 &&& (2147483647 : Int32))), .val (.long (((((i1 &&& (2147483647 : Int32)).toInt64) + ((i2 &&& (2147483647 : Int32)).toInt64)) + ((i3 &&& (2147483647 : Int32)).toInt64)) + ((i4 &&& (2147483647 : Int32)).toInt64))), .second, .unset, .unset] [(.double (FP.l2d (i1 &&& (2147483647 : Int32)).toInt64)), (.int (0 : Int32)), (.ref b285), (.ref b285)])
      obtain ⟨c287, A287, q287, S287, M287, G287, J287⟩ := id V285
      obtain ⟨T287, h287, X287, e287, W287, st287⟩ := stD X285 hx hZ e285 A287 (j := (0 : Int32)) (inb_of S287 ⟨by decide, by decide⟩) (g := (mkF m 174 #[.val (.int i0), .val (.int i1), .val (.int i2), .val (.int i3), .val (.int i4), .val (.int (4 : Int32)), .val (.int (i1 &&& (2147483647 : Int32))), .val (.int (i2 &&& (2147483647 : Int32))), .val (.int (i3 &&& (2147483647 : Int32))), .val (.int (i4 &&& (2147483647 : Int32))), .val (.long (((((i1 &&& (2147483647 : Int32)).toInt64) + ((i2 &&& (2147483647 : Int32)).toInt64)) + ((i3 &&& (2147483647 : Int32)).toInt64)) + ((i4 &&& (2147483647 : Int32)).toInt64))), .second, .unset, .unset] [(.double (FP.l2d (i1 &&& (2147483647 : Int32)).toInt64)), (.int (0 : Int32)), (.ref b285), (.ref b285)])) rfl rfl (hb hby at_174)
      refine Go.by st287 ?_
      have N287 := Fr.snoc X287 N0 (Nat.le_trans (Nat.le_trans Z0 (Nat.le_refl _)) (Nat.le_of_eq g285.symm))
      have K288 : Keep h0 h287 [] := K286.wr W287 (Or.inr (Nat.le_trans (Nat.le_refl _) (Nat.le_of_eq g285.symm)))
      show Go p e below _ T287 (mkF m 175 #[.val (.int i0), .val (.int i1), .val (.int i2), .val (.int i3), .val (.int i4), .val (.int (4 : Int32)), .val (.int (i1 &&& (2147483647 : Int32))), .val (.int (i2 &&& (2147483647 : Int32))), .val (.int (i3 &&& (2147483647 : Int32))), .val (.int (i4 &&& (2147483647 : Int32))), .val (.long (((((i1 &&& (2147483647 : Int32)).toInt64) + ((i2 &&& (2147483647 : Int32)).toInt64)) + ((i3 &&& (2147483647 : Int32)).toInt64)) + ((i4 &&& (2147483647 : Int32)).toInt64))), .second, .unset, .unset] [(.ref b285)])
      have V287 : Arv Z h287 b285 k285 .double (4 : Int32) ([(.double (FP.l2d (i1 &&& (2147483647 : Int32)).toInt64)), (.double (FP.l2d 0)), (.double (FP.l2d 0)), (.double (FP.l2d 0))]) (.double (FP.l2d 0)) := Arv.set A287 q287 S287 M287 G287 J287 rfl W287 0 rfl (Nat.le_of_ble_eq_true rfl)
      refine Go.by (fun t k => XS.dup X287.here hx rfl (hb hby at_175) rfl rfl (XS.iconst X287.here hx rfl (hb hby at_176) (XS.iload X287.here hx rfl (hb hby at_177) rfl (XS.i2dS X287.here hx rfl (hb hby at_179) rfl (i2d_w _) k)))) ?_
      show Go p e below _ T287 (mkF m 180 #[.val (.int i0), .val (.int i1), .val (.int i2), .val (.int i3), .val (.int i4), .val (.int (4 : Int32)), .val (.int (i1 &&& (2147483647 : Int32))), .val (.int (i2 &&& (2147483647 : Int32))), .val (.int (i3 &&& (2147483647 : Int32))), .val (.int (i4 &&& (2147483647 : Int32))), .val (.long (((((i1 &&& (2147483647 : Int32)).toInt64) + ((i2 &&& (2147483647 : Int32)).toInt64)) + ((i3 &&& (2147483647 : Int32)).toInt64)) + ((i4 &&& (2147483647 : Int32)).toInt64))), .second, .unset, .unset] [(.double (FP.l2d (i2 &&& (2147483647 : Int32)).toInt64)), (.int (1 : Int32)), (.ref b285), (.ref b285)])
      obtain ⟨c289, A289, q289, S289, M289, G289, J289⟩ := id V287
      obtain ⟨T289, h289, X289, e289, W289, st289⟩ := stD X287 hx hZ e287 A289 (j := (1 : Int32)) (inb_of S289 ⟨by decide, by decide⟩) (g := (mkF m 180 #[.val (.int i0), .val (.int i1), .val (.int i2), .val (.int i3), .val (.int i4), .val (.int (4 : Int32)), .val (.int (i1 &&& (2147483647 : Int32))), .val (.int (i2 &&& (2147483647 : Int32))), .val (.int (i3 &&& (2147483647 : Int32))), .val (.int (i4 &&& (2147483647 : Int32))), .val (.long (((((i1 &&& (2147483647 : Int32)).toInt64) + ((i2 &&& (2147483647 : Int32)).toInt64)) + ((i3 &&& (2147483647 : Int32)).toInt64)) + ((i4 &&& (2147483647 : Int32)).toInt64))), .second, .unset, .unset] [(.double (FP.l2d (i2 &&& (2147483647 : Int32)).toInt64)), (.int (1 : Int32)), (.ref b285), (.ref b285)])) rfl rfl (hb hby at_180)
      refine Go.by st289 ?_
      have N289 := Fr.snoc X289 N287 (Nat.le_trans (Nat.le_trans Z0 (Nat.le_refl _)) (Nat.le_of_eq g285.symm))
      have K290 : Keep h0 h289 [] := K288.wr W289 (Or.inr (Nat.le_trans (Nat.le_refl _) (Nat.le_of_eq g285.symm)))
      show Go p e below _ T289 (mkF m 181 #[.val (.int i0), .val (.int i1), .val (.int i2), .val (.int i3), .val (.int i4), .val (.int (4 : Int32)), .val (.int (i1 &&& (2147483647 : Int32))), .val (.int (i2 &&& (2147483647 : Int32))), .val (.int (i3 &&& (2147483647 : Int32))), .val (.int (i4 &&& (2147483647 : Int32))), .val (.long (((((i1 &&& (2147483647 : Int32)).toInt64) + ((i2 &&& (2147483647 : Int32)).toInt64)) + ((i3 &&& (2147483647 : Int32)).toInt64)) + ((i4 &&& (2147483647 : Int32)).toInt64))), .second, .unset, .unset] [(.ref b285)])
      have V289 : Arv Z h289 b285 k285 .double (4 : Int32) ([(.double (FP.l2d (i1 &&& (2147483647 : Int32)).toInt64)), (.double (FP.l2d (i2 &&& (2147483647 : Int32)).toInt64)), (.double (FP.l2d 0)), (.double (FP.l2d 0))]) (.double (FP.l2d 0)) := Arv.set A289 q289 S289 M289 G289 J289 rfl W289 1 rfl (Nat.le_of_ble_eq_true rfl)
      refine Go.by (fun t k => XS.dup X289.here hx rfl (hb hby at_181) rfl rfl (XS.iconst X289.here hx rfl (hb hby at_182) (XS.iload X289.here hx rfl (hb hby at_183) rfl (XS.i2dS X289.here hx rfl (hb hby at_185) rfl (i2d_w _) k)))) ?_
      show Go p e below _ T289 (mkF m 186 #[.val (.int i0), .val (.int i1), .val (.int i2), .val (.int i3), .val (.int i4), .val (.int (4 : Int32)), .val (.int (i1 &&& (2147483647 : Int32))), .val (.int (i2 &&& (2147483647 : Int32))), .val (.int (i3 &&& (2147483647 : Int32))), .val (.int (i4 &&& (2147483647 : Int32))), .val (.long (((((i1 &&& (2147483647 : Int32)).toInt64) + ((i2 &&& (2147483647 : Int32)).toInt64)) + ((i3 &&& (2147483647 : Int32)).toInt64)) + ((i4 &&& (2147483647 : Int32)).toInt64))), .second, .unset, .unset] [(.double (FP.l2d (i3 &&& (2147483647 : Int32)).toInt64)), (.int (2 : Int32)), (.ref b285), (.ref b285)])
      obtain ⟨c291, A291, q291, S291, M291, G291, J291⟩ := id V289
      obtain ⟨T291, h291, X291, e291, W291, st291⟩ := stD X289 hx hZ e289 A291 (j := (2 : Int32)) (inb_of S291 ⟨by decide, by decide⟩) (g := (mkF m 186 #[.val (.int i0), .val (.int i1), .val (.int i2), .val (.int i3), .val (.int i4), .val (.int (4 : Int32)), .val (.int (i1 &&& (2147483647 : Int32))), .val (.int (i2 &&& (2147483647 : Int32))), .val (.int (i3 &&& (2147483647 : Int32))), .val (.int (i4 &&& (2147483647 : Int32))), .val (.long (((((i1 &&& (2147483647 : Int32)).toInt64) + ((i2 &&& (2147483647 : Int32)).toInt64)) + ((i3 &&& (2147483647 : Int32)).toInt64)) + ((i4 &&& (2147483647 : Int32)).toInt64))), .second, .unset, .unset] [(.double (FP.l2d (i3 &&& (2147483647 : Int32)).toInt64)), (.int (2 : Int32)), (.ref b285), (.ref b285)])) rfl rfl (hb hby at_186)
      refine Go.by st291 ?_
      have N291 := Fr.snoc X291 N289 (Nat.le_trans (Nat.le_trans Z0 (Nat.le_refl _)) (Nat.le_of_eq g285.symm))
      have K292 : Keep h0 h291 [] := K290.wr W291 (Or.inr (Nat.le_trans (Nat.le_refl _) (Nat.le_of_eq g285.symm)))
      show Go p e below _ T291 (mkF m 187 #[.val (.int i0), .val (.int i1), .val (.int i2), .val (.int i3), .val (.int i4), .val (.int (4 : Int32)), .val (.int (i1 &&& (2147483647 : Int32))), .val (.int (i2 &&& (2147483647 : Int32))), .val (.int (i3 &&& (2147483647 : Int32))), .val (.int (i4 &&& (2147483647 : Int32))), .val (.long (((((i1 &&& (2147483647 : Int32)).toInt64) + ((i2 &&& (2147483647 : Int32)).toInt64)) + ((i3 &&& (2147483647 : Int32)).toInt64)) + ((i4 &&& (2147483647 : Int32)).toInt64))), .second, .unset, .unset] [(.ref b285)])
      have V291 : Arv Z h291 b285 k285 .double (4 : Int32) ([(.double (FP.l2d (i1 &&& (2147483647 : Int32)).toInt64)), (.double (FP.l2d (i2 &&& (2147483647 : Int32)).toInt64)), (.double (FP.l2d (i3 &&& (2147483647 : Int32)).toInt64)), (.double (FP.l2d 0))]) (.double (FP.l2d 0)) := Arv.set A291 q291 S291 M291 G291 J291 rfl W291 2 rfl (Nat.le_of_ble_eq_true rfl)
      refine Go.by (fun t k => XS.dup X291.here hx rfl (hb hby at_187) rfl rfl (XS.iconst X291.here hx rfl (hb hby at_188) (XS.iload X291.here hx rfl (hb hby at_189) rfl (XS.i2dS X291.here hx rfl (hb hby at_191) rfl (i2d_w _) k)))) ?_
      show Go p e below _ T291 (mkF m 192 #[.val (.int i0), .val (.int i1), .val (.int i2), .val (.int i3), .val (.int i4), .val (.int (4 : Int32)), .val (.int (i1 &&& (2147483647 : Int32))), .val (.int (i2 &&& (2147483647 : Int32))), .val (.int (i3 &&& (2147483647 : Int32))), .val (.int (i4 &&& (2147483647 : Int32))), .val (.long (((((i1 &&& (2147483647 : Int32)).toInt64) + ((i2 &&& (2147483647 : Int32)).toInt64)) + ((i3 &&& (2147483647 : Int32)).toInt64)) + ((i4 &&& (2147483647 : Int32)).toInt64))), .second, .unset, .unset] [(.double (FP.l2d (i4 &&& (2147483647 : Int32)).toInt64)), (.int (3 : Int32)), (.ref b285), (.ref b285)])
      obtain ⟨c293, A293, q293, S293, M293, G293, J293⟩ := id V291
      obtain ⟨T293, h293, X293, e293, W293, st293⟩ := stD X291 hx hZ e291 A293 (j := (3 : Int32)) (inb_of S293 ⟨by decide, by decide⟩) (g := (mkF m 192 #[.val (.int i0), .val (.int i1), .val (.int i2), .val (.int i3), .val (.int i4), .val (.int (4 : Int32)), .val (.int (i1 &&& (2147483647 : Int32))), .val (.int (i2 &&& (2147483647 : Int32))), .val (.int (i3 &&& (2147483647 : Int32))), .val (.int (i4 &&& (2147483647 : Int32))), .val (.long (((((i1 &&& (2147483647 : Int32)).toInt64) + ((i2 &&& (2147483647 : Int32)).toInt64)) + ((i3 &&& (2147483647 : Int32)).toInt64)) + ((i4 &&& (2147483647 : Int32)).toInt64))), .second, .unset, .unset] [(.double (FP.l2d (i4 &&& (2147483647 : Int32)).toInt64)), (.int (3 : Int32)), (.ref b285), (.ref b285)])) rfl rfl (hb hby at_192)
      refine Go.by st293 ?_
      have N293 := Fr.snoc X293 N291 (Nat.le_trans (Nat.le_trans Z0 (Nat.le_refl _)) (Nat.le_of_eq g285.symm))
      have K294 : Keep h0 h293 [] := K292.wr W293 (Or.inr (Nat.le_trans (Nat.le_refl _) (Nat.le_of_eq g285.symm)))
      show Go p e below _ T293 (mkF m 193 #[.val (.int i0), .val (.int i1), .val (.int i2), .val (.int i3), .val (.int i4), .val (.int (4 : Int32)), .val (.int (i1 &&& (2147483647 : Int32))), .val (.int (i2 &&& (2147483647 : Int32))), .val (.int (i3 &&& (2147483647 : Int32))), .val (.int (i4 &&& (2147483647 : Int32))), .val (.long (((((i1 &&& (2147483647 : Int32)).toInt64) + ((i2 &&& (2147483647 : Int32)).toInt64)) + ((i3 &&& (2147483647 : Int32)).toInt64)) + ((i4 &&& (2147483647 : Int32)).toInt64))), .second, .unset, .unset] [(.ref b285)])
      have V293 : Arv Z h293 b285 k285 .double (4 : Int32) ([(.double (FP.l2d (i1 &&& (2147483647 : Int32)).toInt64)), (.double (FP.l2d (i2 &&& (2147483647 : Int32)).toInt64)), (.double (FP.l2d (i3 &&& (2147483647 : Int32)).toInt64)), (.double (FP.l2d (i4 &&& (2147483647 : Int32)).toInt64))]) (.double (FP.l2d 0)) := Arv.set A293 q293 S293 M293 G293 J293 rfl W293 3 rfl (Nat.le_of_ble_eq_true rfl)
      refine Go.by (fun t k => XS.astore X293.here hx rfl (hb hby at_193) rfl rfl (l' := #[.val (.int i0), .val (.int i1), .val (.int i2), .val (.int i3), .val (.int i4), .val (.int (4 : Int32)), .val (.int (i1 &&& (2147483647 : Int32))), .val (.int (i2 &&& (2147483647 : Int32))), .val (.int (i3 &&& (2147483647 : Int32))), .val (.int (i4 &&& (2147483647 : Int32))), .val (.long (((((i1 &&& (2147483647 : Int32)).toInt64) + ((i2 &&& (2147483647 : Int32)).toInt64)) + ((i3 &&& (2147483647 : Int32)).toInt64)) + ((i4 &&& (2147483647 : Int32)).toInt64))), .second, .val (.ref b285), .unset]) rfl k) ?_
      show Go p e below _ T293 (mkF m 195 #[.val (.int i0), .val (.int i1), .val (.int i2), .val (.int i3), .val (.int i4), .val (.int (4 : Int32)), .val (.int (i1 &&& (2147483647 : Int32))), .val (.int (i2 &&& (2147483647 : Int32))), .val (.int (i3 &&& (2147483647 : Int32))), .val (.int (i4 &&& (2147483647 : Int32))), .val (.long (((((i1 &&& (2147483647 : Int32)).toInt64) + ((i2 &&& (2147483647 : Int32)).toInt64)) + ((i3 &&& (2147483647 : Int32)).toInt64)) + ((i4 &&& (2147483647 : Int32)).toInt64))), .second, .val (.ref b285), .unset] [])
      obtain ⟨T295, h295, X295, e295, E295, A295, D295, U295, st295⟩ := newO X293 hx hZ hown (ow2 hw) (ow3 hw) (ow4 hw) e293 (g := (mkF m 195 #[.val (.int i0), .val (.int i1), .val (.int i2), .val (.int i3), .val (.int i4), .val (.int (4 : Int32)), .val (.int (i1 &&& (2147483647 : Int32))), .val (.int (i2 &&& (2147483647 : Int32))), .val (.int (i3 &&& (2147483647 : Int32))), .val (.int (i4 &&& (2147483647 : Int32))), .val (.long (((((i1 &&& (2147483647 : Int32)).toInt64) + ((i2 &&& (2147483647 : Int32)).toInt64)) + ((i3 &&& (2147483647 : Int32)).toInt64)) + ((i4 &&& (2147483647 : Int32)).toInt64))), .second, .val (.ref b285), .unset] [])) rfl (hb hby at_195) (by decide) (by decide)
      obtain ⟨b295, g295⟩ : ∃ z, z = h293.size := ⟨_, rfl⟩
      rw [← g295] at A295 D295 U295 st295
      refine Go.by st295 ?_
      have K296 : Keep h0 h295 [] := K294.ext E295
      show Go p e below _ T295 (mkF m 198 #[.val (.int i0), .val (.int i1), .val (.int i2), .val (.int i3), .val (.int i4), .val (.int (4 : Int32)), .val (.int (i1 &&& (2147483647 : Int32))), .val (.int (i2 &&& (2147483647 : Int32))), .val (.int (i3 &&& (2147483647 : Int32))), .val (.int (i4 &&& (2147483647 : Int32))), .val (.long (((((i1 &&& (2147483647 : Int32)).toInt64) + ((i2 &&& (2147483647 : Int32)).toInt64)) + ((i3 &&& (2147483647 : Int32)).toInt64)) + ((i4 &&& (2147483647 : Int32)).toInt64))), .second, .val (.ref b285), .unset] [(.ref b295)])
      refine Go.by (fun t k => XS.dup X295.here hx rfl (hb hby at_198) rfl rfl (XS.aload X295.here hx rfl (hb hby at_199) rfl rfl k)) ?_
      show Go p e below _ T295 (mkF m 201 #[.val (.int i0), .val (.int i1), .val (.int i2), .val (.int i3), .val (.int i4), .val (.int (4 : Int32)), .val (.int (i1 &&& (2147483647 : Int32))), .val (.int (i2 &&& (2147483647 : Int32))), .val (.int (i3 &&& (2147483647 : Int32))), .val (.int (i4 &&& (2147483647 : Int32))), .val (.long (((((i1 &&& (2147483647 : Int32)).toInt64) + ((i2 &&& (2147483647 : Int32)).toInt64)) + ((i3 &&& (2147483647 : Int32)).toInt64)) + ((i4 &&& (2147483647 : Int32)).toInt64))), .second, .val (.ref b285), .unset] [(.ref b285), (.ref b295), (.ref b295)])
      have F298 : Arv Z h295 b285 k285 .double (4 : Int32) ([(.double (FP.l2d (i1 &&& (2147483647 : Int32)).toInt64)), (.double (FP.l2d (i2 &&& (2147483647 : Int32)).toInt64)), (.double (FP.l2d (i3 &&& (2147483647 : Int32)).toInt64)), (.double (FP.l2d (i4 &&& (2147483647 : Int32)).toInt64))]) (.double (FP.l2d 0)) := (V293.ext E295)
      obtain ⟨_, _, ⟨T297, L297, k297, n297⟩, -, X297, ⟨Lc297, hQ297, l297, y297, z297⟩, st297⟩ := X295.specialBack hx (y := (⟨"com/example/shardpick/shardpick/generate/WeightedDraw", "<init>", "([D)V"⟩ : MethodName)) rfl hown (mvT hZ (ow5 hw)) (mvT hZ (ow6 hw)) (mvT hZ (ow7 hw)) (by decide) (backOf (W := 1) (rm_wd4 l Z a0 hw [] b295 b285 k285 ((i1 &&& (2147483647 : Int32)).toInt64) ((i2 &&& (2147483647 : Int32)).toInt64) ((i3 &&& (2147483647 : Int32)).toInt64) ((i4 &&& (2147483647 : Int32)).toInt64) h295 n0 (Nat.le_trans Z0 (Nat.le_trans (Nat.le_trans (Nat.le_trans (Nat.le_trans (Nat.le_trans E285.1 (Keep.of_wr W287).1) (Keep.of_wr W289).1) (Keep.of_wr W291).1) (Keep.of_wr W293).1) E295.1)) A295 ((Nat.le_trans (Nat.le_trans Z0 (Nat.le_trans (Nat.le_trans (Nat.le_trans (Nat.le_trans E285.1 (Keep.of_wr W287).1) (Keep.of_wr W289).1) (Keep.of_wr W291).1) (Keep.of_wr W293).1)) (Nat.le_of_eq g295.symm))) (D295 (Or.inr (ow12 hw)) (ty := (.array .double)) (by decide)) F298 (in_mask _) (in_mask _) (in_mask _) (in_mask _)) hZ (ow7 hw) (ow4 hw) (by decide) (by decide)) (g := (mkF m 201 #[.val (.int i0), .val (.int i1), .val (.int i2), .val (.int i3), .val (.int i4), .val (.int (4 : Int32)), .val (.int (i1 &&& (2147483647 : Int32))), .val (.int (i2 &&& (2147483647 : Int32))), .val (.int (i3 &&& (2147483647 : Int32))), .val (.int (i4 &&& (2147483647 : Int32))), .val (.long (((((i1 &&& (2147483647 : Int32)).toInt64) + ((i2 &&& (2147483647 : Int32)).toInt64)) + ((i3 &&& (2147483647 : Int32)).toInt64)) + ((i4 &&& (2147483647 : Int32)).toInt64))), .second, .val (.ref b285), .unset] [(.ref b285), (.ref b295), (.ref b295)])) rfl (by rw [hml]; rfl) (Steps.refl _) (a := b295) (argsL := [(.ref b285)]) (rest := [(.ref b295)]) (lenOf opd_0 rfl) rfl (by show 2 * 0 + _ ≤ _; exact Nat.le_of_eq rfl) (hb hby at_201) (fun _ _ => ⟨rfl, e295, (by decide : 2 + 1 ≤ _), (by decide : 5 + 4 ≤ _)⟩)
      dsimp only [Pt.U, Pt.locs, Pt.cells, Pt.slots] at X297 l297 y297 z297 st297 hQ297
      subst l297 y297 z297
      obtain ⟨bt_297, kt_297, rfl, N297q, K297q, P297_0, P297_1, P297_2⟩ := hQ297
      have N297 := Fr.app N293 N297q
      refine Go.tr st297 ?_
      have K299 : Keep h0 T297.heap [] := K296.trans K297q (allS (Or.inr (Nat.le_trans (Nat.le_trans (Nat.le_trans (Nat.le_trans (Nat.le_trans E285.1 (Keep.of_wr W287).1) (Keep.of_wr W289).1) (Keep.of_wr W291).1) (Keep.of_wr W293).1) (Nat.le_of_eq g295.symm))) all0)
      show Go p e below _ T297 (mkF m 204 #[.val (.int i0), .val (.int i1), .val (.int i2), .val (.int i3), .val (.int i4), .val (.int (4 : Int32)), .val (.int (i1 &&& (2147483647 : Int32))), .val (.int (i2 &&& (2147483647 : Int32))), .val (.int (i3 &&& (2147483647 : Int32))), .val (.int (i4 &&& (2147483647 : Int32))), .val (.long (((((i1 &&& (2147483647 : Int32)).toInt64) + ((i2 &&& (2147483647 : Int32)).toInt64)) + ((i3 &&& (2147483647 : Int32)).toInt64)) + ((i4 &&& (2147483647 : Int32)).toInt64))), .second, .val (.ref b285), .unset] [(.ref b295)])
      refine Go.by (fun t k => XS.astore X297.here hx rfl (hb hby at_204) rfl rfl (l' := #[.val (.int i0), .val (.int i1), .val (.int i2), .val (.int i3), .val (.int i4), .val (.int (4 : Int32)), .val (.int (i1 &&& (2147483647 : Int32))), .val (.int (i2 &&& (2147483647 : Int32))), .val (.int (i3 &&& (2147483647 : Int32))), .val (.int (i4 &&& (2147483647 : Int32))), .val (.long (((((i1 &&& (2147483647 : Int32)).toInt64) + ((i2 &&& (2147483647 : Int32)).toInt64)) + ((i3 &&& (2147483647 : Int32)).toInt64)) + ((i4 &&& (2147483647 : Int32)).toInt64))), .second, .val (.ref b285), .val (.ref b295)]) rfl (XS.aload X297.here hx rfl (hb hby at_206) rfl rfl k)) ?_
      show Go p e below _ T297 (mkF m 208 #[.val (.int i0), .val (.int i1), .val (.int i2), .val (.int i3), .val (.int i4), .val (.int (4 : Int32)), .val (.int (i1 &&& (2147483647 : Int32))), .val (.int (i2 &&& (2147483647 : Int32))), .val (.int (i3 &&& (2147483647 : Int32))), .val (.int (i4 &&& (2147483647 : Int32))), .val (.long (((((i1 &&& (2147483647 : Int32)).toInt64) + ((i2 &&& (2147483647 : Int32)).toInt64)) + ((i3 &&& (2147483647 : Int32)).toInt64)) + ((i4 &&& (2147483647 : Int32)).toInt64))), .second, .val (.ref b285), .val (.ref b295)] [(.ref b295)])
      obtain ⟨cq300, kq300, q300a, q300b, q300c⟩ := isOf hZ rfl P297_0
      obtain ⟨_, _, ⟨T300, L300, k300, n300⟩, -, X300, ⟨Lc300, hQ300, l300, y300, z300⟩, st300⟩ := X297.virtualBack hx (y := (⟨"com/example/shardpick/shardpick/generate/WeightedDraw", "total", "()D"⟩ : MethodName)) (z := (⟨"com/example/shardpick/shardpick/generate/WeightedDraw", "total", "()D"⟩ : MethodName)) hown (mvT hZ (ow13 hw)) (mvT hZ (ow14 hw)) (notFace_of_selects (args := #[]) (mvT hZ (ow16 hw))) (mvT hZ (ow16 hw)) (mvT hZ (ow15 hw)) (by decide) (backOf (W := 0) (rm_tot4 l Z a0 hw [] b295 bt_297 kt_297 ((0 : Int64) + ((i1 &&& (2147483647 : Int32)).toInt64)) (((0 : Int64) + ((i1 &&& (2147483647 : Int32)).toInt64)) + ((i2 &&& (2147483647 : Int32)).toInt64)) ((((0 : Int64) + ((i1 &&& (2147483647 : Int32)).toInt64)) + ((i2 &&& (2147483647 : Int32)).toInt64)) + ((i3 &&& (2147483647 : Int32)).toInt64)) (((((0 : Int64) + ((i1 &&& (2147483647 : Int32)).toInt64)) + ((i2 &&& (2147483647 : Int32)).toInt64)) + ((i3 &&& (2147483647 : Int32)).toInt64)) + ((i4 &&& (2147483647 : Int32)).toInt64)) T297.heap n0 (Nat.le_trans Z0 (Nat.le_trans (Nat.le_trans (Nat.le_trans (Nat.le_trans (Nat.le_trans (Nat.le_trans E285.1 (Keep.of_wr W287).1) (Keep.of_wr W289).1) (Keep.of_wr W291).1) (Keep.of_wr W293).1) E295.1) K297q.1)) P297_1 P297_2) hZ (ow17 hw) (ow4 hw) (by decide) (by decide)) q300a q300c (g := (mkF m 208 #[.val (.int i0), .val (.int i1), .val (.int i2), .val (.int i3), .val (.int i4), .val (.int (4 : Int32)), .val (.int (i1 &&& (2147483647 : Int32))), .val (.int (i2 &&& (2147483647 : Int32))), .val (.int (i3 &&& (2147483647 : Int32))), .val (.int (i4 &&& (2147483647 : Int32))), .val (.long (((((i1 &&& (2147483647 : Int32)).toInt64) + ((i2 &&& (2147483647 : Int32)).toInt64)) + ((i3 &&& (2147483647 : Int32)).toInt64)) + ((i4 &&& (2147483647 : Int32)).toInt64))), .second, .val (.ref b285), .val (.ref b295)] [(.ref b295)])) rfl (by rw [hml]; rfl) (Steps.refl _) (argsL := []) (rest := []) (lenOf opd_1 rfl) rfl (by show 2 * 0 + _ ≤ _; exact Nat.le_of_eq rfl) (hb hby at_208) (fun _ _ => ⟨rfl, rfl, (by decide : 3 + 0 ≤ _), (by decide : 9 + 0 ≤ _)⟩)
      dsimp only [Pt.U, Pt.locs, Pt.cells, Pt.slots] at X300 l300 y300 z300 st300 hQ300
      subst l300 y300 z300
      obtain ⟨rfl, N300q, e300⟩ := hQ300
      have N300 := Fr.app N297 N300q
      refine Go.tr st300 ?_
      show Go p e below _ T300 (mkF m 211 #[.val (.int i0), .val (.int i1), .val (.int i2), .val (.int i3), .val (.int i4), .val (.int (4 : Int32)), .val (.int (i1 &&& (2147483647 : Int32))), .val (.int (i2 &&& (2147483647 : Int32))), .val (.int (i3 &&& (2147483647 : Int32))), .val (.int (i4 &&& (2147483647 : Int32))), .val (.long (((((i1 &&& (2147483647 : Int32)).toInt64) + ((i2 &&& (2147483647 : Int32)).toInt64)) + ((i3 &&& (2147483647 : Int32)).toInt64)) + ((i4 &&& (2147483647 : Int32)).toInt64))), .second, .val (.ref b285), .val (.ref b295)] [(.double (FP.l2d (((((0 : Int64) + ((i1 &&& (2147483647 : Int32)).toInt64)) + ((i2 &&& (2147483647 : Int32)).toInt64)) + ((i3 &&& (2147483647 : Int32)).toInt64)) + ((i4 &&& (2147483647 : Int32)).toInt64))))])
      refine Go.by (fun t k => XS.lload X300.here hx rfl (hb hby at_211) rfl (XS.l2dS X300.here hx rfl (hb hby at_213) rfl rfl k)) ?_
      show Go p e below _ T300 (mkF m 214 #[.val (.int i0), .val (.int i1), .val (.int i2), .val (.int i3), .val (.int i4), .val (.int (4 : Int32)), .val (.int (i1 &&& (2147483647 : Int32))), .val (.int (i2 &&& (2147483647 : Int32))), .val (.int (i3 &&& (2147483647 : Int32))), .val (.int (i4 &&& (2147483647 : Int32))), .val (.long (((((i1 &&& (2147483647 : Int32)).toInt64) + ((i2 &&& (2147483647 : Int32)).toInt64)) + ((i3 &&& (2147483647 : Int32)).toInt64)) + ((i4 &&& (2147483647 : Int32)).toInt64))), .second, .val (.ref b285), .val (.ref b295)] [(.double (FP.l2d (((((i1 &&& (2147483647 : Int32)).toInt64) + ((i2 &&& (2147483647 : Int32)).toInt64)) + ((i3 &&& (2147483647 : Int32)).toInt64)) + ((i4 &&& (2147483647 : Int32)).toInt64)))), (.double (FP.l2d (((((0 : Int64) + ((i1 &&& (2147483647 : Int32)).toInt64)) + ((i2 &&& (2147483647 : Int32)).toInt64)) + ((i3 &&& (2147483647 : Int32)).toInt64)) + ((i4 &&& (2147483647 : Int32)).toInt64))))])
      have q301 : cmpValue (FP.dcmp (FP.l2d (((((0 : Int64) + ((i1 &&& (2147483647 : Int32)).toInt64)) + ((i2 &&& (2147483647 : Int32)).toInt64)) + ((i3 &&& (2147483647 : Int32)).toInt64)) + ((i4 &&& (2147483647 : Int32)).toInt64))) (FP.l2d (((((i1 &&& (2147483647 : Int32)).toInt64) + ((i2 &&& (2147483647 : Int32)).toInt64)) + ((i3 &&& (2147483647 : Int32)).toInt64)) + ((i4 &&& (2147483647 : Int32)).toInt64)))) .l = (0 : Int32) := (by rw [Int64.zero_add]; exact dcmpV_self (nn_w rfl) _)
      refine Go.by (fun t k => XS.dcmpS X300.here hx rfl (hb hby at_214) rfl q301 k) ?_
      show Go p e below _ T300 (mkF m 215 #[.val (.int i0), .val (.int i1), .val (.int i2), .val (.int i3), .val (.int i4), .val (.int (4 : Int32)), .val (.int (i1 &&& (2147483647 : Int32))), .val (.int (i2 &&& (2147483647 : Int32))), .val (.int (i3 &&& (2147483647 : Int32))), .val (.int (i4 &&& (2147483647 : Int32))), .val (.long (((((i1 &&& (2147483647 : Int32)).toInt64) + ((i2 &&& (2147483647 : Int32)).toInt64)) + ((i3 &&& (2147483647 : Int32)).toInt64)) + ((i4 &&& (2147483647 : Int32)).toInt64))), .second, .val (.ref b285), .val (.ref b295)] [(.int (0 : Int32))])
      refine Go.by (fun t k => XS.ifNo X300.here hx rfl (hb hby at_215) rfl ((if0 _ _).trans (teq (show (0 : Int32) = (0 : Int32) from (by decide))).2) k) ?_
      show Go p e below _ T300 (mkF m 218 #[.val (.int i0), .val (.int i1), .val (.int i2), .val (.int i3), .val (.int i4), .val (.int (4 : Int32)), .val (.int (i1 &&& (2147483647 : Int32))), .val (.int (i2 &&& (2147483647 : Int32))), .val (.int (i3 &&& (2147483647 : Int32))), .val (.int (i4 &&& (2147483647 : Int32))), .val (.long (((((i1 &&& (2147483647 : Int32)).toInt64) + ((i2 &&& (2147483647 : Int32)).toInt64)) + ((i3 &&& (2147483647 : Int32)).toInt64)) + ((i4 &&& (2147483647 : Int32)).toInt64))), .second, .val (.ref b285), .val (.ref b295)] [])
      refine Go.by (fun t k => XS.iconst X300.here hx rfl (hb hby at_218) (XS.goto X300.here hx rfl (pc0 := 219) (pc' := 223) rfl (hb hby at_219) (by decide) (by decide) k)) ?_
      show Go p e below _ T300 (mkF m 223 #[.val (.int i0), .val (.int i1), .val (.int i2), .val (.int i3), .val (.int i4), .val (.int (4 : Int32)), .val (.int (i1 &&& (2147483647 : Int32))), .val (.int (i2 &&& (2147483647 : Int32))), .val (.int (i3 &&& (2147483647 : Int32))), .val (.int (i4 &&& (2147483647 : Int32))), .val (.long (((((i1 &&& (2147483647 : Int32)).toInt64) + ((i2 &&& (2147483647 : Int32)).toInt64)) + ((i3 &&& (2147483647 : Int32)).toInt64)) + ((i4 &&& (2147483647 : Int32)).toInt64))), .second, .val (.ref b285), .val (.ref b295)] [(.int (1 : Int32))])
      exact Go.retN X300 hx (t := .boolean) hret (by simp) hlk (hb hby at_223) (by first | (rw [e300]; exact ⟨rfl, N300, K299⟩) | exact ⟨rfl, N300, K299⟩) (by decide) (by decide)
set_option maxRecDepth 65536 in
set_option maxHeartbeats 40000000 in
theorem comes_1 {Post : Tables → Env → Array Value → State → Outcome → State → Prop} (hpost : ∀ tb e args s v u, (limb_1_1.after args s (.returned v) u = true ∧ limb_1_2.after args s (.returned v) u = true ∧ True) → FrameEnd s (.returned v) u (Jvm.fieldLocs frame_1_writes args s ++ Jvm.arrayLocs frame_1_arrays args s ++ Jvm.staticLocs frame_1_statics s) 16 128 → Post tb e args s (.returned v) u) :
    ArmFor flags0 classFile x code maxLocals ret World_1 tables_1 room_1 Calls_1 rest_1 Pre_1 Post := by
  intro l hfl _ _ p e ha hc hk s m args below hf hA hF happ hP
  obtain ⟨hcalls, hrest, hpre⟩ := hP
  obtain ⟨-, -, -, hnamed, -, -, -, hat⟩ := (Spec.applies_iff hf).mp happ
  obtain ⟨hg, hn⟩ := and_e (Cond.before_iff.mp (show (Jvm.Cond.and given_1 narrow_1).before args s = true from hpre))
  obtain ⟨hcount, r0⟩ := and_e hg
  obtain ⟨k0, r1⟩ := and_e r0
  obtain ⟨k1, r2⟩ := and_e r1
  obtain ⟨k2, r3⟩ := and_e r2
  obtain ⟨k3, r4⟩ := and_e r3
  obtain ⟨w0, w1, w2, w3, w4, rfl⟩ : ∃ w0 w1 w2 w3 w4 : Value, args = #[w0, w1, w2, w3, w4] := by
    have hs : args.size = 5 := by simpa [Cond.value, given_1] using hcount
    obtain ⟨L⟩ := args
    match L, hs with
    | [w0, w1, w2, w3, w4], _ => exact ⟨w0, w1, w2, w3, w4, rfl⟩
  have hw := fun d (hd : d ∈ tables_1) => atoms_spec (ws := Jvm.Cond.code x code maxLocals ret :: tables_1) hat d (List.mem_cons_of_mem _ hd)
  obtain ⟨i0, e0⟩ := is_v k0
  obtain rfl : w0 = (.int i0) := Option.some.inj e0
  obtain ⟨i1, e1⟩ := is_v k1
  obtain rfl : w1 = (.int i1) := Option.some.inj e1
  obtain ⟨i2, e2⟩ := is_v k2
  obtain rfl : w2 = (.int i2) := Option.some.inj e2
  obtain ⟨i3, e3⟩ := is_v k3
  obtain rfl : w3 = (.int i3) := Option.some.inj e3
  obtain ⟨i4, e4⟩ := is_v r4
  obtain rfl : w4 = (.int i4) := Option.some.inj e4
  obtain ⟨n, o, h1, h2, h3, _, L, rfl, ⟨rfl, N, -⟩, hq⟩ := rm_law l s _ hw tables_1 i0 i1 i2 i3 i4  s.heap s.heap.size (Nat.le_refl _)  p e ha hc hk s m _ below hf ((Spec.applies_iff_loose hf).mp happ).1 ⟨rfl, State.Warmed39.refl s, rfl⟩ trivial
  refine ⟨n, _, h1, h2, h3, hpost _ _ _ _ _ _ ⟨Cond.after_iff.mpr rfl, Cond.after_iff.mpr (eq_i res_at (Term.int_eval (1)) rfl), trivial⟩ ⟨hq.1, hq.2.1, (hq.2.2.sift fun y hy => Or.inr (N y hy)).mono (by decide) (by decide)⟩⟩
theorem main_1_1 : Claimed_1_1 := comes_1 fun _ _ _ _ _ _ h hF => ⟨h.1, hF⟩
theorem main_1_2 : Claimed_1_2 := comes_1 fun _ _ _ _ _ _ h hF => ⟨h.2.1, hF⟩
end Jvm.Pilot.@@N@@
namespace Jvm.Pilot.@@N@@
open Jvm Jvm.ClassFile Sem Op Lib Jvm.Free Jvm.Stand Jvm.Pilot.@@N@@.Jvm.D
/-! MADE BY PROGRAM (witnessworld.py) out of the Statement's table words and the real class files: 9 classes; the members and pool entries that the words name. The judged class is class 1, her method 1. -/
namespace start1
open Jvm.ClassFile
def u (s : String) : CpInfo := .utf8 (stringToUtf16 s)
/-- a pool by its gaps: so many unusable entries, then the entry; so many at the end -/
def gap : Nat → List CpInfo → List CpInfo
  | 0, r => r
  | n + 1, r => .unusable :: gap n r
def poolList (es : List (Nat × CpInfo)) (last : Nat) : List CpInfo := es.foldr (fun e r => gap e.1 (e.2 :: r)) (gap last [])
def pool (es : List (Nat × CpInfo)) (last : Nat) : Array CpInfo := ⟨poolList es last⟩
def fileOf (pool : Array CpInfo) (this : Nat) (attrs : Array Attribute := #[]) (ms : Array MethodInfo := #[]) (fl : Nat := 33) (sup : Nat := 0) (ifs : Array Nat := #[]) (fds : Array FieldInfo := #[]) : ClassFile where
  minorVersion := 0
  majorVersion := 65
  constantPool := pool
  accessFlags := fl
  thisClass := this
  superClass := sup
  interfaces := ifs
  fields := fds
  methods := ms
  attributes := attrs
def plain (name : String) (sup : Option ClassId) : Class where
  name := name
  kind := .ordinary
  loader := none
  accessFlags := 33
  super := sup
  interfaces := #[]
  cf := none
  fields := #[]
  methods := #[]
  instanceTypes := #[]
  staticTypes := #[]
  resolved := #[]
  callSites := []
  init := .initialized
  statics := none
  mirror := none

def pool0 : Array CpInfo := pool [(5, u "<init>"), (0, u "()V"), (1, .class_ 10), (1, u "java/lang/Object")] 113

def k0c0 : Code := { maxStack := 0, maxLocals := 1, code := object_method_1_code, exceptionTable := #[], attributes := #[] }
def k0m0 : Method := { name := "<init>", desc := "()V", sig := { parameters := [], returnType := none }, accessFlags := 1, code := some k0c0 }
/-- java/lang/Object -/
def k0 : Class := { plain "java/lang/Object" none with
  accessFlags := 33
  interfaces := #[]
  cf := some (fileOf pool0 8 #[] #[{ accessFlags := 1, nameIndex := 5, descriptorIndex := 6, attributes := #[] }] 33 0 #[] #[])
  fields := #[]
  methods := #[k0m0]
  instanceTypes := #[]
  staticTypes := #[]
  resolved := Array.replicate 124 none
  statics := none }

def pool1 : Array CpInfo := pool [(2, .class_ 4), (1, u "java/lang/Object"), (0, u "<init>"), (0, u "()V"), (0, .integer 2147483647), (0, .class_ 9), (0, u "com/example/shardpick/shardpick/generate/WeightedDraw"), (0, .methodref 8 11), (0, .nameAndType 5 12), (0, u "([D)V"), (0, .methodref 8 14), (0, .nameAndType 15 16), (0, u "total"), (0, u "()D"), (0, .class_ 18), (0, u "com/example/shardpick/shardpick/generate/WeightedDrawTotalPinLaw"), (2, u "law"), (0, u "(IIIII)Z")] 5

def k1m0 : Method := { name := "<init>", desc := "()V", sig := { parameters := [], returnType := none }, accessFlags := 1, code := none }
def k1c1 : Code := { maxStack := 5, maxLocals := 14, code := code, exceptionTable := #[], attributes := #[] }
def k1m1 : Method := { name := "law", desc := "(IIIII)Z", sig := { parameters := [.int, .int, .int, .int, .int], returnType := some .boolean }, accessFlags := 9, code := some k1c1 }
/-- com/example/shardpick/shardpick/generate/WeightedDrawTotalPinLaw -/
def k1 : Class := { plain "com/example/shardpick/shardpick/generate/WeightedDrawTotalPinLaw" (some 0) with
  accessFlags := 49
  interfaces := #[]
  cf := some (fileOf pool1 17 #[] #[{ accessFlags := 1, nameIndex := 5, descriptorIndex := 6, attributes := #[] }, { accessFlags := 9, nameIndex := 21, descriptorIndex := 22, attributes := #[] }] 49 2 #[] #[])
  fields := #[]
  methods := #[k1m0, k1m1]
  instanceTypes := #[]
  staticTypes := #[]
  resolved := Array.replicate 28 none
  statics := none }

def pool2 : Array CpInfo := pool [(1, .methodref 2 3), (0, .class_ 4), (0, .nameAndType 5 6), (0, u "java/lang/Object"), (0, u "<init>"), (0, u "()V"), (0, .fieldref 8 9), (0, .class_ 10), (0, .nameAndType 11 12), (0, u "com/example/shardpick/shardpick/generate/WeightedDraw"), (0, u "ends"), (0, u "[D"), (5, u "()D"), (2, u "total"), (14, u "([D)V")] 8

def k2c0 : Code := { maxStack := 4, maxLocals := 5, code := prog_22_method_1_code, exceptionTable := #[], attributes := #[] }
def k2m0 : Method := { name := "<init>", desc := "([D)V", sig := { parameters := [(.array .double)], returnType := none }, accessFlags := 0, code := some k2c0 }
def k2c1 : Code := { maxStack := 3, maxLocals := 1, code := prog_22_method_2_code, exceptionTable := #[], attributes := #[] }
def k2m1 : Method := { name := "total", desc := "()D", sig := { parameters := [], returnType := some .double }, accessFlags := 0, code := some k2c1 }
/-- com/example/shardpick/shardpick/generate/WeightedDraw -/
def k2 : Class := { plain "com/example/shardpick/shardpick/generate/WeightedDraw" (some 0) with
  accessFlags := 48
  interfaces := #[]
  cf := some (fileOf pool2 8 #[] #[{ accessFlags := 0, nameIndex := 5, descriptorIndex := 36, attributes := #[] }, { accessFlags := 0, nameIndex := 21, descriptorIndex := 18, attributes := #[] }] 48 2 #[] #[{ accessFlags := 18, nameIndex := 11, descriptorIndex := 12, attributes := #[] }])
  fields := #[{ name := "ends", type := (.array .double), accessFlags := 18, slot := 0, constantValue := 0 }]
  methods := #[k2m0, k2m1]
  instanceTypes := #[(.array .double)]
  staticTypes := #[]
  resolved := Array.replicate 45 none
  statics := none }

def pool3 : Array CpInfo := pool [(1, u "java/lang/Cloneable"), (0, .class_ 1), (0, u "java/lang/Object"), (0, .class_ 3)] 3

/-- java/lang/Cloneable -/
def k3 : Class := { plain "java/lang/Cloneable" (some 0) with
  accessFlags := 1537
  interfaces := #[]
  cf := some (fileOf pool3 2 #[] #[] 1537 4 #[] #[])
  fields := #[]
  methods := #[]
  instanceTypes := #[]
  staticTypes := #[]
  resolved := Array.replicate 8 none
  statics := none }

def pool4 : Array CpInfo := pool [(1, u "java/io/Serializable"), (0, .class_ 1), (0, u "java/lang/Object"), (0, .class_ 3)] 3

/-- java/io/Serializable -/
def k4 : Class := { plain "java/io/Serializable" (some 0) with
  accessFlags := 1537
  interfaces := #[]
  cf := some (fileOf pool4 2 #[] #[] 1537 4 #[] #[])
  fields := #[]
  methods := #[]
  instanceTypes := #[]
  staticTypes := #[]
  resolved := Array.replicate 8 none
  statics := none }

/-- the primitive byte -/
def k5 : Class := { plain "byte" none with kind := .primitive 'B', accessFlags := 0x411 }
/-- [B -/
def k6 : Class := { plain "[B" (some 0) with kind := .array 5 .byte, interfaces := #[3, 4], accessFlags := 1041 }

/-- the primitive int -/
def k7 : Class := { plain "int" none with kind := .primitive 'I', accessFlags := 0x411 }
/-- [I -/
def k8 : Class := { plain "[I" (some 0) with kind := .array 7 .int, interfaces := #[3, 4], accessFlags := 1041 }

def k_double : Class := { plain "double" none with kind := .primitive 'D', accessFlags := 0x411 }
def k_doubles : Class := { plain "[D" (some 0) with kind := .array 9 .double, interfaces := #[3, 4], accessFlags := 1041 }
def heap : Heap := #[]
def classes : Array Class := #[k0, k1, k2, k3, k4, k5, k6, k7, k8, k_double, k_doubles]
def interned : List (Array UInt16 × Addr) := []
def slotsUsed : Nat := 0
def theMethod : MethodId := ⟨1, 1⟩
def args0 : Array Value := #[.int 5, .int 3, .int 7, .int 9, .int 11]
def aboutOver (below : List Frame) : State where
  vm := { classes := classes, interned := interned.toArray }
  heap := heap
  slotsUsed := slotsUsed
  threads := #[{ frames := .invoking theMethod args0 :: below }]
def below0 : List Frame := [.native { method := ⟨0, 0⟩, args := #[] }]
def about1 : State := aboutOver below0
def p0 : Program := .bare "" "" ""
def e0 : Env := launch0.env 0 0 0
theorem w_frames : about1.frames = Frame.invoking theMethod args0 :: below0 := rfl
set_option maxRecDepth 65536 in
theorem w_args : argsFit about1.vm theMethod args0 = true := by decide +kernel
set_option maxRecDepth 65536 in
theorem w_heap : heapFits about1 = true := by decide +kernel
set_option maxRecDepth 65536 in
theorem w_runnable : about1.curStatus? = some .runnable := by decide +kernel
set_option maxRecDepth 65536 in
theorem w_alone : about1.alone = true := by decide +kernel
set_option maxRecDepth 65536 in
theorem w_named : about1.methodNamed? x = some theMethod := by decide +kernel
set_option maxRecDepth 65536 in
theorem w_hears : about1.hears theMethod below0 = true := by decide +kernel
set_option maxRecDepth 65536 in
theorem w_ripe : about1.ripe theMethod args0 below0 = true := by decide +kernel
theorem w_running : about1.status = .running := rfl
set_option maxRecDepth 65536 in
theorem w_room : about1.hasRoom e0.platform room_1 = true :=
  launch0.hasRoom_least _ room_1 (by decide +kernel) (by decide +kernel) (by decide +kernel) (by decide +kernel) (by decide +kernel) (by decide +kernel)
theorem allAtoms_all (ts : List Jvm.Cond) (a : Array Jvm.Value) (st : Jvm.State) : (allAtoms ts).before a st = ts.all (fun c => c.before a st) := by
  induction ts with
  | nil => rfl
  | cons c t ih =>
    show (Jvm.Cond.and c (allAtoms t)).before a st = _
    rw [Jvm.Cond.before_and, ih, List.all_cons]
def words1 : List Jvm.Cond := Jvm.Cond.code x code maxLocals ret :: tables_1
/-- a 'code' word, met by the world's own term for the bytes: nothing is compared byte by byte -/
theorem code_word {y : MethodName} {bytes : ByteArray} {mx : Nat} {rt : Option FieldType} {a : Array Value} {s : State} {m : MethodId} {meth : Method} {c : Code} (h1 : s.methodNamed? y = some m) (h2 : s.vm.method? m = some meth) (h3 : meth.code = some c) (h4 : c.code = bytes)
    (h5 : (c.maxLocals == mx && c.exceptionTable.isEmpty && decide (c.maxStack ≤ mostOperands) && decide (meth.sig.returnType = rt) && !meth.locks && decide (parseMethodDescriptor y.desc = some meth.sig)) = true) : (Jvm.Cond.code y bytes mx rt).before a s = true := by
  simp only [Bool.and_eq_true, beq_iff_eq, Bool.not_eq_true', decide_eq_true_eq] at h5
  obtain ⟨⟨⟨⟨⟨g1, g2⟩, g3⟩, g4⟩, g5⟩, g6⟩ := h5
  simp [Cond.before, Cond.holds, Cond.value, h1, h2, h3, h4, g1, g2, g3, g4, g5, g6]
def isCode : Jvm.Cond → Bool
  | .code _ _ _ _ => true
  | _ => false
theorem all_split {L : List Jvm.Cond} {P : Jvm.Cond → Bool} (h1 : L.all (fun c => isCode c || P c) = true) (h2 : ∀ c ∈ L.filter isCode, P c = true) : L.all P = true := by
  refine List.all_eq_true.mpr fun c hc => ?_
  have h := List.all_eq_true.mp h1 c hc
  rcases Bool.eq_false_or_eq_true (isCode c) with hi | hi
  · exact h2 c (List.mem_filter.mpr ⟨hc, hi⟩)
  · simpa [hi] using h
set_option maxRecDepth 65536 in
theorem w_c0 : (Jvm.Cond.code x code maxLocals ret).before args0 about1 = true := code_word (m := ⟨1, 1⟩) (meth := k1m1) (c := k1c1) (by decide +kernel) rfl rfl rfl (by decide +kernel)
set_option maxRecDepth 65536 in
theorem w_c1 : (Jvm.Cond.code ({ cls := "com/example/shardpick/shardpick/generate/WeightedDraw", name := "<init>", desc := "([D)V" } : Jvm.MethodName) prog_22_method_1_code (5 : Nat) (Option.none : Option Jvm.ClassFile.FieldType)).before args0 about1 = true := code_word (m := ⟨2, 0⟩) (meth := k2m0) (c := k2c0) (by decide +kernel) rfl rfl rfl (by decide +kernel)
set_option maxRecDepth 65536 in
theorem w_c2 : (Jvm.Cond.code ({ cls := "java/lang/Object", name := "<init>", desc := "()V" } : Jvm.MethodName) object_method_1_code (1 : Nat) (Option.none : Option Jvm.ClassFile.FieldType)).before args0 about1 = true := code_word (m := ⟨0, 0⟩) (meth := k0m0) (c := k0c0) (by decide +kernel) rfl rfl rfl (by decide +kernel)
set_option maxRecDepth 65536 in
theorem w_c3 : (Jvm.Cond.code ({ cls := "com/example/shardpick/shardpick/generate/WeightedDraw", name := "total", desc := "()D" } : Jvm.MethodName) prog_22_method_2_code (1 : Nat) (Option.some Jvm.ClassFile.FieldType.double)).before args0 about1 = true := code_word (m := ⟨2, 1⟩) (meth := k2m1) (c := k2c1) (by decide +kernel) rfl rfl rfl (by decide +kernel)
def codes1 : List Jvm.Cond := [Jvm.Cond.code x code maxLocals ret, Jvm.Cond.code ({ cls := "com/example/shardpick/shardpick/generate/WeightedDraw", name := "<init>", desc := "([D)V" } : Jvm.MethodName) prog_22_method_1_code (5 : Nat) (Option.none : Option Jvm.ClassFile.FieldType), Jvm.Cond.code ({ cls := "java/lang/Object", name := "<init>", desc := "()V" } : Jvm.MethodName) object_method_1_code (1 : Nat) (Option.none : Option Jvm.ClassFile.FieldType), Jvm.Cond.code ({ cls := "com/example/shardpick/shardpick/generate/WeightedDraw", name := "total", desc := "()D" } : Jvm.MethodName) prog_22_method_2_code (1 : Nat) (Option.some Jvm.ClassFile.FieldType.double)]
set_option maxRecDepth 65536 in
theorem codes_eq : words1.filter isCode = codes1 := rfl
theorem w_codes : ∀ c ∈ words1.filter isCode, c.before args0 about1 = true := by
  rw [codes_eq]
  intro c hc
  simp only [codes1, List.mem_cons, List.not_mem_nil, or_false] at hc
  rcases hc with rfl | rfl | rfl | rfl
  · exact w_c0
  · exact w_c1
  · exact w_c2
  · exact w_c3
set_option maxRecDepth 65536 in
theorem w_t1 : words1.all (fun c => isCode c || c.before args0 about1) = true := by decide +kernel
theorem w_tables : (allAtoms (Jvm.Cond.code x code maxLocals ret :: tables_1)).before args0 about1 = true := by
  rw [allAtoms_all]
  show words1.all (fun c => c.before args0 about1) = true
  refine all_split ?_ w_codes
  rw [w_t1]
set_option maxRecDepth 65536 in
theorem w_case : (Jvm.Cond.and given_1 narrow_1).before args0 about1 = true := by decide +kernel
theorem w_applies : (headSpec (Jvm.Cond.code x code maxLocals ret :: tables_1) room_1).applies x e0.platform about1 = true :=
  (Spec.applies_iff w_frames).mpr ⟨w_running, w_runnable, w_alone, w_named, w_hears, w_ripe, w_room, w_tables⟩
theorem atStart : AtStart classFile x code maxLocals ret World_1 tables_1 room_1 Calls_1 rest_1 Pre_1 launch0 p0 e0 about1 theMethod args0 below0 :=
  ⟨lists_1, trivial, launch0.admits_env _ _ _, launch0.least_env, fairChoices_fair.cas, fairChoices_fair.clock, w_frames, w_args, w_heap, w_applies, trivial, trivial, w_case⟩
end start1
theorem witness_1 : WitnessClaimed_1 := ⟨start1.p0, start1.e0, start1.about1, start1.theMethod, start1.args0, start1.below0, start1.atStart⟩
end Jvm.Pilot.@@N@@
