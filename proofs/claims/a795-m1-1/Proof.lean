import JvmDerived
import JvmDerived.Pilot.@@N@@Statement
import JvmDerived.Pilot.@@N@@Code
set_option linter.unusedVariables false
set_option linter.unusedSimpArgs false
namespace Jvm.Pilot.@@N@@
open Jvm Jvm.ClassFile Sem Op Lib Jvm.Free Jvm.Stand Jvm.LawKit Jvm.RoadKit Bundle Jvm.Pilot.@@N@@.Jvm.D
/-! short names -/
abbrev sR (a : Addr) : Slot := .val (.ref a)
abbrev sI (x : Int32) : Slot := .val (.int x)
abbrev sL (x : Int64) : Slot := .val (.long x)
abbrev sN : Slot := .val .null
abbrev sU : Slot := .unset
abbrev sS : Slot := .second
theorem ow {Z : State} {a0 : Array Value} (hw : ∀ d ∈ tables_1, d.before a0 Z = true) (i : Nat) {d : Jvm.Cond} (h : tables_1[i]? = some d) : d.before a0 Z = true := hw d (List.mem_of_getElem? h)
set_option maxRecDepth 65536
set_option maxHeartbeats 40000000
theorem le0 {a b : Nat} (h : 2 * 0 + a = b) : 2 * 0 + a ≤ b := Nat.le_of_eq h
theorem neN {a b : Addr} (h : @Ne Nat a b) : a ≠ b := h
abbrev q0 : ByteArray := jdk_29_method_65_code
abbrev q1 : ByteArray := jdk_29_method_69_code
abbrev q2 : ByteArray := jdk_41_method_13_code
abbrev q3 : ByteArray := jdk_42_method_139_code
abbrev q4 : ByteArray := jdk_42_method_149_code
abbrev q5 : ByteArray := jdk_42_method_151_code
abbrev q6 : ByteArray := jdk_42_method_154_code
abbrev q7 : ByteArray := jdk_42_method_157_code
abbrev q8 : ByteArray := jdk_42_method_3_code
abbrev q9 : ByteArray := jdk_42_method_4_code
abbrev q10 : ByteArray := jdk_42_method_5_code
abbrev q11 : ByteArray := jdk_42_method_66_code
abbrev q12 : ByteArray := jdk_42_method_78_code
abbrev q13 : ByteArray := jdk_43_method_13_code
abbrev q14 : ByteArray := jdk_43_method_21_code
abbrev q15 : ByteArray := jdk_43_method_3_code
abbrev q16 : ByteArray := jdk_43_method_46_code
abbrev q17 : ByteArray := jdk_52_method_15_code
abbrev q18 : ByteArray := jdk_52_method_16_code
abbrev q19 : ByteArray := jdk_52_method_21_code
abbrev q20 : ByteArray := jdk_65_method_125_code
abbrev q21 : ByteArray := prog_64_method_10_code
abbrev q22 : ByteArray := prog_64_method_11_code
abbrev q23 : ByteArray := prog_64_method_12_code
abbrev q24 : ByteArray := prog_64_method_13_code
abbrev q25 : ByteArray := prog_64_method_1_code
abbrev q26 : ByteArray := prog_64_method_2_code
abbrev q27 : ByteArray := prog_64_method_3_code
abbrev q28 : ByteArray := prog_64_method_6_code
abbrev q29 : ByteArray := prog_64_method_7_code
abbrev q30 : ByteArray := prog_64_method_8_code
abbrev q31 : ByteArray := prog_64_method_9_code
abbrev cA : String := "com/example/satzung/satzung/parse/Attributes"
abbrev cB : String := "java/lang/String"
abbrev cC : String := "(Ljava/lang/String;Ljava/lang/String;)V"
abbrev cD : String := "[Ljava/lang/String;"
abbrev cE : String := "jdk/internal/util/Preconditions"
abbrev cF : String := "java/lang/StringUTF16"
abbrev cG : String := "java/lang/StringLatin1"
abbrev cH : String := "(Ljava/lang/Object;)Z"
abbrev z0 : Int32 := 0
abbrev z255 : Int32 := 255
abbrev z16 : Int32 := 16
abbrev z3 : Int32 := 3
abbrev z1 : Int32 := 1
abbrev z2 : Int32 := 2
abbrev z1024 : Int32 := 1024
abbrev z2048 : Int32 := 2048
abbrev z2047 : Int32 := 2047
/-! 0. the run from a state on, said once: it ends, and how -/
def Go (p : Program) (e : Env) (below : List Frame) (s : State) (K N : Nat) (Q : Option Value → Heap → List Loc → Prop) (st : State) : Prop :=
  ∃ s₂ o, Steps p.tables e below st s₂ ∧ s₂.status = .running ∧ Ended s₂ below o ∧ ∃ v L, o = .returned v ∧ Q v s₂.heap L ∧ FrameEnd s o s₂ L K N
/-- what is known of the walk all along -/
def Ctx (p : Program) (s : State) (m : MethodId) (meth : Method) (c : Code) (Z : State) (bytes : ByteArray) (maxl : Nat) (own : String) (ret : Option FieldType) : Prop :=
  p.tables.exec = Jvm.exec ∧ Z.Warmed39 s.vm ∧ c.code = bytes ∧ c.maxLocals = maxl ∧ s.vm.findClass own = some m.cls ∧ meth.sig.returnType = ret ∧ meth.locks = false
/-- a value comes back, the heap is as it was -/
def QV (w : Value) (h0 : Heap) (n0 : Nat) (v : Option Value) (h : Heap) (L : List Loc) : Prop := v = some w ∧ Fr n0 L ∧ h = h0
section Own
variable {p : Program} {l : Launch} {e : Env} {R : Room} {s : State} {m : MethodId} {args : Array Value} {below : List Frame} {meth : Method} {c : Code} {T : State} {locs : List Loc} {cells slots K N : Nat} {Q : Option Value → Heap → List Loc → Prop} {st st' : State}
theorem Go.pre (h : ∀ t, Steps p.tables e below st' t → Steps p.tables e below st t) (k : Go p e below s K N Q st') : Go p e below s K N Q st := by
  obtain ⟨s₂, o, h1, h2⟩ := k; exact ⟨s₂, o, h _ h1, h2⟩
theorem Go.trans (h : Steps p.tables e below st st') (k : Go p e below s K N Q st') : Go p e below s K N Q st := by
  obtain ⟨s₂, o, h1, h2⟩ := k; exact ⟨s₂, o, h.trans h1, h2⟩
theorem Go.mono {Q' : Option Value → Heap → List Loc → Prop} (k : Go p e below s K N Q st) (h : ∀ v h L, Q v h L → Q' v h L) : Go p e below s K N Q' st := by
  obtain ⟨s₂, o, h1, h2, h3, v, L, h4, h5, h6⟩ := k; exact ⟨s₂, o, h1, h2, h3, v, L, h4, h _ _ _ h5, h6⟩
theorem Go.retN (X : Stand p l e R s m args below meth c T locs cells slots) (hx : p.tables.exec = Jvm.exec) (hlk : meth.locks = false) {pc : Nat} {Ls : Array Slot} {z z' : Int32} {t : FieldType} {rest : List Value} (hret : meth.sig.returnType = some t) (ht : t = .boolean ∨ t = .byte ∨ t = .char ∨ t = .short)
    (hd : decode c.code pc = .ok (.ireturn, 1)) (hz : nar t z = z') (hk : cells ≤ K) (hn : slots ≤ N) (hQ : Q (some (.int z')) T.heap locs) : Go p e below s K N Q (T.setTop (mkF m pc Ls (.int z :: rest))) := by
  subst hz
  obtain ⟨fs, hr, hrun, hended, hW, hsame⟩ := X.leave (v := some (.int (nar t z))) (fun h => by rw [hret] at h; cases h) hlk
  exact ⟨_, _, Jvm.RoadKit.retN X hx hret ht hd hr, hrun, hended, _, _, rfl, hQ, ⟨_, rfl⟩, hW, hsame.mono hk hn⟩
theorem Go.retV (X : Stand p l e R s m args below meth c T locs cells slots) (hx : p.tables.exec = Jvm.exec) (hlk : meth.locks = false) {pc : Nat} {Ls : Array Slot} {w : Value} {t : FieldType} {i : Instr} {rest : List Value} (hret : meth.sig.returnType = some t) (hnr : narrow t w = w)
    (hi : (i = .ireturn ∧ (t = .int ∨ t = .boolean ∨ t = .byte ∨ t = .char ∨ t = .short) ∧ ∃ z, w = .int z) ∨ (i = .lreturn ∧ t = .long ∧ ∃ z, w = .long z) ∨ (i = .dreturn ∧ t = .double ∧ ∃ z, w = .double z) ∨ (i = .freturn ∧ t = .float ∧ ∃ z, w = .float z) ∨ (i = .areturn ∧ t.isReference = true ∧ w.isRef = true))
    (hd : decode c.code pc = .ok (i, 1)) (hk : cells ≤ K) (hn : slots ≤ N) (hQ : Q (some w) T.heap locs) : Go p e below s K N Q (T.setTop (mkF m pc Ls (w :: rest))) := by
  obtain ⟨fs, hr, hrun, hended, hW, hsame⟩ := X.leave (v := some w) (fun h => by rw [hret] at h; cases h) hlk
  exact ⟨_, _, retOut X hx hret hnr hi hd hr, hrun, hended, _, _, rfl, hQ, ⟨_, rfl⟩, hW, hsame.mono hk hn⟩
theorem Go.ret0 (X : Stand p l e R s m args below meth c T locs cells slots) (hx : p.tables.exec = Jvm.exec) (hlk : meth.locks = false) {pc : Nat} {Ls : Array Slot} (hret : meth.sig.returnType = none)
    (hd : decode c.code pc = .ok (.return_, 1)) (hk : cells ≤ K) (hn : slots ≤ N) (hQ : Q none T.heap locs) : Go p e below s K N Q (T.setTop (mkF m pc Ls [])) := by
  obtain ⟨fs, hr, hrun, hended, hW, hsame⟩ := X.leave (v := none) (fun _ => rfl) hlk
  exact ⟨_, _, X.returnOut hx hret hd hr, hrun, hended, _, _, rfl, hQ, ⟨_, rfl⟩, hW, hsame.mono hk hn⟩
end Own

/-! walks that may intern -/
def GoW (p : Program) (e : Env) (below : List Frame) (s : State) (K N : Nat) (Q : Option Value → Vm → Heap → List Loc → Prop) (st : State) : Prop :=
  ∃ s₂ o, Steps p.tables e below st s₂ ∧ s₂.status = .running ∧ Ended s₂ below o ∧ ∃ v L, o = .returned v ∧ Q v s₂.vm s₂.heap L ∧ ReturnedEndW s o s₂ L K N
theorem retW_mono {s t : State} {o : Outcome} {L : List Loc} {k n k' n' : Nat} (h : ReturnedEndW s o t L k n) (h1 : k ≤ k') (h2 : n ≤ n') : ReturnedEndW s o t L k' n' := ⟨h.1, h.2.1, h.2.2.1, h.2.2.2.mono h1 h2⟩
theorem leH {T : State} {h : Heap} {k : Nat} (e : T.heap = h) (q : k ≤ h.size) : k ≤ T.heap.size := e ▸ q
theorem frS {s : State} {h0 : Heap} {n0 : Nat} {L : List Loc} (e : s.heap = h0) (q : n0 = h0.size) (N : Fr n0 L) : Fr s.heap.size L := by rw [e, ← q]; exact N
section OwnW
variable {p : Program} {l : Launch} {e : Env} {R : Room} {s : State} {vm0 vm1 : Vm} {m : MethodId} {args : Array Value} {below : List Frame} {meth : Method} {c : Code} {T Z : State} {locs : List Loc} {cells slots K N k0 : Nat} {Q : Option Value → Vm → Heap → List Loc → Prop} {st st' : State} {Ts : List String} {h : Heap} {a0 : Array Value}
theorem GoW.pre (h : ∀ t, Steps p.tables e below st' t → Steps p.tables e below st t) (k : GoW p e below s K N Q st') : GoW p e below s K N Q st := by
  obtain ⟨s₂, o, h1, h2⟩ := k; exact ⟨s₂, o, h _ h1, h2⟩
theorem GoW.trans (h : Steps p.tables e below st st') (k : GoW p e below s K N Q st') : GoW p e below s K N Q st := by
  obtain ⟨s₂, o, h1, h2⟩ := k; exact ⟨s₂, o, h.trans h1, h2⟩
theorem GoW.retN (X : Stand p l e R (s.setVm vm0) m args below meth c T locs cells slots) (hS : s.Since vm0 k0) (hk0 : k0 ≤ T.heap.size) (hx : p.tables.exec = Jvm.exec) (hlk : meth.locks = false) {pc : Nat} {Ls : Array Slot} {z z' : Int32} {t : FieldType} {rest : List Value} (hret : meth.sig.returnType = some t) (ht : t = .boolean ∨ t = .byte ∨ t = .char ∨ t = .short)
    (hd : decode c.code pc = .ok (.ireturn, 1)) (hz : nar t z = z') (hk : cells ≤ K) (hn : slots ≤ N) (hQ : Q (some (.int z')) T.vm T.heap locs) : GoW p e below s K N Q (T.setTop (mkF m pc Ls (.int z :: rest))) := by
  subst hz
  obtain ⟨fs, hr, hrun, hended, hE⟩ := X.leaveW hS hk0 (v := some (.int (nar t z))) (fun h => by rw [hret] at h; cases h) hlk
  exact ⟨_, _, Jvm.RoadKit.retN X hx hret ht hd hr, hrun, hended, _, _, rfl, hQ, retW_mono hE hk hn⟩
theorem GoW.retV (X : Stand p l e R (s.setVm vm0) m args below meth c T locs cells slots) (hS : s.Since vm0 k0) (hk0 : k0 ≤ T.heap.size) (hx : p.tables.exec = Jvm.exec) (hlk : meth.locks = false) {pc : Nat} {Ls : Array Slot} {w : Value} {t : FieldType} {i : Instr} {rest : List Value} (hret : meth.sig.returnType = some t) (hnr : narrow t w = w)
    (hi : (i = .ireturn ∧ (t = .int ∨ t = .boolean ∨ t = .byte ∨ t = .char ∨ t = .short) ∧ ∃ z, w = .int z) ∨ (i = .lreturn ∧ t = .long ∧ ∃ z, w = .long z) ∨ (i = .dreturn ∧ t = .double ∧ ∃ z, w = .double z) ∨ (i = .freturn ∧ t = .float ∧ ∃ z, w = .float z) ∨ (i = .areturn ∧ t.isReference = true ∧ w.isRef = true))
    (hd : decode c.code pc = .ok (i, 1)) (hk : cells ≤ K) (hn : slots ≤ N) (hQ : Q (some w) T.vm T.heap locs) : GoW p e below s K N Q (T.setTop (mkF m pc Ls (w :: rest))) := by
  obtain ⟨fs, hr, hrun, hended, hE⟩ := X.leaveW hS hk0 (v := some w) (fun h => by rw [hret] at h; cases h) hlk
  exact ⟨_, _, retOut X hx hret hnr hi hd hr, hrun, hended, _, _, rfl, hQ, retW_mono hE hk hn⟩
theorem GoW.ret0 (X : Stand p l e R (s.setVm vm0) m args below meth c T locs cells slots) (hS : s.Since vm0 k0) (hk0 : k0 ≤ T.heap.size) (hx : p.tables.exec = Jvm.exec) (hlk : meth.locks = false) {pc : Nat} {Ls : Array Slot} (hret : meth.sig.returnType = none)
    (hd : decode c.code pc = .ok (.return_, 1)) (hk : cells ≤ K) (hn : slots ≤ N) (hQ : Q none T.vm T.heap locs) : GoW p e below s K N Q (T.setTop (mkF m pc Ls [])) := by
  obtain ⟨fs, hr, hrun, hended, hE⟩ := X.leaveW hS hk0 (v := none) (fun _ => rfl) hlk
  exact ⟨_, _, X.returnOut hx hret hd hr, hrun, hended, _, _, rfl, hQ, retW_mono hE hk hn⟩
theorem IB.at (X : Stand p l e R (s.setVm vm0) m args below meth c T locs cells slots) (I : IB Z vm0 Ts) : IB Z T.vm Ts := by
  obtain ⟨more, e1, h1⟩ := I; exact ⟨more, X.warmed.interned_eq.trans e1, h1⟩
theorem IB.mv (I : IB Z vm0 Ts) (hvm : (s.setVm vm0).WarmedH vm1) : IB Z vm1 Ts := by
  obtain ⟨more, e1, h1⟩ := I; exact ⟨more, hvm.interned_eq.trans e1, h1⟩
theorem IB.sup {Ts' : List String} (I : IB Z vm0 Ts) (h : ∀ t ∈ Ts, t ∈ Ts') : IB Z vm0 Ts' := by
  obtain ⟨more, e1, h1⟩ := I; exact ⟨more, e1, fun q hq => by obtain ⟨t, ht, hd⟩ := h1 q hq; exact ⟨t, h t ht, hd⟩⟩
theorem backOfSI {y : MethodName} {bytes : ByteArray} {maxL : Nat} {ret : Option FieldType} {rm : Room} {len W : Nat} {as' : Array Value}
    (hM : MetFree l y (head1 [Cond.code y bytes maxL ret] rm) (fun a U => a = as' ∧ Z.Warmed39 U.vm ∧ U.heap = h ∧ IB Z U.vm Ts) (fun _ _ _ _ _ => True) (fun _ U o U' => ∃ v L, o = .returned v ∧ Q v U'.vm U'.heap L ∧ ReturnedEndW U o U' L rm.cells rm.slots))
    (hZ : Z.Warmed39 s.vm) (wc : (Cond.code y bytes maxL ret).before a0 Z = true) (wz : (Cond.initialized y.cls).before a0 Z = true) (hf : rm.frames + 1 ≤ R.frames) (hl : W + (maxL + 11) + rm.locals ≤ R.locals) :
    BackS l R p e below s args y len W (fun A a => a = as' ∧ A.U.heap = h ∧ A.cells + rm.cells ≤ R.cells ∧ A.slots + rm.slots ≤ R.slots ∧ IB Z A.U.vm Ts)
      (fun A _ v B => ∃ L, Q v B.U.vm B.U.heap L ∧ B.locs = A.locs ++ L ∧ B.cells = A.cells + rm.cells ∧ B.slots = A.slots + rm.slots) := by
  refine BackS.of_freeW (bytes := bytes) (maxL := maxL) (ret := ret) (E := fun _ _ o t L k n => k = rm.cells ∧ n = rm.slots ∧ ∃ v, o = .returned v ∧ Q v t.vm t.heap L) hM hf hl ?_ ?_ (fun _ _ _ _ _ _ _ _ _ => trivial) ?_ ?_
  · intro m meth c A a Y hp
    have hU : Z.Warmed39 A.U.vm := wtrans hZ Y.warmed
    refine ⟨?_, mv hU wc, mv hU wz, hp.2.2.1, hp.2.2.2.1⟩
    show (Cond.and _ .tt).before a A.U = true
    rw [Cond.before_and, mv hU wc]; rfl
  · intro m meth c A a g mk Y hp
    exact ⟨hp.1, wtrans hZ Y.warmed, hp.2.1, hp.2.2.2.2⟩
  · rintro _ _ _ _ ⟨v, L, h1, h2, h3⟩
    exact ⟨L, _, _, h3, rfl, rfl, v, h1, h2⟩
  · rintro m meth c A a g mk v t L k n Y hp _ _ ⟨e1, e2, v', e3, e4⟩
    cases e3; subst e1 e2
    exact ⟨L, e4, rfl, rfl, rfl⟩
end OwnW

/-! more of the kit's kind -/
/-- every field keeps what it held, but for the places in ps -/
def KF (Z : State) (h0 h : Heap) (ps : List (Addr × Nat)) : Prop := ∀ (b : Addr) (O n d : String) (w : Value), Fld Z h0 b O n d w → (∀ p ∈ ps, b ≠ p.1 ∨ Jvm.RoadKit.slotOf Z O n d ≠ p.2) → Fld Z h b O n d w
theorem KF.refl (Z : State) (h0 : Heap) (ps : List (Addr × Nat)) : KF Z h0 h0 ps := fun _ _ _ _ _ F _ => F
theorem KF.ext {Z : State} {h0 h h' : Heap} {ps : List (Addr × Nat)} (K : KF Z h0 h ps) (E : Ext h h') : KF Z h0 h' ps := fun b O n d w F q => (K b O n d w F q).ext E
theorem KF.wr {Z : State} {h0 h h' : Heap} {ps : List (Addr × Nat)} {a : Addr} {sl : Nat} {v : Value} (K : KF Z h0 h ps) (W : Wr h h' a sl v) (q : (a, sl) ∈ ps ∨ h0.size ≤ a) : KF Z h0 h' ps := fun b O n d w F r => by
  refine (K b O n d w F r).other W ?_
  rcases q with q | q
  · exact r _ q
  · exact Or.inl (Nat.ne_of_lt (Nat.lt_of_lt_of_le F.lt q))
theorem KF.trans {Z : State} {h0 h h' : Heap} {ps ps' : List (Addr × Nat)} (K : KF Z h0 h ps) (K' : KF Z h h' ps') (q : ∀ p ∈ ps', p ∈ ps ∨ h0.size ≤ p.1) : KF Z h0 h' ps := fun b O n d w F r => by
  refine K' b O n d w (K b O n d w F r) fun p hp => ?_
  rcases q p hp with q | q
  · exact r _ q
  · exact Or.inl (Nat.ne_of_lt (Nat.lt_of_lt_of_le F.lt q))
theorem pall0 {P : Addr × Nat → Prop} : ∀ x ∈ ([] : List (Addr × Nat)), P x := fun _ q => nomatch q
theorem pallS {P : Addr × Nat → Prop} {y : Addr × Nat} {L : List (Addr × Nat)} (q : P y) (r : ∀ x ∈ L, P x) : ∀ x ∈ y :: L, P x := fun x z => (List.mem_cons.mp z).elim (fun u => u ▸ q) (r x)
theorem padS {p : Program} {l : Launch} {e : Env} {R : Room} {s : State} {m : MethodId} {args : Array Value} {below : List Frame} {meth : Method} {c : Code} {T : State} {locs : List Loc} {k n k' n' : Nat} (X : Stand p l e R s m args below meth c T locs k n) (h1 : k ≤ k') (h2 : n ≤ n') : Stand p l e R s m args below meth c T locs k' n' :=
  ⟨X.admits, X.cas, X.clock, X.frames, X.room, X.hears, X.method, X.code, X.here, X.tail, X.warmed, X.limits, X.bytes, X.same.mono h1 h2⟩
theorem and11 (x : Int32) : nar .boolean (x &&& 1) = x &&& 1 := by
  show x &&& 1 &&& 1 = x &&& 1
  rw [Int32.and_assoc]; rfl
theorem fits_and1 (x : Int32) : fits .boolean (.int (x &&& 1)) = true := fits_nar_bool x
theorem narV {C : String} {v : Value} (h : v.isRef = true) : narrow (.object C) v = v := by rcases ref_cases h with rfl | ⟨a, rfl⟩ <;> rfl
theorem fitV {C : String} {v : Value} (h : v.isRef = true) : fits (.object C) v = true := by rcases ref_cases h with rfl | ⟨a, rfl⟩ <;> rfl

/-! arrays whose places are known by a function -/
def Arf (Z : State) (h : Heap) (a : Addr) (k : ClassId) (ty : FieldType) (n : Int32) (f : Int32 → Value) : Prop := ∃ c : Cell, Arr Z h a c ty ∧ c.cls = k ∧ c.slots.size = n.toNatClampNeg ∧ ¬ n < 0 ∧ ∀ j : Int32, ¬ (j < 0 ∨ c.slots.size ≤ j.toNatClampNeg) → c.slots[j.toNatClampNeg]? = some (f j) ∧ fits ty (f j) = true
def own_upd {α : Type} (f : Int32 → α) (j : Int32) (v : α) (x : Int32) : α := if x = j then v else f x
def LF (f : Int32 → Int64) (x : Int32) : Value := .long (f x)
def Stb (Z : State) (h : Heap) (v : Value) : Prop := v = .null ∨ ∃ y, v = .ref y ∧ Exa Z h y "java/lang/String"
section Arf
variable {Z : State} {h h' : Heap} {a b : Addr} {k : ClassId} {ty : FieldType} {n j : Int32} {f : Int32 → Value} {v w : Value} {sl : Nat} {ws : List Addr}
theorem Arf.lt (F : Arf Z h a k ty n f) : a < h.size := by obtain ⟨c, A, -⟩ := F; exact A.lt
theorem Arf.ext (F : Arf Z h a k ty n f) (E : Ext h h') : Arf Z h' a k ty n f := by obtain ⟨c, A, r⟩ := F; exact ⟨c, A.ext E, r⟩
theorem Arf.other (F : Arf Z h b k ty n f) (W : Wr h h' a sl v) (q : b ≠ a) : Arf Z h' b k ty n f := by obtain ⟨c, A, r⟩ := F; exact ⟨c, A.other W q, r⟩
theorem Arf.keep (F : Arf Z h a k ty n f) (K : Keep h h' ws) (q : a ∉ ws) : Arf Z h' a k ty n f := by obtain ⟨c, A, r⟩ := F; exact ⟨c, ⟨K.2.1 a c A.1 q, A.2⟩, r⟩
theorem Arf.of_arv {d : Value} (F : Arv Z h a k ty n [] d) : Arf Z h a k ty n (fun _ => d) := by
  obtain ⟨c, A, q1, q2, q3, H, G⟩ := F
  refine ⟨c, A, q1, q2, q3, fun j hj => ?_⟩
  have hl : j.toNatClampNeg < c.slots.size := Nat.lt_of_not_le fun q => hj (Or.inr q)
  exact ⟨H _ hl, G _ hl⟩
theorem Arf.set {c : Cell} (A : Arr Z h a c ty) (q1 : c.cls = k) (S : c.slots.size = n.toNatClampNeg) (q3 : ¬ n < 0) (H : ∀ j : Int32, ¬ (j < 0 ∨ c.slots.size ≤ j.toNatClampNeg) → c.slots[j.toNatClampNeg]? = some (f j) ∧ fits ty (f j) = true)
    (hv : fits ty v = true) (hj : ¬ (j < 0 ∨ c.slots.size ≤ j.toNatClampNeg)) (W : Wr h h' a j.toNatClampNeg v) : Arf Z h' a k ty n (own_upd f j v) := by
  refine ⟨_, A.same W, q1, by rw [sz_set]; exact S, q3, fun x hx => ?_⟩
  rw [sz_set] at hx
  unfold own_upd
  by_cases e : x = j
  · rw [if_pos e]; exact ⟨get_hit hj e, hv⟩
  · rw [if_neg e, get_miss (fun q => hj (Or.inl q)) (fun q => hx (Or.inl q)) e]; exact H x hx
theorem Arf.eq {g : Int32 → Value} (F : Arf Z h a k ty n f) (e : f = g) : Arf Z h a k ty n g := e ▸ F
theorem LF_upd (f : Int32 → Int64) (j : Int32) (x : Int64) : own_upd (LF f) j (.long x) = LF (own_upd f j x) := by
  funext y
  show (if y = j then Value.long x else Value.long (f y)) = Value.long (if y = j then x else f y)
  split <;> rfl
theorem LF_const (x : Int64) : (fun _ : Int32 => Value.long x) = LF (fun _ => x) := rfl
theorem Stb.ext (F : Stb Z h v) (E : Ext h h') : Stb Z h' v := F.elim Or.inl fun ⟨y, q, e⟩ => Or.inr ⟨y, q, e.ext E⟩
theorem Stb.wr (F : Stb Z h v) (W : Wr h h' a sl w) : Stb Z h' v := F.elim Or.inl fun ⟨y, q, e⟩ => Or.inr ⟨y, q, e.wr W⟩
theorem Stb.keep (F : Stb Z h v) (K : Keep h h' ws) : Stb Z h' v := F.elim Or.inl fun ⟨y, q, e⟩ => Or.inr ⟨y, q, e.keep K⟩
theorem Stb.ref (F : Stb Z h v) : v.isRef = true := by rcases F with rfl | ⟨y, rfl, -⟩ <;> rfl
theorem Stb.sto {c : Cell} (F : Stb Z h v) (A : Arr Z h a c ty) (q : c.cls = k) (O : Ovr Z k "java/lang/String") : Sto Z h a v := by
  rcases F with rfl | ⟨y, rfl, e⟩
  · exact Or.inl rfl
  · exact Sto.ofV A q O (Ins.self e)
theorem storeV {l l' : Array Slot} {i : Nat} {o : Slot} {v : Value} (hv : v.isRef = true) (h1 : l[i]? = some o) (h2 : l.setIfInBounds i (.val v) = l') (ho : o = .unset ∨ ∃ w, o = .val w ∧ w.category = 1) : storeLocals l i v = some l' := by
  subst h2
  exact XS.store1 h1 ho (by rcases ref_cases hv with rfl | ⟨a, rfl⟩ <;> rfl)
theorem own_hit {α : Type} (f : Int32 → α) (j : Int32) (v : α) : own_upd f j v j = v := if_pos rfl
theorem own_at {α : Type} {f : Int32 → α} {j x : Int32} {v : α} (e : x = j) : own_upd f j v x = v := if_pos e
theorem own_miss {α : Type} {f : Int32 → α} {j x : Int32} {v w : α} (e : ¬ x = j) (h : f x = w) : own_upd f j v x = w := (if_neg e).trans h
theorem own_or {α : Type} {f : Int32 → α} {j x : Int32} {v : α} (h : f x = v) : own_upd f j v x = v := by
  unfold own_upd; split
  · rfl
  · exact h
end Arf

/-! arrays known by a function, copied -/
def own_lf (vs : List Value) (d : Value) (j : Int32) : Value := vs.getD j.toNatClampNeg d
def own_ls (f : Int32 → Value) (z : Int32) : List Value := (List.range z.toNatClampNeg).map fun i => f (Int32.ofNat i)
def own_cp (f g : Int32 → Value) (nn : Int32) (j : Int32) : Value := if j.toNatClampNeg < nn.toNatClampNeg then f j else g j
theorem own_ofNat {j : Int32} (h : ¬ j < 0) : Int32.ofNat j.toNatClampNeg = j := by
  have q : (0 : Int32) ≤ j := Int32.not_lt.mp h
  have e0 : (0 : Int32).toInt = 0 := by decide
  rw [Int32.le_iff_toInt_le, e0] at q
  have hl := Int32.toInt_lt j
  apply Int32.toInt_inj.mp
  rw [Int32.toInt_ofNat_small (by simp only [Int32.toNatClampNeg]; omega)]
  simp only [Int32.toNatClampNeg]; omega
theorem own_clamp {i : Nat} (hi : i < 2147483648) : ¬ (Int32.ofNat i) < 0 ∧ (Int32.ofNat i).toNatClampNeg = i := by
  have e0 : (0 : Int32).toInt = 0 := by decide
  have q : (Int32.ofNat i).toInt = i := Int32.toInt_ofNat_small (by omega)
  refine ⟨?_, ?_⟩
  · rw [Int32.lt_iff_toInt_lt, e0, q]; omega
  · simp only [Int32.toNatClampNeg, q]; omega
theorem own_clt (z : Int32) : z.toNatClampNeg < 2147483648 := by
  have hl := Int32.toInt_lt z
  simp only [Int32.toNatClampNeg]; omega
section ArfCp
variable {Z : State} {h h' : Heap} {a b : Addr} {k k' : ClassId} {ty : FieldType} {z z' nn : Int32} {f g' : Int32 → Value} {d : Value} {vs : List Value}
theorem Arf.ofA' (F : Arv Z h a k ty z vs d) (e : ∀ j : Int32, ¬ j < 0 → j.toNatClampNeg < z.toNatClampNeg → vs.getD j.toNatClampNeg d = f j) : Arf Z h a k ty z f := by
  obtain ⟨c, A, q1, q2, q3, H, G⟩ := F
  refine ⟨c, A, q1, q2, q3, fun j hj => ?_⟩
  have hl : j.toNatClampNeg < c.slots.size := Nat.lt_of_not_le fun q => hj (Or.inr q)
  have e1 := e j (fun q => hj (Or.inl q)) (q2 ▸ hl)
  rw [← e1]; exact ⟨H _ hl, G _ hl⟩
theorem Arf.ofA (F : Arv Z h a k ty z vs d) : Arf Z h a k ty z (own_lf vs d) := Arf.ofA' F fun _ _ _ => rfl
theorem own_ls_get {i : Nat} (hi : i < z.toNatClampNeg) : (own_ls f z).getD i d = f (Int32.ofNat i) := by
  unfold own_ls
  rw [List.getD_eq_getElem?_getD, List.getElem?_map, List.getElem?_range hi]; rfl
theorem Arf.toA (d : Value) (F : Arf Z h a k ty z f) : Arv Z h a k ty z (own_ls f z) d := by
  obtain ⟨c, A, q1, q2, q3, H⟩ := F
  have key : ∀ i, i < c.slots.size → c.slots[i]? = some (f (Int32.ofNat i)) ∧ fits ty (f (Int32.ofNat i)) = true := fun i hi => by
    have hz := own_clt z
    obtain ⟨n1, n2⟩ := own_clamp (i := i) (by omega)
    have := H (Int32.ofNat i) (fun q => q.elim n1 fun q => by rw [n2] at q; omega)
    rw [n2] at this; exact this
  refine ⟨c, A, q1, q2, q3, fun i hi => ?_, fun i hi => ?_⟩
  · rw [own_ls_get (by omega)]; exact (key i hi).1
  · rw [own_ls_get (by omega)]; exact (key i hi).2
variable {p : Program} {l : Launch} {e : Env} {R : Room} {s : State} {m : MethodId} {args : Array Value} {below : List Frame} {meth : Method} {c : Code} {T : State} {locs : List Loc} {cells slots : Nat}
theorem cpF (X : Stand p l e R s m args below meth c T locs cells slots) (hx : p.tables.exec = Jvm.exec) (hZ : Z.Warmed39 s.vm) {a0 : Array Value} {own : String} {index : Nat} (hown : s.vm.findClass own = some m.cls)
    (w1 : (Cond.methodLink own index Jvm.Stand.acN).before a0 Z = true) (w2 : (Cond.native Jvm.Stand.acN).before a0 Z = true) (w3 : (Cond.static Jvm.Stand.acN).before a0 Z = true) (w4 : (Cond.initialized "java/lang/System").before a0 Z = true) (eT : T.heap = h)
    (A : Arf Z h a k ty z f) (B : Arf Z h b k' ty z' g') (hty : refKind ty = false) (h3 : ¬ nn < 0) (h4 : nn.toNatClampNeg ≤ z.toNatClampNeg) (h5 : nn.toNatClampNeg ≤ z'.toNatClampNeg) {n0 : Nat} (N : Fr n0 locs) (ge : n0 ≤ b)
    {g : JFrame} (hg : g.method = m) (hsize : g.locals.size = c.maxLocals) {rest : List Value} (hs : g.stack = .int nn :: .int (0 : Int32) :: .ref b :: .int (0 : Int32) :: .ref a :: rest) (hd : decode c.code g.pc = .ok (.invokestatic index, 3))
    (hf : 1 ≤ R.frames) {W : Nat} (hW : 2 * g.monitorRoom + (rest.map fun v => v.category).sum ≤ W) (hlo : W + (nativeFrameWords "java/lang/System" "arraycopy" 5 + 11) ≤ R.locals) :
    ∃ T' h' L, Stand p l e R s m args below meth c T' L cells slots ∧ T'.heap = h' ∧ Fr n0 L ∧ Keep h h' [b] ∧ Arf Z h' b k' ty z' (own_cp f g' nn) ∧
      ∀ target, Steps p.tables e below (T'.setTop { g with pc := g.pc + 3, stack := rest }) target → Steps p.tables e below (T.setTop g) target := by
  have e0 : (0 : Int32).toNatClampNeg = 0 := by decide
  have ll : ∀ (f : Int32 → Value) (z : Int32), (own_ls f z).length = z.toNatClampNeg := fun f z => by simp [own_ls]
  obtain ⟨T', h', L, q1, q2, q3, q4, q5, q6⟩ := cpA X hx hZ hown w1 w2 w3 w4 eT (A.toA .null) (B.toA .null) (us := (List.range nn.toNatClampNeg).map fun i => (own_ls f z).getD ((0 : Int32).toNatClampNeg + i) .null) (Or.inl ⟨rfl, hty⟩) (by decide) (by decide) h3 (by rw [e0]; omega) (by rw [e0]; omega) rfl (by rw [e0, ll]; omega) N ge hg hsize hs hd hf hW hlo
  refine ⟨T', h', L, q1, q2, q3, q4, Arf.ofA' q5 fun j hj hl => ?_, q6⟩
  simp only [e0, List.take_zero, List.nil_append, Nat.zero_add]
  unfold own_cp
  rw [List.getD_eq_getElem?_getD, List.getElem?_append]
  simp only [List.length_map, List.length_range]
  by_cases q : j.toNatClampNeg < nn.toNatClampNeg
  · rw [if_pos q, if_pos q, List.getElem?_map, List.getElem?_range q]
    simp only [Option.map_some, Option.getD_some]
    rw [own_ls_get (by omega), own_ofNat hj]
  · rw [if_neg q, if_neg q, List.getElem?_drop, ← List.getD_eq_getElem?_getD, show nn.toNatClampNeg + (j.toNatClampNeg - nn.toNatClampNeg) = j.toNatClampNeg from by omega, own_ls_get hl, own_ofNat hj]
end ArfCp

/-! the empty text out of two pools -/
/-- the empty text is interned as la -/
def FI (vm : Vm) (la : Addr) : Prop := vm.interned.find? (fun p => p.1 == (#[] : Array UInt16)) = some (#[], la)
def JI (Z : State) (vm : Vm) (Ts : List String) (la : Addr) : Prop := IB Z vm Ts ∨ FI vm la
def Empt (Z : State) (h : Heap) (a b : Addr) (k : ClassId) : Prop := Exa Z h a "java/lang/String" ∧ Fld Z h a "java/lang/String" "coder" "B" (.int 0) ∧ Fld Z h a "java/lang/String" "value" "[B" (.ref b) ∧ Arv Z h b k .byte (0 : Int32) [] (.int 0)
section Lit2
variable {p : Program} {l : Launch} {e : Env} {R : Room} {s : State} {m : MethodId} {args : Array Value} {below : List Frame} {meth : Method} {c : Code} {T : State} {locs : List Loc} {cells slots : Nat} {Z : State} {a0 : Array Value} {h h' : Heap} {vm0 vm1 : Vm} {Ts : List String} {own : String} {index : Nat} {a b la : Addr} {k : ClassId}
theorem Empt.ext (F : Empt Z h a b k) (E : Ext h h') : Empt Z h' a b k := ⟨F.1.ext E, F.2.1.ext E, F.2.2.1.ext E, F.2.2.2.ext E⟩
theorem JI.mv (I : JI Z vm0 Ts la) (hvm : (s.setVm vm0).WarmedH vm1) : JI Z vm1 Ts la := I.elim (fun i => Or.inl (IB.mv i hvm)) fun i => Or.inr (by unfold FI; rw [hvm.interned_eq]; exact i)
theorem JI.at (X : Stand p l e R (s.setVm vm0) m args below meth c T locs cells slots) (I : JI Z vm0 Ts la) : JI Z T.vm Ts la := I.elim (fun i => Or.inl (IB.at X i)) fun i => Or.inr (by unfold FI; rw [X.warmed.interned_eq]; exact i)
theorem own_u0 {units : Array UInt16} (h : utf16ToString? units = some "") : units = #[] := by
  have q := Jvm.ClassFile.units_of_text h (by simp)
  simpa using q
theorem FI.tie {cc : ClassId} {k k2 : Class} (hZ : Z.Warmed39 vm0) (hc : Z.vm.findClass own = some cc) (w : (Cond.stringLink own index "").before a0 Z = true) (hk : Z.vm.classes[cc]? = some k) (hno : k.resolved[index]? = some none)
    (hk2 : vm0.classes[cc]? = some k2) (hr : k2.resolved[index]? = some (some (.string a))) : FI vm0 a := by
  obtain ⟨k', cf, i, units, hk', hcf, hp, hu, hnm, htext, -⟩ := Cond.stringLink_spec hc w
  cases hk.symm.trans hk'
  have hu0 := own_u0 htext
  subst hu0
  obtain ⟨k'', hk'', hke, -, ee, -⟩ := hZ.2.2.2 cc k hk
  cases hk2.symm.trans hk''
  rcases ee index with e0 | ⟨hop, r, e1, hr' | ⟨a3, t, si, us, rfl, -, q3, q4, q5⟩⟩
  · rw [e0, hno] at hr; simp at hr
  · exfalso
    cases r <;> simp [State.rightAt, hk, hcf, hnm] at hr'
  · rw [hcf] at q3 q4
    have e3 : si = i := by
      have := q3.symm.trans hp
      simpa using this
    subst e3
    have e4 : us = #[] := by simpa [ConstantPool.utf8?, hu] using q4.symm
    subst e4
    have ea : a3 = a := by have := e1.symm.trans hr; simpa using this
    subst ea
    exact q5
theorem own_slf (S : SlOf Z a #[]) : ∃ b k, Empt Z Z.heap a b k ∧ a < Z.heap.size ∧ b < Z.heap.size := by
  obtain ⟨q, cS, rfl, ⟨⟨s1, s2, s3, ⟨cv, kv, iv, s4, s4'⟩, ⟨cc, kc, ic, s5, s5'⟩, s6, s7, s8, s9, s10, s11, s12, s13, s14, s15, s16⟩, hfS, hcS⟩, ⟨kS, k1, k2, k3⟩, hB, hbyt⟩ := S
  have hz : q.SA.slots.size = 0 := by rw [hbyt, SBG.stringBytes_lat (by simp)]; simp
  refine ⟨q.sd, q.SA.cls, ⟨⟨q.sC, kS, s1, by rw [hcS]; exact hfS, by rw [hcS]; exact k1, s3, fun _ => k3⟩, ⟨q.sC, cc, kc, ic, q.fSC, s1, s5, s7, s2, s3, s5', s9⟩, ⟨q.sC, cv, kv, iv, q.fSV, s1, s4, s6, s2, s3, s4', s8⟩,
    ⟨q.SA, ⟨s10, s11, s12⟩, rfl, by rw [hz]; decide, by decide, fun i hi => by omega, fun i hi => by omega⟩⟩, (Array.getElem?_eq_some_iff.mp s1).1, (Array.getElem?_eq_some_iff.mp s10).1⟩
/-- the entry, as the start has it: loaded, and then she is empty; or open -/
theorem own_entry (hh : Jvm.Lit.constHeld Z own index) (hcw : Jvm.Lit.compactW.before a0 Z = true) (wS : ∀ a ∈ Bundle.stringAtoms, a.before a0 Z = true) (w : (Cond.stringLink own index "").before a0 Z = true) {cc : ClassId} (hc : Z.vm.findClass own = some cc) :
    ∃ k, Z.vm.classes[cc]? = some k ∧ (k.resolved[index]? = some none ∨ ∃ aZ b kb, k.resolved[index]? = some (some (.string aZ)) ∧ Empt Z Z.heap aZ b kb ∧ aZ < Z.heap.size ∧ b < Z.heap.size) := by
  have wi : (Cond.instantiable "java/lang/String" 4).before a0 Z = true := wS _ (by simp [Bundle.stringAtoms, Bundle.sN])
  have wa : (Cond.arrayClass .byte).before a0 Z = true := wS _ (by simp [Bundle.stringAtoms])
  obtain ⟨k, cf, i, units, hk, hcf, hp, hu, hnm, htext, hres⟩ := Cond.stringLink_spec hc w
  have hu0 := own_u0 htext
  subst hu0
  refine ⟨k, hk, hres.imp id fun ⟨aZ, h0⟩ => ?_⟩
  obtain ⟨b, kb, q, q1, q2⟩ := own_slf (heldStart hh w (by simp) hcw wa wi cc k cf i #[] aZ hc hk hcf hp hu (Or.inl h0))
  exact ⟨aZ, b, kb, h0, q, q1, q2⟩
theorem own_same {cc : ClassId} {k k2 : Class} {aZ : Addr} (hZ : Z.Warmed39 vm0) (hk : Z.vm.classes[cc]? = some k) (h0 : k.resolved[index]? = some (some (.string aZ))) (hk2 : vm0.classes[cc]? = some k2) : k2.resolved[index]? = some (some (.string aZ)) := by
  obtain ⟨k'', hk'', hke, -, ee, -⟩ := hZ.2.2.2 cc k hk
  cases hk2.symm.trans hk''
  rcases ee index with e0 | ⟨hop, -⟩
  · rw [e0]; exact h0
  · rw [hop] at h0; simp at h0
theorem own_atoms (hZ : Z.Warmed39 vm0) (wS : ∀ a ∈ Bundle.stringAtoms, a.before a0 Z = true) : ∀ a ∈ Bundle.stringAtoms, a.before args (s.setVm vm0) = true := fun d hd => by
  have q := wS d hd
  simp only [Bundle.stringAtoms, List.mem_cons, List.not_mem_nil, or_false] at hd
  rcases hd with rfl | rfl | rfl | rfl | rfl | rfl | rfl
  · exact mv (s := s.setVm vm0) hZ q
  · exact mv (s := s.setVm vm0) hZ q
  · exact mvA (s := s.setVm vm0) hZ q
  · exact mv (s := s.setVm vm0) hZ q
  · exact mv (s := s.setVm vm0) hZ q
  · exact mv (s := s.setVm vm0) hZ q
  · exact mv (s := s.setVm vm0) hZ q
/-- ldc of the empty text, where she is known to be interned as la -/
theorem ldcF2 (X : Stand p l e R (s.setVm vm0) m args below meth c T locs cells slots) (hx : p.tables.exec = Jvm.exec) (hZ : Z.Warmed39 vm0) (hown : vm0.findClass own = some m.cls) (w : (Cond.stringLink own index "").before a0 Z = true) (wS : ∀ a ∈ Bundle.stringAtoms, a.before a0 Z = true)
    (eT : T.heap = h) {k0 : Nat} (hS : s.Since vm0 k0) (hk : k0 ≤ h.size) (O : Ext Z.heap h) (hF : FI vm0 la) (F : Empt Z h la b k) (hh : Jvm.Lit.constHeld Z own index) (hcw : Jvm.Lit.compactW.before a0 Z = true)
    {g : JFrame} (hg : g.method = m) (hd : decode c.code g.pc = .ok (.ldc index, 2)) (hc : cells + 2 ≤ R.cells) (hl' : slots + (0 + 4) ≤ R.slots) :
    ∃ (a : Addr) (T' : State) (h' : Heap) (k1 : Nat) (b : Addr) (k : ClassId), Stand p l e R (s.setVm T'.vm) m args below meth c T' locs (cells + 2) (slots + (0 + 4)) ∧ T'.heap = h' ∧ Ext h h' ∧ s.Since T'.vm k1 ∧ k1 ≤ h'.size ∧ Z.Warmed39 (s.setVm T'.vm).vm ∧ (s.setVm T'.vm).vm.findClass own = some m.cls ∧
      Exa Z h' a "java/lang/String" ∧ Fld Z h' a "java/lang/String" "coder" "B" (.int 0) ∧ Fld Z h' a "java/lang/String" "value" "[B" (.ref b) ∧ Arv Z h' b k .byte (0 : Int32) [] (.int 0) ∧ a < h'.size ∧ b < h'.size ∧ True ∧ Lit (s.setVm T'.vm) own index a ∧
      ∀ target, Steps p.tables e below (T'.setTop { g with pc := g.pc + 2, stack := .ref a :: g.stack }) target → Steps p.tables e below (T.setTop g) target := by
  obtain ⟨a, T', X', hS', ⟨k2, hk2, hr2⟩, hb, hI1, st⟩ := X.ldcStringCold hx (own := own) hown (mvS hZ w) (own_atoms hZ wS) hg hd (n := 0) (by decide) (by decide) hc hl'
  subst eT
  have E := ext_of hb
  have hW : Z.Warmed39 T'.vm := State.Warmed39.trans (t := s.setVm vm0) hZ hS'.1
  have hTi : T.vm.interned = vm0.interned := X.warmed.interned_eq
  have hF' : FI T'.vm la := by
    unfold FI at hF ⊢
    rcases hI1.2 with q | ⟨u, a', q, -, -⟩
    · rw [q, hTi]; exact hF
    · rw [q, Array.find?_push, hTi, hF]; rfl
  have hcZ : Z.vm.findClass own = some m.cls := by rw [← hZ.alike.findClass]; exact hown
  have hf : T'.vm.findClass own = some m.cls := by rw [hW.alike.findClass]; exact hcZ
  have hL : Lit (s.setVm T'.vm) own index a := by simp [Lit, State.resolvedAt?, hf, hk2, hr2]
  obtain ⟨kz, hkz, hres⟩ := own_entry hh hcw wS w hcZ
  have fin : ∃ b k, Empt Z T'.heap a b k := by
    rcases hres with h0 | ⟨aZ, b', kb, h0, hE, -, -⟩
    · have ta : FI T'.vm a := FI.tie hW hcZ w hkz h0 hk2 hr2
      have ea : a = la := by
        unfold FI at ta hF'
        rw [ta] at hF'
        simpa using hF'
      subst ea
      exact ⟨b, k, F.ext E⟩
    · have q := own_same hW hkz h0 hk2
      have ea : a = aZ := by have := hr2.symm.trans q; simpa using this
      subst ea
      exact ⟨b', kb, (hE.ext O).ext E⟩
  obtain ⟨b2, kb2, F2⟩ := fin
  exact ⟨a, T', _, _, b2, kb2, X', rfl, E, hS.trans hS' (Nat.le_trans hk E.1), Nat.le_refl _, hW, hf, F2.1, F2.2.1, F2.2.2.1, F2.2.2.2, F2.1.lt, F2.2.2.2.lt, trivial, hL, st⟩
/-- ldc of the empty text, the first in this run -/
theorem ldcL1 (X : Stand p l e R (s.setVm vm0) m args below meth c T locs cells slots) (hx : p.tables.exec = Jvm.exec) (hZ : Z.Warmed39 vm0) (hown : vm0.findClass own = some m.cls) (w : (Cond.stringLink own index "").before a0 Z = true) (wS : ∀ a ∈ Bundle.stringAtoms, a.before a0 Z = true)
    (eT : T.heap = h) {k0 : Nat} (hS : s.Since vm0 k0) (hk : k0 ≤ h.size) (N : Fr s.heap.size locs) (hkeep : ∀ (b : Addr) (cl : Cell), Z.heap[b]? = some cl → s.heap[b]? = some cl) (O : Ext Z.heap h) (I : IB Z vm0 Ts) (hnot : "" ∉ Ts) (hh : Jvm.Lit.constHeld Z own index) (hcw : Jvm.Lit.compactW.before a0 Z = true)
    {g : JFrame} (hg : g.method = m) (hd : decode c.code g.pc = .ok (.ldc index, 2)) (hc : cells + 2 ≤ R.cells) (hl' : slots + (0 + 4) ≤ R.slots) :
    ∃ (a : Addr) (T' : State) (h' : Heap) (k1 : Nat) (b : Addr) (k : ClassId), Stand p l e R (s.setVm T'.vm) m args below meth c T' locs (cells + 2) (slots + (0 + 4)) ∧ T'.heap = h' ∧ Ext h h' ∧ s.Since T'.vm k1 ∧ k1 ≤ h'.size ∧ Z.Warmed39 (s.setVm T'.vm).vm ∧ (s.setVm T'.vm).vm.findClass own = some m.cls ∧
      Exa Z h' a "java/lang/String" ∧ Fld Z h' a "java/lang/String" "coder" "B" (.int 0) ∧ Fld Z h' a "java/lang/String" "value" "[B" (.ref b) ∧ Arv Z h' b k .byte (0 : Int32) [] (.int 0) ∧ a < h'.size ∧ b < h'.size ∧ JI Z T'.vm Ts a ∧ Lit (s.setVm T'.vm) own index a ∧
      ∀ target, Steps p.tables e below (T'.setTop { g with pc := g.pc + 2, stack := .ref a :: g.stack }) target → Steps p.tables e below (T.setTop g) target := by
  have hcZ : Z.vm.findClass own = some m.cls := by rw [← hZ.alike.findClass]; exact hown
  obtain ⟨kz, hkz, hres⟩ := own_entry hh hcw wS w hcZ
  rcases hres with h0 | ⟨aZ, b', kb, h0, hE, -, -⟩
  · obtain ⟨a, T', h', k1, b, k, r1, r2, r3, r4, r5, r6, r7, r8, r9, r10, r11, r12, r13, r14, r15, r16⟩ := ldcSVL X hx hZ hown w wS eT hS hk N hkeep I hnot hh hcw (vs := []) (z := (0 : Int32)) ⟨by simp, by simp⟩ (by decide) rfl hg hd (n := 0) (by decide) (by decide) hc hl'
    have hW : Z.Warmed39 T'.vm := r6
    have hf : T'.vm.findClass own = some m.cls := r7
    obtain ⟨k2, hk2, ek2⟩ := hW.alike.2.2 _ _ hkz
    have hr2 : k2.resolved[index]? = some (some (.string a)) := by
      have q : k2.resolved[index]?.join = some (Resolved.string a) := by simpa [Lit, State.resolvedAt?, hf, hk2] using r15
      cases hx2 : k2.resolved[index]? with
      | none => rw [hx2] at q; simp at q
      | some y => rw [hx2] at q; simp at q; rw [q]
    exact ⟨a, T', h', k1, b, k, r1, r2, r3, r4, r5, r6, r7, r8, r9, r10, r11, r12, r13, Or.inr (FI.tie hW hcZ w hkz h0 hk2 hr2), r15, r16⟩
  · obtain ⟨k2, hk2, ek2⟩ := hZ.alike.2.2 _ _ hkz
    have hL : Lit (s.setVm vm0) own index aZ := by simp [Lit, State.resolvedAt?, hown, hk2, own_same hZ hkz h0 hk2]
    have st := ldcAgain X hx hZ hown w hL hg hd
    have W0 : (s.setVm vm0).Warmed39 T.vm := X.warmed.wide
    subst eT
    have F2 := hE.ext O
    refine ⟨aZ, T, T.heap, T.heap.size, b', kb, (X.mono (by omega) (by omega)).retabled W0, rfl, ⟨Nat.le_refl _, fun _ _ q => q⟩, ?_, Nat.le_refl _, hZ.trans (t := s.setVm vm0) W0, ?_, F2.1, F2.2.1, F2.2.2.1, F2.2.2.2, F2.1.lt, F2.2.2.2.lt, Or.inl (IB.at X I), hL.stays W0, st⟩
    · exact hS.trans (X.warmed.since _) hk
    · show T.vm.findClass own = _
      rw [X.warmed.alike.findClass]; exact hown
end Lit2
section Lit3
variable {p : Program} {l : Launch} {e : Env} {R : Room} {s : State} {m : MethodId} {args : Array Value} {below : List Frame} {meth : Method} {c : Code} {T : State} {locs : List Loc} {cells slots : Nat} {Z : State} {a0 : Array Value} {h h' : Heap} {vm0 vm1 : Vm} {Ts : List String} {own : String} {index : Nat} {a b la : Addr} {k : ClassId} {Q : Option Value → Vm → Heap → List Loc → Prop}
theorem ldcJ (X : Stand p l e R (s.setVm vm0) m args below meth c T locs cells slots) (hx : p.tables.exec = Jvm.exec) (hZ : Z.Warmed39 vm0) (hown : vm0.findClass own = some m.cls) (w : (Cond.stringLink own index "").before a0 Z = true) (wS : ∀ a ∈ Bundle.stringAtoms, a.before a0 Z = true)
    (eT : T.heap = h) {k0 : Nat} (hS : s.Since vm0 k0) (hk : k0 ≤ h.size) (N : Fr s.heap.size locs) (hkeep : ∀ (b : Addr) (cl : Cell), Z.heap[b]? = some cl → s.heap[b]? = some cl) (O : Ext Z.heap h) (I : JI Z vm0 Ts la) (hnot : "" ∉ Ts) (F : Empt Z h la b k) (hh : Jvm.Lit.constHeld Z own index) (hcw : Jvm.Lit.compactW.before a0 Z = true)
    {g : JFrame} (hg : g.method = m) (hd : decode c.code g.pc = .ok (.ldc index, 2)) (hc : cells + 2 ≤ R.cells) (hl' : slots + (0 + 4) ≤ R.slots) :
    ∃ (a : Addr) (T' : State) (h' : Heap) (k1 : Nat) (b : Addr) (k : ClassId), Stand p l e R (s.setVm T'.vm) m args below meth c T' locs (cells + 2) (slots + (0 + 4)) ∧ T'.heap = h' ∧ Ext h h' ∧ s.Since T'.vm k1 ∧ k1 ≤ h'.size ∧ Z.Warmed39 (s.setVm T'.vm).vm ∧ (s.setVm T'.vm).vm.findClass own = some m.cls ∧
      Exa Z h' a "java/lang/String" ∧ Fld Z h' a "java/lang/String" "coder" "B" (.int 0) ∧ Fld Z h' a "java/lang/String" "value" "[B" (.ref b) ∧ Arv Z h' b k .byte (0 : Int32) [] (.int 0) ∧ a < h'.size ∧ b < h'.size ∧ True ∧ Lit (s.setVm T'.vm) own index a ∧
      ∀ target, Steps p.tables e below (T'.setTop { g with pc := g.pc + 2, stack := .ref a :: g.stack }) target → Steps p.tables e below (T.setTop g) target := by
  rcases I with I | I
  · obtain ⟨a, T', h', k1, b, k, r1, r2, r3, r4, r5, r6, r7, r8, r9, r10, r11, r12, r13, r14, r15, r16⟩ := ldcSVL X hx hZ hown w wS eT hS hk N hkeep I hnot hh hcw (vs := []) (z := (0 : Int32)) ⟨by simp, by simp⟩ (by decide) rfl hg hd (n := 0) (by decide) (by decide) hc hl'
    exact ⟨a, T', h', k1, b, k, r1, r2, r3, r4, r5, r6, r7, r8, r9, r10, r11, r12, r13, trivial, r15, r16⟩
  · exact ldcF2 X hx hZ hown w wS eT hS hk O I F hh hcw hg hd hc hl'
theorem backOfSP (P : Vm → Prop) {y : MethodName} {bytes : ByteArray} {maxL : Nat} {ret : Option FieldType} {rm : Room} {len W : Nat} {as' : Array Value}
    (hM : MetFree l y (head1 [Cond.code y bytes maxL ret] rm) (fun a U => a = as' ∧ Z.Warmed39 U.vm ∧ U.heap = h ∧ P U.vm) (fun _ _ _ _ _ => True) (fun _ U o U' => ∃ v L, o = .returned v ∧ Q v U'.vm U'.heap L ∧ ReturnedEndW U o U' L rm.cells rm.slots))
    (hZ : Z.Warmed39 s.vm) (wc : (Cond.code y bytes maxL ret).before a0 Z = true) (wz : (Cond.initialized y.cls).before a0 Z = true) (hf : rm.frames + 1 ≤ R.frames) (hl : W + (maxL + 11) + rm.locals ≤ R.locals) :
    BackS l R p e below s args y len W (fun A a => a = as' ∧ A.U.heap = h ∧ A.cells + rm.cells ≤ R.cells ∧ A.slots + rm.slots ≤ R.slots ∧ P A.U.vm)
      (fun A _ v B => ∃ L, Q v B.U.vm B.U.heap L ∧ B.locs = A.locs ++ L ∧ B.cells = A.cells + rm.cells ∧ B.slots = A.slots + rm.slots) := by
  refine BackS.of_freeW (bytes := bytes) (maxL := maxL) (ret := ret) (E := fun _ _ o t L k n => k = rm.cells ∧ n = rm.slots ∧ ∃ v, o = .returned v ∧ Q v t.vm t.heap L) hM hf hl ?_ ?_ (fun _ _ _ _ _ _ _ _ _ => trivial) ?_ ?_
  · intro m meth c A a Y hp
    have hU : Z.Warmed39 A.U.vm := wtrans hZ Y.warmed
    refine ⟨?_, mv hU wc, mv hU wz, hp.2.2.1, hp.2.2.2.1⟩
    show (Cond.and _ .tt).before a A.U = true
    rw [Cond.before_and, mv hU wc]; rfl
  · intro m meth c A a g mk Y hp
    exact ⟨hp.1, wtrans hZ Y.warmed, hp.2.1, hp.2.2.2.2⟩
  · rintro _ _ _ _ ⟨v, L, h1, h2, h3⟩
    exact ⟨L, _, _, h3, rfl, rfl, v, h1, h2⟩
  · rintro m meth c A a g mk v t L k n Y hp _ _ ⟨e1, e2, v', e3, e4⟩
    cases e3; subst e1 e2
    exact ⟨L, e4, rfl, rfl, rfl⟩
end Lit3

theorem selects_private {y : MethodName} {s : State} {args : Array Value} {n : Nat} (hins : (Cond.instantiable y.cls n).before args s = true) (hpriv : (Cond.privateMethod y).before args s = true) (hinst : (Cond.instanceMethod y).before args s = true) (hy : y.cls ≠ "java/lang/invoke/MethodHandle" ∧ y.cls ≠ "java/lang/invoke/VarHandle" := by decide) :
    (Cond.selects y.cls y y).before args s = true := by
  obtain ⟨c, k, hc, hk, -, hniab, -, -⟩ := Cond.instantiable_spec hins
  have hni : k.isInterface = false := (Bool.or_eq_false_iff.mp hniab).1
  obtain ⟨mk, methM, hnamed, hmethM, -, -⟩ := Cond.instanceMethod_spec hinst
  have hfound : s.methodFound? y.cls y.name y.desc = some mk := State.methodFound?_of_named hnamed hy
  have hcls : mk.cls = c := Option.some.inj ((findClass_of_methodNamed hnamed).symm.trans hc)
  have hsel : selectMethod {} s.vm c mk = .method mk := selectMethod_private hmethM (Cond.privateMethod_at hpriv mk methM hnamed hmethM)
  simp only [Cond.before, Cond.holds, Cond.value, hc, hfound, hnamed, hsel, hcls, hk]
  simp; exact hni

theorem neAB {Z : State} {h : Heap} {a b : Addr} {k k' : ClassId} {ty ty' : FieldType} {z z' : Int32} {vs : List Value} {d : Value} {f : Int32 → Value} (F : Arv Z h a k ty z vs d) (G : Arf Z h b k' ty' z' f) (hne : ty ≠ ty') : a ≠ b := fun q => by
  subst q
  obtain ⟨c1, ⟨e1, ⟨-, k1, g1, comp1, r1⟩, -⟩, -⟩ := F
  obtain ⟨c2, ⟨e2, ⟨-, k2, g2, comp2, r2⟩, -⟩, -⟩ := G
  cases e1.symm.trans e2
  cases g1.symm.trans g2
  rw [r1] at r2
  simp at r2
  exact hne r2.2
theorem own_b8 (x : Int32) : (x &&& (255 : Int32)).toInt8 = x.toInt8 := by
  apply Int8.toBitVec_inj.mp
  simp only [Int32.toBitVec_toInt8, Int32.toBitVec_and]
  apply BitVec.eq_of_getLsbD_eq
  intro i hi
  have k : ∀ i, i < 8 → (255 : Int32).toBitVec.getLsbD i = true := by decide
  rw [BitVec.getLsbD_signExtend, BitVec.getLsbD_signExtend, if_pos (by omega), if_pos (by omega), BitVec.getLsbD_and, k i hi, Bool.and_true]
theorem own_b255 (u v : Int32) (n : ¬ nar .byte u = nar .byte v) : ¬ (nar .byte v &&& (255 : Int32)) = (nar .byte u &&& (255 : Int32)) := by
  intro q
  have q2 := congrArg Int32.toInt8 q
  rw [own_b8, own_b8] at q2
  have e : ∀ w : Int32, (nar .byte w).toInt8 = w.toInt8 := fun w => by
    show w.toInt8.toInt32.toInt8 = w.toInt8
    simp
  rw [e, e] at q2
  apply n
  show u.toInt8.toInt32 = v.toInt8.toInt32
  rw [q2]
theorem own_rem3 (x : Int32) : (x.toUInt32 >>> ((16 : Int32) &&& 31).toUInt32).toInt32 - (x.toUInt32 >>> ((16 : Int32) &&& 31).toUInt32).toInt32 / (3 : Int32) * (3 : Int32) = (0 : Int32) ∨ (x.toUInt32 >>> ((16 : Int32) &&& 31).toUInt32).toInt32 - (x.toUInt32 >>> ((16 : Int32) &&& 31).toUInt32).toInt32 / (3 : Int32) * (3 : Int32) = (1 : Int32) ∨ (x.toUInt32 >>> ((16 : Int32) &&& 31).toUInt32).toInt32 - (x.toUInt32 >>> ((16 : Int32) &&& 31).toUInt32).toInt32 / (3 : Int32) * (3 : Int32) = (2 : Int32) := by
  generalize hy : (x.toUInt32 >>> ((16 : Int32) &&& 31).toUInt32).toInt32 = y
  have h0 : 0 ≤ y.toInt := by
    have q := c_iushr x (16 : Int32) 16 (by decide) (by decide)
    rw [hy] at q
    omega
  have h1 := Int32.toInt_lt y
  have e3 : (3 : Int32).toInt = 3 := by decide
  have hd : (y / (3 : Int32)).toInt = y.toInt / 3 := by
    rw [Int32.toInt_div, e3, Int.tdiv_eq_ediv_of_nonneg h0, Int.bmod_def]
    split <;> omega
  have hm : (y / (3 : Int32) * (3 : Int32)).toInt = y.toInt / 3 * 3 := by
    rw [Int32.toInt_mul, hd, e3, Int.bmod_def]
    split <;> omega
  have hs : (y - y / (3 : Int32) * (3 : Int32)).toInt = y.toInt - y.toInt / 3 * 3 := by
    rw [Int32.toInt_sub, hm, Int.bmod_def]
    split <;> omega
  have e0 : (0 : Int32).toInt = 0 := by decide
  have e1 : (1 : Int32).toInt = 1 := by decide
  have e2 : (2 : Int32).toInt = 2 := by decide
  have : y.toInt - y.toInt / 3 * 3 = 0 ∨ y.toInt - y.toInt / 3 * 3 = 1 ∨ y.toInt - y.toInt / 3 * 3 = 2 := by omega
  rcases this with q | q | q
  · exact Or.inl (Int32.toInt_inj.mp (by rw [hs, q, e0]))
  · exact Or.inr (Or.inl (Int32.toInt_inj.mp (by rw [hs, q, e1])))
  · exact Or.inr (Or.inr (Int32.toInt_inj.mp (by rw [hs, q, e2])))

theorem own_wS {Z : State} {a0 : Array Value} (hw : ∀ d ∈ tables_1, d.before a0 Z = true) : ∀ a ∈ Bundle.stringAtoms, a.before a0 Z = true := by
  intro a ha
  simp only [Bundle.stringAtoms, Bundle.sN, List.mem_cons, List.not_mem_nil, or_false] at ha
  rcases ha with rfl | rfl | rfl | rfl | rfl | rfl | rfl
  · exact (ow hw 2 rfl)
  · exact (ow hw 10 rfl)
  · exact (ow hw 14 rfl)
  · exact (ow hw 23 rfl)
  · exact (ow hw 25 rfl)
  · exact (ow hw 46 rfl)
  · exact (ow hw 47 rfl)
theorem own_i2c (x : Int32) (h : 0 ≤ x.toInt ∧ x.toInt ≤ 65535) : x.toUInt32.toUInt16.toUInt32.toInt32.toInt = x.toInt := by
  have := c_i2c x
  omega
theorem own_m255 (x : Int32) : 0 ≤ (x &&& (255 : Int32)).toInt ∧ (x &&& (255 : Int32)).toInt ≤ 255 := by
  have h := c_and x (255 : Int32) (by decide)
  have e : (255 : Int32).toInt = 255 := by decide
  omega
theorem own_c255 (x : Int32) : ¬ (255 : Int32) < ((x &&& (255 : Int32)).toUInt32.toUInt16.toUInt32.toInt32) := by
  have h := own_m255 x
  have h2 := own_i2c (x &&& (255 : Int32)) ⟨h.1, by omega⟩
  rw [Int32.lt_iff_toInt_lt, h2]
  have e : (255 : Int32).toInt = 255 := by decide
  omega
theorem own_c255n (x : Int32) : ¬ (255 : Int32) < nar .char ((x &&& (255 : Int32)).toUInt32.toUInt16.toUInt32.toInt32) := by
  have h := own_m255 x
  have h2 := own_i2c (x &&& (255 : Int32)) ⟨h.1, by omega⟩
  have h3 := own_i2c ((x &&& (255 : Int32)).toUInt32.toUInt16.toUInt32.toInt32) (by rw [h2]; omega)
  rw [Int32.lt_iff_toInt_lt]
  show ¬ _ < (((x &&& (255 : Int32)).toUInt32.toUInt16.toUInt32.toInt32).toUInt32.toUInt16.toUInt32.toInt32).toInt
  rw [h3, h2]
  have e : (255 : Int32).toInt = 255 := by decide
  omega
/-! StringLatin1.canEncode (2) -/
theorem d2_0 : decode q15 0 = .ok (.iload_n 0, 1) := by decide +kernel
theorem d2_1 : decode q15 1 = .ok (.sipush 255, 3) := by decide +kernel
theorem d2_4 : decode q15 4 = .ok (.if_icmp .gt 7, 3) := by decide +kernel
theorem d2_7 : decode q15 7 = .ok (.iconst 1, 1) := by decide +kernel
theorem d2_8 : decode q15 8 = .ok (.goto 4, 3) := by decide +kernel
theorem d2_12 : decode q15 12 = .ok (.ireturn, 1) := by decide +kernel
theorem pn_2 : plainName "java/lang/StringLatin1" = true := by first | (simp [plainName, overriddenIn]; done) | decide +kernel
theorem ef_2 (m : MethodId) (p0 : Int32) : entryFrame m #[(.int p0)] 1 = (mkF m 0 #[.val (.int p0)] []) := by first | (simp [entryFrame, mkF, argsToLocals, Value.category]; done) | rfl
def Q2 (Z : State) (p0 : Int32) (h0 : Heap) (n0 : Nat) (v : Option Value) (h : Heap) (L : List Loc) : Prop := v = some (.int z1) ∧ Fr n0 L ∧ h = h0
theorem rm2 (l : Launch) (Z : State) (a0 : Array Value) (hw : ∀ d ∈ tables_1, d.before a0 Z = true) (ws : List Jvm.Cond) (p0 : Int32) (h0 : Heap) (n0 : Nat) (Z0 : n0 ≤ h0.size) (hc4 : ¬ (z255 < p0)) :
    MetFree l (⟨cG, "canEncode", "(C)Z"⟩ : MethodName) (head1 (Jvm.Cond.code (⟨cG, "canEncode", "(C)Z"⟩ : MethodName) jdk_43_method_3_code 1 (some .boolean) :: ws) ({ frames := 0, cells := 0, slots := 0, locals := 0 } : Room)) (fun a U => a = #[(.int p0)] ∧ Z.Warmed39 U.vm ∧ U.heap = h0) (fun _ _ _ _ _ => True) (fun _ U o U' => ∃ v L, o = .returned v ∧ Q2 Z p0 h0 n0 v U'.heap L ∧ FrameEnd U o U' L ({ frames := 0, cells := 0, slots := 0, locals := 0 } : Room).cells ({ frames := 0, cells := 0, slots := 0, locals := 0 } : Room).slots) := by
  refine MetFree.of_bodySF (plainFor_of_name pn_2) hisR ?_
  intro p e s m args below meth c s₁ Bd hml0 hP hK
  obtain ⟨rfl, hZ, hh⟩ := hP
  have hx := Bd.exec
  have hby := Bd.bytes
  have hml : c.maxLocals = 1 := hml0
  have hown : s.vm.findClass cG = some m.cls := findClass_of_methodNamed Bd.named
  have hnm := (name_of_methodNamed Bd.named Bd.method).1
  have hrt := Bd.returns
  have hlk := Bd.notSynchronized
  have X0 : Stand p l e ({ frames := 0, cells := 0, slots := 0, locals := 0 } : Room) s m #[(.int p0)] below meth c s₁ [] 0 0 := Stand.of_body Bd
  have e0 : s₁.heap = h0 := by rw [← hh, Bd.state]; rfl
  have N0 := Fr.nil n0
  show Go p e below s 0 0 (Q2 Z p0 h0 n0) (s₁.setTop (entryFrame m #[(.int p0)] 1))
  rw [ef_2 m p0]
  refine Go.pre (st' := s₁.setTop (mkF m 12 #[sI p0] [(.int z1)])) (fun target kt => ?_) ?_
  · refine XS.iloadN X0.here hx rfl (hb hby d2_0) rfl ?_
    refine XS.sipush X0.here hx rfl (hb hby d2_1) ?_
    refine XS.icmpNo X0.here hx rfl (hb hby d2_4) rfl (flt hc4).2.2.1 ?_
    refine XS.iconst X0.here hx rfl (hb hby d2_7) ?_
    refine XS.goto X0.here hx rfl (pc0 := 8) (pc' := 12) rfl (hb hby d2_8) (by decide) (by decide) ?_
    exact kt
  exact Go.retN X0 hx hlk hrt (z' := z1) (by simp) (hb hby d2_12) rfl (by decide) (by decide) (by rw [e0]; exact ⟨rfl, N0, rfl⟩)
/-! StringLatin1.toBytes (3) -/
theorem d3_0 : decode q16 0 = .ok (.iconst 1, 1) := by decide +kernel
theorem d3_1 : decode q16 1 = .ok (.newarray .byte, 2) := by decide +kernel
theorem d3_3 : decode q16 3 = .ok (.dup, 1) := by decide +kernel
theorem d3_4 : decode q16 4 = .ok (.iconst 0, 1) := by decide +kernel
theorem d3_5 : decode q16 5 = .ok (.iload_n 0, 1) := by decide +kernel
theorem d3_6 : decode q16 6 = .ok (.i2b, 1) := by decide +kernel
theorem d3_7 : decode q16 7 = .ok (.bastore, 1) := by decide +kernel
theorem d3_8 : decode q16 8 = .ok (.areturn, 1) := by decide +kernel
theorem pn_3 : plainName "java/lang/StringLatin1" = true := by first | (simp [plainName, overriddenIn]; done) | decide +kernel
theorem ef_3 (m : MethodId) (p0 : Int32) : entryFrame m #[(.int p0)] 1 = (mkF m 0 #[.val (.int p0)] []) := by first | (simp [entryFrame, mkF, argsToLocals, Value.category]; done) | rfl
def Q3 (Z : State) (p0 : Int32) (h0 : Heap) (n0 : Nat) (v : Option Value) (h : Heap) (L : List Loc) : Prop := ∃ b1 : Addr, ∃ k1 : ClassId, v = some (.ref b1) ∧ Fr n0 L ∧ Keep h0 h [] ∧ KF Z h0 h [] ∧ LE.le (α := Nat) h0.size b1 ∧ LT.lt (α := Nat) b1 h.size ∧ Arv Z h b1 k1 .byte z1 [(.int (nar .byte (p0.toInt8.toInt32)))] (.int z0)
theorem rm3 (l : Launch) (Z : State) (a0 : Array Value) (hw : ∀ d ∈ tables_1, d.before a0 Z = true) (ws : List Jvm.Cond) (p0 : Int32) (h0 : Heap) (n0 : Nat) (Z0 : n0 ≤ h0.size) :
    MetFree l (⟨cG, "toBytes", "(C)[B"⟩ : MethodName) (head1 (Jvm.Cond.code (⟨cG, "toBytes", "(C)[B"⟩ : MethodName) jdk_43_method_46_code 1 (some (.array .byte)) :: ws) ({ frames := 0, cells := 1, slots := 1, locals := 0 } : Room)) (fun a U => a = #[(.int p0)] ∧ Z.Warmed39 U.vm ∧ U.heap = h0) (fun _ _ _ _ _ => True) (fun _ U o U' => ∃ v L, o = .returned v ∧ Q3 Z p0 h0 n0 v U'.heap L ∧ FrameEnd U o U' L ({ frames := 0, cells := 1, slots := 1, locals := 0 } : Room).cells ({ frames := 0, cells := 1, slots := 1, locals := 0 } : Room).slots) := by
  refine MetFree.of_bodySF (plainFor_of_name pn_3) hisR ?_
  intro p e s m args below meth c s₁ Bd hml0 hP hK
  obtain ⟨rfl, hZ, hh⟩ := hP
  have hx := Bd.exec
  have hby := Bd.bytes
  have hml : c.maxLocals = 1 := hml0
  have hown : s.vm.findClass cG = some m.cls := findClass_of_methodNamed Bd.named
  have hnm := (name_of_methodNamed Bd.named Bd.method).1
  have hrt := Bd.returns
  have hlk := Bd.notSynchronized
  have X0 : Stand p l e ({ frames := 0, cells := 1, slots := 1, locals := 0 } : Room) s m #[(.int p0)] below meth c s₁ [] 0 0 := Stand.of_body Bd
  have e0 : s₁.heap = h0 := by rw [← hh, Bd.state]; rfl
  have N0 := Fr.nil n0
  show Go p e below s 1 1 (Q3 Z p0 h0 n0) (s₁.setTop (entryFrame m #[(.int p0)] 1))
  rw [ef_3 m p0]
  refine Go.pre (st' := s₁.setTop (mkF m 1 #[sI p0] [(.int z1)])) (fun target kt => ?_) ?_
  · refine XS.iconst X0.here hx rfl (hb hby d3_0) ?_
    exact kt
  obtain ⟨T1, h1, k1, X1, e1, E1, A1, st1⟩ := newP X0 hx hZ (ow hw 14 rfl) e0 (g := (mkF m 1 #[sI p0] [(.int z1)])) rfl (hb hby d3_1) rfl (by decide) (cap := 1) (by decide) (by decide) (by decide) (by decide)
  obtain ⟨b1, g1⟩ : ∃ z, z = h0.size := ⟨_, rfl⟩
  rw [← g1] at A1 st1
  have sz1 : h0.size ≤ h1.size := E1.1
  have V1 : Arv Z h1 b1 k1 .byte z1 [(.int z0)] (.int z0) := (Arv.new A1 (by decide)).pad (pad_rep [] (.int z0) 1)
  have lt1 : b1 < h1.size := V1.lt
  refine Go.pre st1 ?_
  refine Go.pre (st' := T1.setTop (mkF m 7 #[sI p0] [(.int (p0.toInt8.toInt32)), (.int z0), (.ref b1), (.ref b1)])) (fun target kt => ?_) ?_
  · refine XS.dup X1.here hx rfl (hb hby d3_3) rfl rfl ?_
    refine XS.iconst X1.here hx rfl (hb hby d3_4) ?_
    refine XS.iloadN X1.here hx rfl (hb hby d3_5) rfl ?_
    refine XS.i2b X1.here hx rfl (hb hby d3_6) rfl ?_
    exact kt
  obtain ⟨cl2, Ar2, q2, Sz2, Nn2, Hs2, Gs2⟩ := id V1
  have in2 := inb_of (j := z0) Sz2 ⟨by decide, by decide⟩
  obtain ⟨T2, h2, X2, e2, W2, st2⟩ := stB X1 hx hZ e1 Ar2 (j := z0) in2 (g := (mkF m 7 #[sI p0] [(.int (p0.toInt8.toInt32)), (.int z0), (.ref b1), (.ref b1)])) rfl rfl (hb hby d3_7)
  have sz2 : h1.size ≤ h2.size := (Keep.of_wr W2).1
  have V2 : Arv Z h2 b1 k1 .byte z1 [(.int (nar .byte (p0.toInt8.toInt32)))] (.int z0) := Arv.set Ar2 q2 Sz2 Nn2 Hs2 Gs2 (fits_nar_byte _) W2 0 rfl (Nat.le_of_ble_eq_true rfl)
  have N2 := Fr.snoc X2 N0 (by omega)
  refine Go.pre st2 ?_
  exact Go.retV X2 hx hlk hrt rfl (Or.inr (Or.inr (Or.inr (Or.inr ⟨rfl, rfl, rfl⟩)))) (hb hby d3_8) (by decide) (by decide) (by rw [e2]; exact ⟨b1, k1, rfl, N2, (((Keep.refl h0 []).ext E1).wr W2 (Or.inr (by omega))), (((KF.refl Z h0 []).ext E1).wr W2 (Or.inr (by show _ ≤ b1; omega))), by omega, by omega, V2⟩)
/-! String.<init> (4) -/
theorem d4_0 : decode q5 0 = .ok (.aload_n 0, 1) := by decide +kernel
theorem d4_1 : decode q5 1 = .ok (.invokespecial 1, 3) := by decide +kernel
theorem d4_4 : decode q5 4 = .ok (.aload_n 0, 1) := by decide +kernel
theorem d4_5 : decode q5 5 = .ok (.aload_n 1, 1) := by decide +kernel
theorem d4_6 : decode q5 6 = .ok (.putfield 9, 3) := by decide +kernel
theorem d4_9 : decode q5 9 = .ok (.aload_n 0, 1) := by decide +kernel
theorem d4_10 : decode q5 10 = .ok (.iload_n 2, 1) := by decide +kernel
theorem d4_11 : decode q5 11 = .ok (.putfield 15, 3) := by decide +kernel
theorem d4_14 : decode q5 14 = .ok (.return_, 1) := by decide +kernel
theorem pn_4 : plainName "java/lang/String" = true := by first | (simp [plainName, overriddenIn]; done) | decide +kernel
theorem ef_4 (m : MethodId) (o0 : Addr) (o1 : Addr) (p2 : Int32) : entryFrame m #[(.ref o0), (.ref o1), (.int p2)] 3 = (mkF m 0 #[.val (.ref o0), .val (.ref o1), .val (.int p2)] []) := by first | (simp [entryFrame, mkF, argsToLocals, Value.category]; done) | rfl
def Q4 (Z : State) (o0 : Addr) (o1 : Addr) (p2 : Int32) (u2 : Value) (u5 : Value) (h0 : Heap) (n0 : Nat) (v : Option Value) (h : Heap) (L : List Loc) : Prop := v = none ∧ Fr n0 L ∧ Keep h0 h [o0] ∧ KF Z h0 h [(o0, Jvm.RoadKit.slotOf Z cB "value" "[B"), (o0, Jvm.RoadKit.slotOf Z cB "coder" "B")] ∧ Fld Z h o0 cB "value" "[B" (.ref o1) ∧ Fld Z h o0 cB "coder" "B" (.int (nar .byte p2))
theorem rm4 (l : Launch) (Z : State) (a0 : Array Value) (hw : ∀ d ∈ tables_1, d.before a0 Z = true) (ws : List Jvm.Cond) (o0 : Addr) (o1 : Addr) (p2 : Int32) (u2 : Value) (u5 : Value) (h0 : Heap) (n0 : Nat) (Z0 : n0 ≤ h0.size) (F_value_o0 : Fld Z h0 o0 cB "value" "[B" u2) (E_o0 : Exa Z h0 o0 cB) (g_o0 : n0 ≤ o0) (F_coder_o0 : Fld Z h0 o0 cB "coder" "B" u5) :
    MetFree l (⟨cB, "<init>", "([BB)V"⟩ : MethodName) (head1 (Jvm.Cond.code (⟨cB, "<init>", "([BB)V"⟩ : MethodName) jdk_42_method_151_code 3 none :: ws) ({ frames := 1, cells := 0, slots := 0, locals := 12 } : Room)) (fun a U => a = #[(.ref o0), (.ref o1), (.int p2)] ∧ Z.Warmed39 U.vm ∧ U.heap = h0) (fun _ _ _ _ _ => True) (fun _ U o U' => ∃ v L, o = .returned v ∧ Q4 Z o0 o1 p2 u2 u5 h0 n0 v U'.heap L ∧ FrameEnd U o U' L ({ frames := 1, cells := 0, slots := 0, locals := 12 } : Room).cells ({ frames := 1, cells := 0, slots := 0, locals := 12 } : Room).slots) := by
  refine MetFree.of_bodySF (plainFor_of_name pn_4) hisR ?_
  intro p e s m args below meth c s₁ Bd hml0 hP hK
  obtain ⟨rfl, hZ, hh⟩ := hP
  have hx := Bd.exec
  have hby := Bd.bytes
  have hml : c.maxLocals = 3 := hml0
  have hown : s.vm.findClass cB = some m.cls := findClass_of_methodNamed Bd.named
  have hnm := (name_of_methodNamed Bd.named Bd.method).1
  have hrt := Bd.returns
  have hlk := Bd.notSynchronized
  have X0 : Stand p l e ({ frames := 1, cells := 0, slots := 0, locals := 12 } : Room) s m #[(.ref o0), (.ref o1), (.int p2)] below meth c s₁ [] 0 0 := Stand.of_body Bd
  have e0 : s₁.heap = h0 := by rw [← hh, Bd.state]; rfl
  have N0 := Fr.nil n0
  have lt_F_value_o0 : LT.lt (α := Nat) o0 h0.size := F_value_o0.lt
  show Go p e below s 0 0 (Q4 Z o0 o1 p2 u2 u5 h0 n0) (s₁.setTop (entryFrame m #[(.ref o0), (.ref o1), (.int p2)] 3))
  rw [ef_4 m o0 o1 p2]
  refine Go.pre (st' := s₁.setTop (mkF m 1 #[sR o0, sR o1, sI p2] [(.ref o0)])) (fun target kt => ?_) ?_
  · refine XS.aloadN X0.here hx rfl (hb hby d4_0) rfl rfl ?_
    exact kt
  obtain ⟨T1, X1, e1, st1⟩ := initO X0 hx hZ hown (ow hw 19 rfl) (ow hw 20 rfl) (ow hw 21 rfl) e0 (g := (mkF m 1 #[sR o0, sR o1, sI p2] [(.ref o0)])) rfl (by rw [hml]; rfl) rfl (hb hby d4_1) (by decide) (W := 0) (le0 rfl) (by decide)
  refine Go.pre st1 ?_
  refine Go.pre (st' := T1.setTop (mkF m 6 #[sR o0, sR o1, sI p2] [(.ref o1), (.ref o0)])) (fun target kt => ?_) ?_
  · refine XS.aloadN X1.here hx rfl (hb hby d4_4) rfl rfl ?_
    refine XS.aloadN X1.here hx rfl (hb hby d4_5) rfl rfl ?_
    exact kt
  obtain ⟨T3, h3, X3, e3, W3, st3⟩ := putF X1 hx hZ hown (host := "") (Or.inl (ow hw 22 rfl)) Via.refl e1 F_value_o0 E_o0 (Or.inr ⟨(ow hw 23 rfl), rfl, hnm⟩) (ow hw 10 rfl) (ty := (.array .byte)) (by decide) rfl rfl (g := (mkF m 6 #[sR o0, sR o1, sI p2] [(.ref o1), (.ref o0)])) rfl rfl (hb hby d4_6)
  have sz3 : h0.size ≤ h3.size := (Keep.of_wr W3).1
  have Y4 : Fld Z h3 o0 cB "value" "[B" (.ref o1) := F_value_o0.same W3
  have N3 := Fr.snoc X3 N0 (by omega)
  refine Go.pre st3 ?_
  refine Go.pre (st' := T3.setTop (mkF m 11 #[sR o0, sR o1, sI p2] [(.int p2), (.ref o0)])) (fun target kt => ?_) ?_
  · refine XS.aloadN X3.here hx rfl (hb hby d4_9) rfl rfl ?_
    refine XS.iloadN X3.here hx rfl (hb hby d4_10) rfl ?_
    exact kt
  have Y6 := (F_coder_o0.other W3 (Or.inr (slot_ne (Or.inr (ow hw 25 rfl)) (Or.inr (ow hw 23 rfl)) (by decide) (t := .byte) (t' := (.array .byte)) (by decide) (by decide))))
  have Y7 := (E_o0.wr W3)
  obtain ⟨T8, h8, X8, e8, W8, st8⟩ := putFN X3 hx hZ hown (ow hw 24 rfl) Via.refl e3 Y6 Y7 (Or.inr ⟨(ow hw 25 rfl), rfl, hnm⟩) (ow hw 10 rfl) (ty := .byte) (v' := (.int (nar .byte p2))) (by decide) rfl (fits_nar_byte _) (g := (mkF m 11 #[sR o0, sR o1, sI p2] [(.int p2), (.ref o0)])) rfl rfl (hb hby d4_11)
  have sz8 : h3.size ≤ h8.size := (Keep.of_wr W8).1
  have Y9 : Fld Z h8 o0 cB "coder" "B" (.int (nar .byte p2)) := Y6.same W8
  have N8 := Fr.snoc X8 N3 (by omega)
  refine Go.pre st8 ?_
  have Y10 := (Y4.other W8 (Or.inr (slot_ne (Or.inr (ow hw 23 rfl)) (Or.inr (ow hw 25 rfl)) (by decide) (t := (.array .byte)) (t' := .byte) (by decide) (by decide))))
  exact Go.ret0 X8 hx hlk hrt (hb hby d4_14) (by decide) (by decide) (by rw [e8]; exact ⟨rfl, N8, (((Keep.refl h0 [o0]).wr W3 (Or.inl (List.mem_of_getElem? (i := 0) rfl))).wr W8 (Or.inl (List.mem_of_getElem? (i := 0) rfl))), (((KF.refl Z h0 [(o0, Jvm.RoadKit.slotOf Z cB "value" "[B"), (o0, Jvm.RoadKit.slotOf Z cB "coder" "B")]).wr W3 (Or.inl (List.mem_of_getElem? (i := 0) rfl))).wr W8 (Or.inl (List.mem_of_getElem? (i := 1) rfl))), Y10, Y9⟩)
/-! String.valueOf (1) -/
theorem d1_0 : decode q3 0 = .ok (.getstatic 38, 3) := by decide +kernel
theorem d1_3 : decode q3 3 = .ok (.ifCond .eq 23, 3) := by decide +kernel
theorem d1_6 : decode q3 6 = .ok (.iload_n 0, 1) := by decide +kernel
theorem d1_7 : decode q3 7 = .ok (.invokestatic 1015, 3) := by decide +kernel
theorem d1_10 : decode q3 10 = .ok (.ifCond .eq 16, 3) := by decide +kernel
theorem d1_13 : decode q3 13 = .ok (.new 10, 3) := by decide +kernel
theorem d1_16 : decode q3 16 = .ok (.dup, 1) := by decide +kernel
theorem d1_17 : decode q3 17 = .ok (.iload_n 0, 1) := by decide +kernel
theorem d1_18 : decode q3 18 = .ok (.invokestatic 1018, 3) := by decide +kernel
theorem d1_21 : decode q3 21 = .ok (.iconst 0, 1) := by decide +kernel
theorem d1_22 : decode q3 22 = .ok (.invokespecial 209, 3) := by decide +kernel
theorem d1_25 : decode q3 25 = .ok (.areturn, 1) := by decide +kernel
theorem pn_1 : plainName "java/lang/String" = true := by first | (simp [plainName, overriddenIn]; done) | decide +kernel
theorem pd1_0 : parseMethodDescriptor "(C)Z" = some ⟨[.char], some .boolean⟩ := by decide +kernel
theorem pd1_1 : parseMethodDescriptor "(C)[B" = some ⟨[.char], some (.array .byte)⟩ := by decide +kernel
theorem pd1_2 : parseMethodDescriptor "([BB)V" = some ⟨[(.array .byte), .byte], none⟩ := by decide +kernel
theorem ef_1 (m : MethodId) (p0 : Int32) : entryFrame m #[(.int p0)] 1 = (mkF m 0 #[.val (.int p0)] []) := by first | (simp [entryFrame, mkF, argsToLocals, Value.category]; done) | rfl
def Q1 (Z : State) (p0 : Int32) (zc : Int32) (h0 : Heap) (n0 : Nat) (v : Option Value) (h : Heap) (L : List Loc) : Prop := ∃ b3 : Addr, ∃ b4_0 : Addr, ∃ k4_0 : ClassId, v = some (.ref b3) ∧ Fr n0 L ∧ Keep h0 h [] ∧ KF Z h0 h [] ∧ LE.le (α := Nat) h0.size b3 ∧ LT.lt (α := Nat) b3 h.size ∧ LE.le (α := Nat) h0.size b4_0 ∧ LT.lt (α := Nat) b4_0 h.size ∧ LT.lt (α := Nat) b3 b4_0 ∧ Exa Z h b3 cB ∧ Fld Z h b3 cB "hash" "I" (.int z0) ∧ Fld Z h b3 cB "hashIsZero" "Z" (.int z0) ∧ Fld Z h b3 cB "value" "[B" (.ref b4_0) ∧ Fld Z h b3 cB "coder" "B" (.int (nar .byte z0)) ∧ Arv Z h b4_0 k4_0 .byte z1 [(.int (nar .byte (p0.toInt8.toInt32)))] (.int z0)
theorem rm1 (l : Launch) (Z : State) (a0 : Array Value) (hw : ∀ d ∈ tables_1, d.before a0 Z = true) (ws : List Jvm.Cond) (p0 : Int32) (zc : Int32) (h0 : Heap) (n0 : Nat) (Z0 : n0 ≤ h0.size) (S_COMPACT : Sta Z Z.heap cB "COMPACT_STRINGS" "Z" (.int zc)) (Ol : Old Z n0 h0) (hle : ¬ (z255 < p0)) (hc3 : ¬ (zc = z0)) :
    MetFree l (⟨cB, "valueOf", "(C)Ljava/lang/String;"⟩ : MethodName) (head1 (Jvm.Cond.code (⟨cB, "valueOf", "(C)Ljava/lang/String;"⟩ : MethodName) jdk_42_method_139_code 1 (some (.object cB)) :: ws) ({ frames := 2, cells := 2, slots := 5, locals := 27 } : Room)) (fun a U => a = #[(.int p0)] ∧ Z.Warmed39 U.vm ∧ U.heap = h0) (fun _ _ _ _ _ => True) (fun _ U o U' => ∃ v L, o = .returned v ∧ Q1 Z p0 zc h0 n0 v U'.heap L ∧ FrameEnd U o U' L ({ frames := 2, cells := 2, slots := 5, locals := 27 } : Room).cells ({ frames := 2, cells := 2, slots := 5, locals := 27 } : Room).slots) := by
  refine MetFree.of_bodySF (plainFor_of_name pn_1) hisR ?_
  intro p e s m args below meth c s₁ Bd hml0 hP hK
  obtain ⟨rfl, hZ, hh⟩ := hP
  have hx := Bd.exec
  have hby := Bd.bytes
  have hml : c.maxLocals = 1 := hml0
  have hown : s.vm.findClass cB = some m.cls := findClass_of_methodNamed Bd.named
  have hnm := (name_of_methodNamed Bd.named Bd.method).1
  have hrt := Bd.returns
  have hlk := Bd.notSynchronized
  have X0 : Stand p l e ({ frames := 2, cells := 2, slots := 5, locals := 27 } : Room) s m #[(.int p0)] below meth c s₁ [] 0 0 := Stand.of_body Bd
  have e0 : s₁.heap = h0 := by rw [← hh, Bd.state]; rfl
  have N0 := Fr.nil n0
  show Go p e below s 2 5 (Q1 Z p0 zc h0 n0) (s₁.setTop (entryFrame m #[(.int p0)] 1))
  rw [ef_1 m p0]
  obtain ⟨T1, X1, e1, st1⟩ := getS2 X0 hx hZ hown (host := "") (Or.inl (ow hw 4 rfl)) Via.refl e0 (S_COMPACT.ext Ol.2) (g := (mkF m 0 #[sI p0] [])) rfl (hb hby d1_0)
  refine Go.pre st1 ?_
  refine Go.pre (st' := T1.setTop (mkF m 7 #[sI p0] [(.int p0)])) (fun target kt => ?_) ?_
  · refine XS.ifNo X1.here hx rfl (hb hby d1_3) rfl ((if0 _ _).trans (feq hc3).1) ?_
    refine XS.iloadN X1.here hx rfl (hb hby d1_6) rfl ?_
    exact kt
  obtain ⟨_, _, ⟨T2, L2, k2, n2⟩, -, X2, ⟨Lc2, hQ2, l2, y2, z2⟩, st2⟩ := Jvm.LawKit.callS X1 hx (y := (⟨cG, "canEncode", "(C)Z"⟩ : MethodName)) hown (mvT hZ (ow hw 5 rfl)) (mvT hZ (ow hw 6 rfl)) (mvT hZ (ow hw 7 rfl)) (mvT hZ (ow hw 8 rfl)) (by decide) (backOf (W := 0) (rm2 l Z a0 hw [] p0 h0 n0 (by omega) hle) hZ (ow hw 8 rfl) (ow hw 7 rfl) (by decide) (by decide)) (g := (mkF m 7 #[sI p0] [(.int p0)])) rfl (by rw [hml]; rfl) (argsL := [(.int p0)]) (rest := []) (lenOf pd1_0 rfl) rfl (le0 rfl) (hb hby d1_7) (fun vm₁ hvm => ⟨rfl, e1, (by decide : 0 + 0 ≤ _), (by decide : 0 + 0 ≤ _)⟩)
  dsimp only [Pt.U, Pt.locs, Pt.cells, Pt.slots] at X2 l2 y2 z2 st2 hQ2
  subst l2 y2 z2
  obtain ⟨rfl, N2q, e2⟩ := hQ2
  have N2 := Fr.app N0 N2q
  refine Go.pre st2 ?_
  refine Go.pre (st' := T2.setTop (mkF m 13 #[sI p0] [])) (fun target kt => ?_) ?_
  · refine XS.ifNo X2.here hx rfl (hb hby d1_10) rfl ((if0 _ _).trans (feq (by decide)).1) ?_
    exact kt
  obtain ⟨T3, h3, X3, e3, E3, A3, D3, -, st3⟩ := newO X2 hx hZ hown (ow hw 9 rfl) (ow hw 10 rfl) (ow hw 2 rfl) e2 (g := (mkF m 13 #[sI p0] [])) rfl (hb hby d1_13) (by decide) (by decide)
  obtain ⟨b3, g3⟩ : ∃ z, z = h0.size := ⟨_, rfl⟩
  rw [← g3] at A3 D3 st3
  have sz3 : h0.size ≤ h3.size := E3.1
  have lt3 : b3 < h3.size := A3.lt
  have F3_value : Fld Z h3 b3 cB "value" "[B" .null := D3 (Or.inr (ow hw 23 rfl)) (ty := (.array .byte)) (by decide)
  have F3_coder : Fld Z h3 b3 cB "coder" "B" (.int z0) := D3 (Or.inr (ow hw 25 rfl)) (ty := .byte) (by decide)
  have F3_hash : Fld Z h3 b3 cB "hash" "I" (.int z0) := D3 (Or.inl (ow hw 142 rfl)) (ty := .int) (by decide)
  have F3_hashIsZero : Fld Z h3 b3 cB "hashIsZero" "Z" (.int z0) := D3 (Or.inl (ow hw 144 rfl)) (ty := .boolean) (by decide)
  refine Go.pre st3 ?_
  refine Go.pre (st' := T3.setTop (mkF m 18 #[sI p0] [(.int p0), (.ref b3), (.ref b3)])) (fun target kt => ?_) ?_
  · refine XS.dup X3.here hx rfl (hb hby d1_16) rfl rfl ?_
    refine XS.iloadN X3.here hx rfl (hb hby d1_17) rfl ?_
    exact kt
  obtain ⟨_, _, ⟨T4, L4, k4, n4⟩, -, X4, ⟨Lc4, hQ4, l4, y4, z4⟩, st4⟩ := Jvm.LawKit.callS X3 hx (y := (⟨cG, "toBytes", "(C)[B"⟩ : MethodName)) hown (mvT hZ (ow hw 11 rfl)) (mvT hZ (ow hw 12 rfl)) (mvT hZ (ow hw 7 rfl)) (mvT hZ (ow hw 13 rfl)) (by decide) (backOf (W := 2) (rm3 l Z a0 hw [] p0 h3 n0 (by omega) ) hZ (ow hw 13 rfl) (ow hw 7 rfl) (by decide) (by decide)) (g := (mkF m 18 #[sI p0] [(.int p0), (.ref b3), (.ref b3)])) rfl (by rw [hml]; rfl) (argsL := [(.int p0)]) (rest := [(.ref b3), (.ref b3)]) (lenOf pd1_1 rfl) rfl (le0 rfl) (hb hby d1_18) (fun vm₁ hvm => ⟨rfl, e3, (by decide : 1 + 1 ≤ _), (by decide : 4 + 1 ≤ _)⟩)
  dsimp only [Pt.U, Pt.locs, Pt.cells, Pt.slots] at X4 l4 y4 z4 st4 hQ4
  subst l4 y4 z4
  obtain ⟨b4_0, k4_0, rfl, N4q, K4, KF4, gb4_0, ltb4_0, Y4_0⟩ := hQ4
  have sz4 : h3.size ≤ T4.heap.size := K4.1
  have N4 := Fr.app N2 N4q
  refine Go.pre st4 ?_
  refine Go.pre (st' := T4.setTop (mkF m 22 #[sI p0] [(.int z0), (.ref b4_0), (.ref b3), (.ref b3)])) (fun target kt => ?_) ?_
  · refine XS.iconst X4.here hx rfl (hb hby d1_21) ?_
    exact kt
  have Y6 := (F3_value.keep K4 nin0)
  have Y7 := (A3.keep K4)
  have Y8 := (F3_coder.keep K4 nin0)
  obtain ⟨_, _, ⟨T5, L5, k5, n5⟩, -, X5, ⟨Lc5, hQ5, l5, y5, z5⟩, st5⟩ := X4.specialBack hx (y := (⟨cB, "<init>", "([BB)V"⟩ : MethodName)) rfl hown (mvT hZ (ow hw 15 rfl)) (mvT hZ (ow hw 16 rfl)) (mvT hZ (ow hw 18 rfl)) (by decide) (backOf (W := 1) (rm4 l Z a0 hw [] b3 b4_0 z0 .null (.int z0) T4.heap n0 (by omega) Y6 Y7 (by omega) Y8) hZ (ow hw 18 rfl) (ow hw 2 rfl) (by decide) (by decide)) (g := (mkF m 22 #[sI p0] [(.int z0), (.ref b4_0), (.ref b3), (.ref b3)])) rfl (by rw [hml]; rfl) (Steps.refl _) (a := b3) (argsL := [(.ref b4_0), (.int z0)]) (rest := [(.ref b3)]) (lenOf pd1_2 rfl) rfl (le0 rfl) (hb hby d1_22) (fun vm₁ hvm => ⟨rfl, rfl, (by decide : 2 + 0 ≤ _), (by decide : 5 + 0 ≤ _)⟩)
  dsimp only [Pt.U, Pt.locs, Pt.cells, Pt.slots] at X5 l5 y5 z5 st5 hQ5
  subst l5 y5 z5
  obtain ⟨rfl, N5q, K5, KF5, Y5_0, Y5_1⟩ := hQ5
  have sz5 : T4.heap.size ≤ T5.heap.size := K5.1
  have N5 := Fr.app N4 N5q
  refine Go.trans st5 ?_
  have Y9 := (Y7.keep K5)
  have Y10 := (KF5 _ _ _ _ _ (F3_hash.keep K4 nin0) (pallS (Or.inr (slot_ne (Or.inl (ow hw 142 rfl)) (Or.inr (ow hw 23 rfl)) (by decide) (t := .int) (t' := (.array .byte)) (by decide) (by decide))) (pallS (Or.inr (slot_ne (Or.inl (ow hw 142 rfl)) (Or.inr (ow hw 25 rfl)) (by decide) (t := .int) (t' := .byte) (by decide) (by decide))) pall0)))
  have Y11 := (KF5 _ _ _ _ _ (F3_hashIsZero.keep K4 nin0) (pallS (Or.inr (slot_ne (Or.inl (ow hw 144 rfl)) (Or.inr (ow hw 23 rfl)) (by decide) (t := .boolean) (t' := (.array .byte)) (by decide) (by decide))) (pallS (Or.inr (slot_ne (Or.inl (ow hw 144 rfl)) (Or.inr (ow hw 25 rfl)) (by decide) (t := .boolean) (t' := .byte) (by decide) (by decide))) pall0)))
  have Y12 := (Y4_0.keep K5 (ninS (neN (by omega)) nin0))
  exact Go.retV X5 hx hlk hrt rfl (Or.inr (Or.inr (Or.inr (Or.inr ⟨rfl, rfl, rfl⟩)))) (hb hby d1_25) (by decide) (by decide) (by exact ⟨b3, b4_0, k4_0, rfl, N5, ((((Keep.refl h0 []).ext E3).trans K4 all0).trans K5 (allS (Or.inr (by omega)) all0)), ((((KF.refl Z h0 []).ext E3).trans KF4 pall0).trans KF5 (pallS (Or.inr (by show _ ≤ b3; omega)) (pallS (Or.inr (by show _ ≤ b3; omega)) pall0))), by omega, by omega, by omega, by omega, by omega, Y9, Y10, Y11, Y5_0, Y5_1, Y12⟩)
/-! StringUTF16.compress (32c) -/
theorem d32_0 : decode q19 0 = .ok (.iconst 0, 1) := by decide +kernel
theorem d32_1 : decode q19 1 = .ok (.istore 5, 2) := by decide +kernel
theorem d32_3 : decode q19 3 = .ok (.iload 5, 2) := by decide +kernel
theorem d32_5 : decode q19 5 = .ok (.iload 4, 2) := by decide +kernel
theorem d32_7 : decode q19 7 = .ok (.if_icmp .ge 37, 3) := by decide +kernel
theorem d32_10 : decode q19 10 = .ok (.aload_n 0, 1) := by decide +kernel
theorem d32_11 : decode q19 11 = .ok (.iload_n 1, 1) := by decide +kernel
theorem d32_12 : decode q19 12 = .ok (.caload, 1) := by decide +kernel
theorem d32_13 : decode q19 13 = .ok (.istore 6, 2) := by decide +kernel
theorem d32_15 : decode q19 15 = .ok (.iload 6, 2) := by decide +kernel
theorem d32_17 : decode q19 17 = .ok (.sipush 255, 3) := by decide +kernel
theorem d32_20 : decode q19 20 = .ok (.if_icmp .le 6, 3) := by decide +kernel
theorem d32_26 : decode q19 26 = .ok (.aload_n 2, 1) := by decide +kernel
theorem d32_27 : decode q19 27 = .ok (.iload_n 3, 1) := by decide +kernel
theorem d32_28 : decode q19 28 = .ok (.iload 6, 2) := by decide +kernel
theorem d32_30 : decode q19 30 = .ok (.i2b, 1) := by decide +kernel
theorem d32_31 : decode q19 31 = .ok (.bastore, 1) := by decide +kernel
theorem d32_32 : decode q19 32 = .ok (.iinc 1 1, 3) := by decide +kernel
theorem d32_35 : decode q19 35 = .ok (.iinc 3 1, 3) := by decide +kernel
theorem d32_38 : decode q19 38 = .ok (.iinc 5 1, 3) := by decide +kernel
theorem d32_41 : decode q19 41 = .ok (.goto (-38), 3) := by decide +kernel
theorem d32_44 : decode q19 44 = .ok (.iload 4, 2) := by decide +kernel
theorem d32_46 : decode q19 46 = .ok (.ireturn, 1) := by decide +kernel
theorem pn_32 : plainName "java/lang/StringUTF16" = true := by first | (simp [plainName, overriddenIn]; done) | decide +kernel
theorem ef_32c (m : MethodId) (o0 : Addr) (o2 : Addr) : entryFrame m #[(.ref o0), (.int (0 : Int32)), (.ref o2), (.int (0 : Int32)), (.int (2 : Int32))] 7 = (mkF m 0 #[.val (.ref o0), .val (.int (0 : Int32)), .val (.ref o2), .val (.int (0 : Int32)), .val (.int (2 : Int32)), .unset, .unset] []) := by first | (simp [entryFrame, mkF, argsToLocals, Value.category]; done) | rfl
def Q32c (Z : State) (o0 : Addr) (o2 : Addr) (ka : ClassId) (c0 : Int32) (c1 : Int32) (kb : ClassId) (h0 : Heap) (n0 : Nat) (v : Option Value) (h : Heap) (L : List Loc) : Prop := v = some (.int z2) ∧ Fr n0 L ∧ Keep h0 h [o2] ∧ KF Z h0 h [(o2, (z0).toNatClampNeg), (o2, (z1).toNatClampNeg)] ∧ Arv Z h o2 kb .byte z2 [(.int (nar .byte (c0.toInt8.toInt32))), (.int (nar .byte (c1.toInt8.toInt32)))] (.int z0)
theorem rm32c (l : Launch) (Z : State) (a0 : Array Value) (hw : ∀ d ∈ tables_1, d.before a0 Z = true) (ws : List Jvm.Cond) (o0 : Addr) (o2 : Addr) (ka : ClassId) (c0 : Int32) (c1 : Int32) (kb : ClassId) (h0 : Heap) (n0 : Nat) (Z0 : n0 ≤ h0.size) (A_c : Arv Z h0 o0 ka .char z2 [(.int c0), (.int c1)] (.int z0)) (A_d : Arv Z h0 o2 kb .byte z2 [(.int z0), (.int z0)] (.int z0)) (n_02 : o0 ≠ o2) (g_o2 : n0 ≤ o2) (hle0 : ¬ (z255 < c0)) (hle1 : ¬ (z255 < c1)) :
    MetFree l (⟨cF, "compress", "([CI[BII)I"⟩ : MethodName) (head1 (Jvm.Cond.code (⟨cF, "compress", "([CI[BII)I"⟩ : MethodName) jdk_52_method_21_code 7 (some .int) :: ws) ({ frames := 0, cells := 0, slots := 0, locals := 0 } : Room)) (fun a U => a = #[(.ref o0), (.int z0), (.ref o2), (.int z0), (.int z2)] ∧ Z.Warmed39 U.vm ∧ U.heap = h0) (fun _ _ _ _ _ => True) (fun _ U o U' => ∃ v L, o = .returned v ∧ Q32c Z o0 o2 ka c0 c1 kb h0 n0 v U'.heap L ∧ FrameEnd U o U' L ({ frames := 0, cells := 0, slots := 0, locals := 0 } : Room).cells ({ frames := 0, cells := 0, slots := 0, locals := 0 } : Room).slots) := by
  refine MetFree.of_bodySF (plainFor_of_name pn_32) hisR ?_
  intro p e s m args below meth c s₁ Bd hml0 hP hK
  obtain ⟨rfl, hZ, hh⟩ := hP
  have hx := Bd.exec
  have hby := Bd.bytes
  have hml : c.maxLocals = 7 := hml0
  have hown : s.vm.findClass cF = some m.cls := findClass_of_methodNamed Bd.named
  have hnm := (name_of_methodNamed Bd.named Bd.method).1
  have hrt := Bd.returns
  have hlk := Bd.notSynchronized
  have X0 : Stand p l e ({ frames := 0, cells := 0, slots := 0, locals := 0 } : Room) s m #[(.ref o0), (.int z0), (.ref o2), (.int z0), (.int z2)] below meth c s₁ [] 0 0 := Stand.of_body Bd
  have e0 : s₁.heap = h0 := by rw [← hh, Bd.state]; rfl
  have N0 := Fr.nil n0
  have lt_A_c : LT.lt (α := Nat) o0 h0.size := A_c.lt
  have lt_A_d : LT.lt (α := Nat) o2 h0.size := A_d.lt
  show Go p e below s 0 0 (Q32c Z o0 o2 ka c0 c1 kb h0 n0) (s₁.setTop (entryFrame m #[(.ref o0), (.int z0), (.ref o2), (.int z0), (.int z2)] 7))
  rw [ef_32c m o0 o2]
  refine Go.pre (st' := s₁.setTop (mkF m 12 #[sR o0, sI z0, sR o2, sI z0, sI z2, sI z0, sU] [(.int z0), (.ref o0)])) (fun target kt => ?_) ?_
  · refine XS.iconst X0.here hx rfl (hb hby d32_0) ?_
    refine XS.istore X0.here hx rfl (hb hby d32_1) rfl (l' := #[.val (.ref o0), .val (.int z0), .val (.ref o2), .val (.int z0), .val (.int z2), .val (.int z0), .unset]) rfl ?_
    refine XS.iload X0.here hx rfl (hb hby d32_3) rfl ?_
    refine XS.iload X0.here hx rfl (hb hby d32_5) rfl ?_
    refine XS.icmpNo X0.here hx rfl (hb hby d32_7) rfl (tlt (by decide)).2.1 ?_
    refine XS.aloadN X0.here hx rfl (hb hby d32_10) rfl rfl ?_
    refine XS.iloadN X0.here hx rfl (hb hby d32_11) rfl ?_
    exact kt
  obtain ⟨cl1, Ar1, q1, Sz1, Nn1, Hs1, Gs1⟩ := id A_c
  have in1 := inb_of (j := z0) Sz1 ⟨by decide, by decide⟩
  have at1 : cl1.slots[(z0).toNatClampNeg]? = some (.int c0) := Has.at Hs1 in1 rfl
  refine Go.pre (X0.caload hx (j := z0) (v := (.int c0)) (by rw [e0]; exact Ar1.1) (State.isArrayOf_alike hZ.alike Ar1.2.1) Ar1.2.2 in1 at1 (g := (mkF m 12 #[sR o0, sI z0, sR o2, sI z0, sI z2, sI z0, sU] [(.int z0), (.ref o0)])) rfl rfl (hb hby d32_12)) ?_
  refine Go.pre (st' := s₁.setTop (mkF m 31 #[sR o0, sI z0, sR o2, sI z0, sI z2, sI z0, sI c0] [(.int (c0.toInt8.toInt32)), (.int z0), (.ref o2)])) (fun target kt => ?_) ?_
  · refine XS.istore X0.here hx rfl (hb hby d32_13) rfl (l' := #[.val (.ref o0), .val (.int z0), .val (.ref o2), .val (.int z0), .val (.int z2), .val (.int z0), .val (.int c0)]) rfl ?_
    refine XS.iload X0.here hx rfl (hb hby d32_15) rfl ?_
    refine XS.sipush X0.here hx rfl (hb hby d32_17) ?_
    refine XS.icmpYes X0.here hx rfl (pc0 := 20) (pc' := 26) rfl (hb hby d32_20) rfl (flt hle0).2.2.2 (by decide) (by decide) ?_
    refine XS.aloadN X0.here hx rfl (hb hby d32_26) rfl rfl ?_
    refine XS.iloadN X0.here hx rfl (hb hby d32_27) rfl ?_
    refine XS.iload X0.here hx rfl (hb hby d32_28) rfl ?_
    refine XS.i2b X0.here hx rfl (hb hby d32_30) rfl ?_
    exact kt
  obtain ⟨cl2, Ar2, q2, Sz2, Nn2, Hs2, Gs2⟩ := id A_d
  have in2 := inb_of (j := z0) Sz2 ⟨by decide, by decide⟩
  obtain ⟨T2, h2, X2, e2, W2, st2⟩ := stB X0 hx hZ e0 Ar2 (j := z0) in2 (g := (mkF m 31 #[sR o0, sI z0, sR o2, sI z0, sI z2, sI z0, sI c0] [(.int (c0.toInt8.toInt32)), (.int z0), (.ref o2)])) rfl rfl (hb hby d32_31)
  have sz2 : h0.size ≤ h2.size := (Keep.of_wr W2).1
  have V2 : Arv Z h2 o2 kb .byte z2 [(.int (nar .byte (c0.toInt8.toInt32))), (.int z0)] (.int z0) := Arv.set Ar2 q2 Sz2 Nn2 Hs2 Gs2 (fits_nar_byte _) W2 0 rfl (Nat.le_of_ble_eq_true rfl)
  have N2 := Fr.snoc X2 N0 (by omega)
  refine Go.pre st2 ?_
  refine Go.pre (st' := T2.setTop (mkF m 12 #[sR o0, sI z1, sR o2, sI z1, sI z2, sI z1, sI c0] [(.int z1), (.ref o0)])) (fun target kt => ?_) ?_
  · refine XS.iinc X2.here hx rfl (hb hby d32_32) rfl (l' := #[.val (.ref o0), .val (.int z1), .val (.ref o2), .val (.int z0), .val (.int z2), .val (.int z0), .val (.int c0)]) rfl ?_
    refine XS.iinc X2.here hx rfl (hb hby d32_35) rfl (l' := #[.val (.ref o0), .val (.int z1), .val (.ref o2), .val (.int z1), .val (.int z2), .val (.int z0), .val (.int c0)]) rfl ?_
    refine XS.iinc X2.here hx rfl (hb hby d32_38) rfl (l' := #[.val (.ref o0), .val (.int z1), .val (.ref o2), .val (.int z1), .val (.int z2), .val (.int z1), .val (.int c0)]) rfl ?_
    refine XS.goto X2.here hx rfl (pc0 := 41) (pc' := 3) rfl (hb hby d32_41) (by decide) (by decide) ?_
    refine XS.iload X2.here hx rfl (hb hby d32_3) rfl ?_
    refine XS.iload X2.here hx rfl (hb hby d32_5) rfl ?_
    refine XS.icmpNo X2.here hx rfl (hb hby d32_7) rfl (tlt (by decide)).2.1 ?_
    refine XS.aloadN X2.here hx rfl (hb hby d32_10) rfl rfl ?_
    refine XS.iloadN X2.here hx rfl (hb hby d32_11) rfl ?_
    exact kt
  have Y3 := (A_c.other W2 n_02)
  obtain ⟨cl4, Ar4, q4, Sz4, Nn4, Hs4, Gs4⟩ := id Y3
  have in4 := inb_of (j := z1) Sz4 ⟨by decide, by decide⟩
  have at4 : cl4.slots[(z1).toNatClampNeg]? = some (.int c1) := Has.at Hs4 in4 rfl
  refine Go.pre (X2.caload hx (j := z1) (v := (.int c1)) (by rw [e2]; exact Ar4.1) (State.isArrayOf_alike hZ.alike Ar4.2.1) Ar4.2.2 in4 at4 (g := (mkF m 12 #[sR o0, sI z1, sR o2, sI z1, sI z2, sI z1, sI c0] [(.int z1), (.ref o0)])) rfl rfl (hb hby d32_12)) ?_
  refine Go.pre (st' := T2.setTop (mkF m 31 #[sR o0, sI z1, sR o2, sI z1, sI z2, sI z1, sI c1] [(.int (c1.toInt8.toInt32)), (.int z1), (.ref o2)])) (fun target kt => ?_) ?_
  · refine XS.istore X2.here hx rfl (hb hby d32_13) rfl (l' := #[.val (.ref o0), .val (.int z1), .val (.ref o2), .val (.int z1), .val (.int z2), .val (.int z1), .val (.int c1)]) rfl ?_
    refine XS.iload X2.here hx rfl (hb hby d32_15) rfl ?_
    refine XS.sipush X2.here hx rfl (hb hby d32_17) ?_
    refine XS.icmpYes X2.here hx rfl (pc0 := 20) (pc' := 26) rfl (hb hby d32_20) rfl (flt hle1).2.2.2 (by decide) (by decide) ?_
    refine XS.aloadN X2.here hx rfl (hb hby d32_26) rfl rfl ?_
    refine XS.iloadN X2.here hx rfl (hb hby d32_27) rfl ?_
    refine XS.iload X2.here hx rfl (hb hby d32_28) rfl ?_
    refine XS.i2b X2.here hx rfl (hb hby d32_30) rfl ?_
    exact kt
  obtain ⟨cl5, Ar5, q5, Sz5, Nn5, Hs5, Gs5⟩ := id V2
  have in5 := inb_of (j := z1) Sz5 ⟨by decide, by decide⟩
  obtain ⟨T5, h5, X5, e5, W5, st5⟩ := stB X2 hx hZ e2 Ar5 (j := z1) in5 (g := (mkF m 31 #[sR o0, sI z1, sR o2, sI z1, sI z2, sI z1, sI c1] [(.int (c1.toInt8.toInt32)), (.int z1), (.ref o2)])) rfl rfl (hb hby d32_31)
  have sz5 : h2.size ≤ h5.size := (Keep.of_wr W5).1
  have V5 : Arv Z h5 o2 kb .byte z2 [(.int (nar .byte (c0.toInt8.toInt32))), (.int (nar .byte (c1.toInt8.toInt32)))] (.int z0) := Arv.set Ar5 q5 Sz5 Nn5 Hs5 Gs5 (fits_nar_byte _) W5 1 rfl (Nat.le_of_ble_eq_true rfl)
  have N5 := Fr.snoc X5 N2 (by omega)
  refine Go.pre st5 ?_
  refine Go.pre (st' := T5.setTop (mkF m 46 #[sR o0, sI z2, sR o2, sI z2, sI z2, sI z2, sI c1] [(.int z2)])) (fun target kt => ?_) ?_
  · refine XS.iinc X5.here hx rfl (hb hby d32_32) rfl (l' := #[.val (.ref o0), .val (.int z2), .val (.ref o2), .val (.int z1), .val (.int z2), .val (.int z1), .val (.int c1)]) rfl ?_
    refine XS.iinc X5.here hx rfl (hb hby d32_35) rfl (l' := #[.val (.ref o0), .val (.int z2), .val (.ref o2), .val (.int z2), .val (.int z2), .val (.int z1), .val (.int c1)]) rfl ?_
    refine XS.iinc X5.here hx rfl (hb hby d32_38) rfl (l' := #[.val (.ref o0), .val (.int z2), .val (.ref o2), .val (.int z2), .val (.int z2), .val (.int z2), .val (.int c1)]) rfl ?_
    refine XS.goto X5.here hx rfl (pc0 := 41) (pc' := 3) rfl (hb hby d32_41) (by decide) (by decide) ?_
    refine XS.iload X5.here hx rfl (hb hby d32_3) rfl ?_
    refine XS.iload X5.here hx rfl (hb hby d32_5) rfl ?_
    refine XS.icmpYes X5.here hx rfl (pc0 := 7) (pc' := 44) rfl (hb hby d32_7) rfl (flt (by decide)).2.1 (by decide) (by decide) ?_
    refine XS.iload X5.here hx rfl (hb hby d32_44) rfl ?_
    exact kt
  exact Go.retV X5 hx hlk hrt rfl (Or.inl ⟨rfl, Or.inl rfl, _, rfl⟩) (hb hby d32_46) (by decide) (by decide) (by rw [e5]; exact ⟨rfl, N5, (((Keep.refl h0 [o2]).wr W2 (Or.inl (List.mem_of_getElem? (i := 0) rfl))).wr W5 (Or.inl (List.mem_of_getElem? (i := 0) rfl))), (((KF.refl Z h0 [(o2, (z0).toNatClampNeg), (o2, (z1).toNatClampNeg)]).wr W2 (Or.inl (List.mem_of_getElem? (i := 0) rfl))).wr W5 (Or.inl (List.mem_of_getElem? (i := 1) rfl))), V5⟩)
/-! StringUTF16.compress (31c) -/
theorem d31_0 : decode q18 0 = .ok (.iload_n 2, 1) := by decide +kernel
theorem d31_1 : decode q18 1 = .ok (.newarray .byte, 2) := by decide +kernel
theorem d31_3 : decode q18 3 = .ok (.astore_n 3, 1) := by decide +kernel
theorem d31_4 : decode q18 4 = .ok (.aload_n 0, 1) := by decide +kernel
theorem d31_5 : decode q18 5 = .ok (.iload_n 1, 1) := by decide +kernel
theorem d31_6 : decode q18 6 = .ok (.aload_n 3, 1) := by decide +kernel
theorem d31_7 : decode q18 7 = .ok (.iconst 0, 1) := by decide +kernel
theorem d31_8 : decode q18 8 = .ok (.iload_n 2, 1) := by decide +kernel
theorem d31_9 : decode q18 9 = .ok (.invokestatic 115, 3) := by decide +kernel
theorem d31_12 : decode q18 12 = .ok (.istore 4, 2) := by decide +kernel
theorem d31_14 : decode q18 14 = .ok (.iload 4, 2) := by decide +kernel
theorem d31_16 : decode q18 16 = .ok (.iload_n 2, 1) := by decide +kernel
theorem d31_17 : decode q18 17 = .ok (.if_icmp .eq 40, 3) := by decide +kernel
theorem d31_57 : decode q18 57 = .ok (.aload_n 3, 1) := by decide +kernel
theorem d31_58 : decode q18 58 = .ok (.areturn, 1) := by decide +kernel
theorem pn_31 : plainName "java/lang/StringUTF16" = true := by first | (simp [plainName, overriddenIn]; done) | decide +kernel
theorem pd31c_0 : parseMethodDescriptor "([CI[BII)I" = some ⟨[(.array .char), .int, (.array .byte), .int, .int], some .int⟩ := by decide +kernel
theorem ef_31c (m : MethodId) (o0 : Addr) : entryFrame m #[(.ref o0), (.int (0 : Int32)), (.int (2 : Int32))] 6 = (mkF m 0 #[.val (.ref o0), .val (.int (0 : Int32)), .val (.int (2 : Int32)), .unset, .unset, .unset] []) := by first | (simp [entryFrame, mkF, argsToLocals, Value.category]; done) | rfl
def Q31c (Z : State) (o0 : Addr) (ka : ClassId) (c0 : Int32) (c1 : Int32) (h0 : Heap) (n0 : Nat) (v : Option Value) (h : Heap) (L : List Loc) : Prop := ∃ b1 : Addr, ∃ k1 : ClassId, v = some (.ref b1) ∧ Fr n0 L ∧ Keep h0 h [] ∧ KF Z h0 h [] ∧ LE.le (α := Nat) h0.size b1 ∧ LT.lt (α := Nat) b1 h.size ∧ Arv Z h b1 k1 .byte z2 [(.int (nar .byte (c0.toInt8.toInt32))), (.int (nar .byte (c1.toInt8.toInt32)))] (.int z0)
theorem rm31c (l : Launch) (Z : State) (a0 : Array Value) (hw : ∀ d ∈ tables_1, d.before a0 Z = true) (ws : List Jvm.Cond) (o0 : Addr) (ka : ClassId) (c0 : Int32) (c1 : Int32) (h0 : Heap) (n0 : Nat) (Z0 : n0 ≤ h0.size) (A_c : Arv Z h0 o0 ka .char z2 [(.int c0), (.int c1)] (.int z0)) (hle0 : ¬ (z255 < c0)) (hle1 : ¬ (z255 < c1)) :
    MetFree l (⟨cF, "compress", "([CII)[B"⟩ : MethodName) (head1 (Jvm.Cond.code (⟨cF, "compress", "([CII)[B"⟩ : MethodName) jdk_52_method_16_code 6 (some (.array .byte)) :: ws) ({ frames := 1, cells := 1, slots := 2, locals := 18 } : Room)) (fun a U => a = #[(.ref o0), (.int z0), (.int z2)] ∧ Z.Warmed39 U.vm ∧ U.heap = h0) (fun _ _ _ _ _ => True) (fun _ U o U' => ∃ v L, o = .returned v ∧ Q31c Z o0 ka c0 c1 h0 n0 v U'.heap L ∧ FrameEnd U o U' L ({ frames := 1, cells := 1, slots := 2, locals := 18 } : Room).cells ({ frames := 1, cells := 1, slots := 2, locals := 18 } : Room).slots) := by
  refine MetFree.of_bodySF (plainFor_of_name pn_31) hisR ?_
  intro p e s m args below meth c s₁ Bd hml0 hP hK
  obtain ⟨rfl, hZ, hh⟩ := hP
  have hx := Bd.exec
  have hby := Bd.bytes
  have hml : c.maxLocals = 6 := hml0
  have hown : s.vm.findClass cF = some m.cls := findClass_of_methodNamed Bd.named
  have hnm := (name_of_methodNamed Bd.named Bd.method).1
  have hrt := Bd.returns
  have hlk := Bd.notSynchronized
  have X0 : Stand p l e ({ frames := 1, cells := 1, slots := 2, locals := 18 } : Room) s m #[(.ref o0), (.int z0), (.int z2)] below meth c s₁ [] 0 0 := Stand.of_body Bd
  have e0 : s₁.heap = h0 := by rw [← hh, Bd.state]; rfl
  have N0 := Fr.nil n0
  have lt_A_c : LT.lt (α := Nat) o0 h0.size := A_c.lt
  show Go p e below s 1 2 (Q31c Z o0 ka c0 c1 h0 n0) (s₁.setTop (entryFrame m #[(.ref o0), (.int z0), (.int z2)] 6))
  rw [ef_31c m o0]
  refine Go.pre (st' := s₁.setTop (mkF m 1 #[sR o0, sI z0, sI z2, sU, sU, sU] [(.int z2)])) (fun target kt => ?_) ?_
  · refine XS.iloadN X0.here hx rfl (hb hby d31_0) rfl ?_
    exact kt
  obtain ⟨T1, h1, k1, X1, e1, E1, A1, st1⟩ := newP X0 hx hZ (ow hw 14 rfl) e0 (g := (mkF m 1 #[sR o0, sI z0, sI z2, sU, sU, sU] [(.int z2)])) rfl (hb hby d31_1) rfl (by decide) (cap := 2) (by decide) (by decide) (by decide) (by decide)
  obtain ⟨b1, g1⟩ : ∃ z, z = h0.size := ⟨_, rfl⟩
  rw [← g1] at A1 st1
  have sz1 : h0.size ≤ h1.size := E1.1
  have V1 : Arv Z h1 b1 k1 .byte z2 [(.int z0), (.int z0)] (.int z0) := (Arv.new A1 (by decide)).pad (pad_rep [] (.int z0) 2)
  have lt1 : b1 < h1.size := V1.lt
  refine Go.pre st1 ?_
  refine Go.pre (st' := T1.setTop (mkF m 9 #[sR o0, sI z0, sI z2, sR b1, sU, sU] [(.int z2), (.int z0), (.ref b1), (.int z0), (.ref o0)])) (fun target kt => ?_) ?_
  · refine XS.astoreN X1.here hx rfl (hb hby d31_3) rfl rfl (l' := #[.val (.ref o0), .val (.int z0), .val (.int z2), .val (.ref b1), .unset, .unset]) rfl ?_
    refine XS.aloadN X1.here hx rfl (hb hby d31_4) rfl rfl ?_
    refine XS.iloadN X1.here hx rfl (hb hby d31_5) rfl ?_
    refine XS.aloadN X1.here hx rfl (hb hby d31_6) rfl rfl ?_
    refine XS.iconst X1.here hx rfl (hb hby d31_7) ?_
    refine XS.iloadN X1.here hx rfl (hb hby d31_8) rfl ?_
    exact kt
  have Y3 := (A_c.ext E1)
  obtain ⟨_, _, ⟨T2, L2, k2, n2⟩, -, X2, ⟨Lc2, hQ2, l2, y2, z2⟩, st2⟩ := Jvm.LawKit.callS X1 hx (y := (⟨cF, "compress", "([CI[BII)I"⟩ : MethodName)) hown (mvT hZ (ow hw 173 rfl)) (mvT hZ (ow hw 174 rfl)) (mvT hZ (ow hw 171 rfl)) (mvT hZ (ow hw 175 rfl)) (by decide) (backOf (W := 0) (rm32c l Z a0 hw [] o0 b1 ka c0 c1 k1 h1 n0 (by omega) Y3 V1 (neN (by omega)) (by omega) hle0 hle1) hZ (ow hw 175 rfl) (ow hw 171 rfl) (by decide) (by decide)) (g := (mkF m 9 #[sR o0, sI z0, sI z2, sR b1, sU, sU] [(.int z2), (.int z0), (.ref b1), (.int z0), (.ref o0)])) rfl (by rw [hml]; rfl) (argsL := [(.ref o0), (.int z0), (.ref b1), (.int z0), (.int z2)]) (rest := []) (lenOf pd31c_0 rfl) rfl (le0 rfl) (hb hby d31_9) (fun vm₁ hvm => ⟨rfl, e1, (by decide : 1 + 0 ≤ _), (by decide : 2 + 0 ≤ _)⟩)
  dsimp only [Pt.U, Pt.locs, Pt.cells, Pt.slots] at X2 l2 y2 z2 st2 hQ2
  subst l2 y2 z2
  obtain ⟨rfl, N2q, K2, KF2, Y2_0⟩ := hQ2
  have sz2 : h1.size ≤ T2.heap.size := K2.1
  have N2 := Fr.app N0 N2q
  refine Go.pre st2 ?_
  refine Go.pre (st' := T2.setTop (mkF m 58 #[sR o0, sI z0, sI z2, sR b1, sI z2, sU] [(.ref b1)])) (fun target kt => ?_) ?_
  · refine XS.istore X2.here hx rfl (hb hby d31_12) rfl (l' := #[.val (.ref o0), .val (.int z0), .val (.int z2), .val (.ref b1), .val (.int z2), .unset]) rfl ?_
    refine XS.iload X2.here hx rfl (hb hby d31_14) rfl ?_
    refine XS.iloadN X2.here hx rfl (hb hby d31_16) rfl ?_
    refine XS.icmpYes X2.here hx rfl (pc0 := 17) (pc' := 57) rfl (hb hby d31_17) rfl (teq (by decide)).1 (by decide) (by decide) ?_
    refine XS.aloadN X2.here hx rfl (hb hby d31_57) rfl rfl ?_
    exact kt
  exact Go.retV X2 hx hlk hrt rfl (Or.inr (Or.inr (Or.inr (Or.inr ⟨rfl, rfl, rfl⟩)))) (hb hby d31_58) (by decide) (by decide) (by exact ⟨b1, k1, rfl, N2, (((Keep.refl h0 []).ext E1).trans K2 (allS (Or.inr (by omega)) all0)), (((KF.refl Z h0 []).ext E1).trans KF2 (pallS (Or.inr (by show _ ≤ b1; omega)) (pallS (Or.inr (by show _ ≤ b1; omega)) pall0))), by omega, by omega, Y2_0⟩)
/-! StringUTF16.coderFromArrayLen (33c) -/
theorem d33_0 : decode q17 0 = .ok (.iload_n 1, 1) := by decide +kernel
theorem d33_1 : decode q17 1 = .ok (.aload_n 0, 1) := by decide +kernel
theorem d33_2 : decode q17 2 = .ok (.arraylength, 1) := by decide +kernel
theorem d33_3 : decode q17 3 = .ok (.isub, 1) := by decide +kernel
theorem d33_4 : decode q17 4 = .ok (.bipush 31, 2) := by decide +kernel
theorem d33_6 : decode q17 6 = .ok (.iushr, 1) := by decide +kernel
theorem d33_7 : decode q17 7 = .ok (.i2b, 1) := by decide +kernel
theorem d33_8 : decode q17 8 = .ok (.ireturn, 1) := by decide +kernel
theorem pn_33 : plainName "java/lang/StringUTF16" = true := by first | (simp [plainName, overriddenIn]; done) | decide +kernel
theorem ef_33c (m : MethodId) (o0 : Addr) : entryFrame m #[(.ref o0), (.int (2 : Int32))] 2 = (mkF m 0 #[.val (.ref o0), .val (.int (2 : Int32))] []) := by first | (simp [entryFrame, mkF, argsToLocals, Value.category]; done) | rfl
def Q33c (Z : State) (o0 : Addr) (ka : ClassId) (c0 : Int32) (c1 : Int32) (h0 : Heap) (n0 : Nat) (v : Option Value) (h : Heap) (L : List Loc) : Prop := v = some (.int (nar .byte z0)) ∧ Fr n0 L ∧ h = h0
theorem rm33c (l : Launch) (Z : State) (a0 : Array Value) (hw : ∀ d ∈ tables_1, d.before a0 Z = true) (ws : List Jvm.Cond) (o0 : Addr) (ka : ClassId) (c0 : Int32) (c1 : Int32) (h0 : Heap) (n0 : Nat) (Z0 : n0 ≤ h0.size) (A_c : Arv Z h0 o0 ka .byte z2 [(.int c0), (.int c1)] (.int z0)) :
    MetFree l (⟨cF, "coderFromArrayLen", "([BI)B"⟩ : MethodName) (head1 (Jvm.Cond.code (⟨cF, "coderFromArrayLen", "([BI)B"⟩ : MethodName) jdk_52_method_15_code 2 (some .byte) :: ws) ({ frames := 0, cells := 0, slots := 0, locals := 0 } : Room)) (fun a U => a = #[(.ref o0), (.int z2)] ∧ Z.Warmed39 U.vm ∧ U.heap = h0) (fun _ _ _ _ _ => True) (fun _ U o U' => ∃ v L, o = .returned v ∧ Q33c Z o0 ka c0 c1 h0 n0 v U'.heap L ∧ FrameEnd U o U' L ({ frames := 0, cells := 0, slots := 0, locals := 0 } : Room).cells ({ frames := 0, cells := 0, slots := 0, locals := 0 } : Room).slots) := by
  refine MetFree.of_bodySF (plainFor_of_name pn_33) hisR ?_
  intro p e s m args below meth c s₁ Bd hml0 hP hK
  obtain ⟨rfl, hZ, hh⟩ := hP
  have hx := Bd.exec
  have hby := Bd.bytes
  have hml : c.maxLocals = 2 := hml0
  have hown : s.vm.findClass cF = some m.cls := findClass_of_methodNamed Bd.named
  have hnm := (name_of_methodNamed Bd.named Bd.method).1
  have hrt := Bd.returns
  have hlk := Bd.notSynchronized
  have X0 : Stand p l e ({ frames := 0, cells := 0, slots := 0, locals := 0 } : Room) s m #[(.ref o0), (.int z2)] below meth c s₁ [] 0 0 := Stand.of_body Bd
  have e0 : s₁.heap = h0 := by rw [← hh, Bd.state]; rfl
  have N0 := Fr.nil n0
  have lt_A_c : LT.lt (α := Nat) o0 h0.size := A_c.lt
  show Go p e below s 0 0 (Q33c Z o0 ka c0 c1 h0 n0) (s₁.setTop (entryFrame m #[(.ref o0), (.int z2)] 2))
  rw [ef_33c m o0]
  refine Go.pre (st' := s₁.setTop (mkF m 2 #[sR o0, sI z2] [(.ref o0), (.int z2)])) (fun target kt => ?_) ?_
  · refine XS.iloadN X0.here hx rfl (hb hby d33_0) rfl ?_
    refine XS.aloadN X0.here hx rfl (hb hby d33_1) rfl rfl ?_
    exact kt
  obtain ⟨cl1, Ar1, -, Sz1, Nn1, -, -⟩ := id A_c
  have st1 := X0.arraylength hx (by rw [e0]; exact Ar1.1) (State.isArrayOf_alike hZ.alike Ar1.2.1) (g := (mkF m 2 #[sR o0, sI z2] [(.ref o0), (.int z2)])) rfl rfl (hb hby d33_2)
  rw [len_of Sz1 Nn1] at st1
  refine Go.pre st1 ?_
  refine Go.pre (st' := s₁.setTop (mkF m 8 #[sR o0, sI z2] [(.int z0)])) (fun target kt => ?_) ?_
  · refine XS.isub X0.here hx rfl (hb hby d33_3) rfl ?_
    refine XS.bipush X0.here hx rfl (hb hby d33_4) ?_
    refine XS.iushr X0.here hx rfl (hb hby d33_6) rfl ?_
    refine XS.i2b X0.here hx rfl (hb hby d33_7) rfl ?_
    exact kt
  exact Go.retN X0 hx hlk hrt (z' := (nar .byte z0)) (by simp) (hb hby d33_8) rfl (by decide) (by decide) (by rw [e0]; exact ⟨rfl, N0, rfl⟩)
/-! String.<init> (22c) -/
theorem d22_0 : decode q4 0 = .ok (.aload_n 0, 1) := by decide +kernel
theorem d22_1 : decode q4 1 = .ok (.invokespecial 1, 3) := by decide +kernel
theorem d22_4 : decode q4 4 = .ok (.iload_n 3, 1) := by decide +kernel
theorem d22_5 : decode q4 5 = .ok (.ifCond .ne 22, 3) := by decide +kernel
theorem d22_27 : decode q4 27 = .ok (.getstatic 38, 3) := by decide +kernel
theorem d22_30 : decode q4 30 = .ok (.ifCond .eq 28, 3) := by decide +kernel
theorem d22_33 : decode q4 33 = .ok (.aload_n 1, 1) := by decide +kernel
theorem d22_34 : decode q4 34 = .ok (.iload_n 2, 1) := by decide +kernel
theorem d22_35 : decode q4 35 = .ok (.iload_n 3, 1) := by decide +kernel
theorem d22_36 : decode q4 36 = .ok (.invokestatic 177, 3) := by decide +kernel
theorem d22_39 : decode q4 39 = .ok (.astore 5, 2) := by decide +kernel
theorem d22_41 : decode q4 41 = .ok (.aload_n 0, 1) := by decide +kernel
theorem d22_42 : decode q4 42 = .ok (.aload 5, 2) := by decide +kernel
theorem d22_44 : decode q4 44 = .ok (.iload_n 3, 1) := by decide +kernel
theorem d22_45 : decode q4 45 = .ok (.invokestatic 47, 3) := by decide +kernel
theorem d22_48 : decode q4 48 = .ok (.putfield 15, 3) := by decide +kernel
theorem d22_51 : decode q4 51 = .ok (.aload_n 0, 1) := by decide +kernel
theorem d22_52 : decode q4 52 = .ok (.aload 5, 2) := by decide +kernel
theorem d22_54 : decode q4 54 = .ok (.putfield 9, 3) := by decide +kernel
theorem d22_57 : decode q4 57 = .ok (.return_, 1) := by decide +kernel
theorem pn_22 : plainName "java/lang/String" = true := by first | (simp [plainName, overriddenIn]; done) | decide +kernel
theorem pd22c_0 : parseMethodDescriptor "([CII)[B" = some ⟨[(.array .char), .int, .int], some (.array .byte)⟩ := by decide +kernel
theorem pd22c_1 : parseMethodDescriptor "([BI)B" = some ⟨[(.array .byte), .int], some .byte⟩ := by decide +kernel
theorem ef_22c (m : MethodId) (o0 : Addr) (o1 : Addr) : entryFrame m #[(.ref o0), (.ref o1), (.int (0 : Int32)), (.int (2 : Int32)), .null] 6 = (mkF m 0 #[.val (.ref o0), .val (.ref o1), .val (.int (0 : Int32)), .val (.int (2 : Int32)), .val .null, .unset] []) := by first | (simp [entryFrame, mkF, argsToLocals, Value.category]; done) | rfl
def Q22c (Z : State) (o0 : Addr) (o1 : Addr) (ka : ClassId) (c0 : Int32) (c1 : Int32) (zc : Int32) (u5 : Value) (u10 : Value) (h0 : Heap) (n0 : Nat) (v : Option Value) (h : Heap) (L : List Loc) : Prop := ∃ b3_0 : Addr, ∃ k3_0 : ClassId, v = none ∧ Fr n0 L ∧ Keep h0 h [o0] ∧ KF Z h0 h [(o0, Jvm.RoadKit.slotOf Z cB "coder" "B"), (o0, Jvm.RoadKit.slotOf Z cB "value" "[B")] ∧ LE.le (α := Nat) h0.size b3_0 ∧ LT.lt (α := Nat) b3_0 h.size ∧ Fld Z h o0 cB "coder" "B" (.int (nar .byte (nar .byte z0))) ∧ Fld Z h o0 cB "value" "[B" (.ref b3_0) ∧ Arv Z h b3_0 k3_0 .byte z2 [(.int (nar .byte (c0.toInt8.toInt32))), (.int (nar .byte (c1.toInt8.toInt32)))] (.int z0)
theorem rm22c (l : Launch) (Z : State) (a0 : Array Value) (hw : ∀ d ∈ tables_1, d.before a0 Z = true) (ws : List Jvm.Cond) (o0 : Addr) (o1 : Addr) (ka : ClassId) (c0 : Int32) (c1 : Int32) (zc : Int32) (u5 : Value) (u10 : Value) (h0 : Heap) (n0 : Nat) (Z0 : n0 ≤ h0.size) (A_c : Arv Z h0 o1 ka .char z2 [(.int c0), (.int c1)] (.int z0)) (S_COMPACT : Sta Z Z.heap cB "COMPACT_STRINGS" "Z" (.int zc)) (Ol : Old Z n0 h0) (F_coder_o0 : Fld Z h0 o0 cB "coder" "B" u5) (E_o0 : Exa Z h0 o0 cB) (g_o0 : n0 ≤ o0) (F_value_o0 : Fld Z h0 o0 cB "value" "[B" u10) (hle0 : ¬ (z255 < c0)) (hle1 : ¬ (z255 < c1)) (hc30 : ¬ (zc = z0)) :
    MetFree l (⟨cB, "<init>", "([CIILjava/lang/Void;)V"⟩ : MethodName) (head1 (Jvm.Cond.code (⟨cB, "<init>", "([CIILjava/lang/Void;)V"⟩ : MethodName) jdk_42_method_149_code 6 none :: ws) ({ frames := 2, cells := 1, slots := 2, locals := 35 } : Room)) (fun a U => a = #[(.ref o0), (.ref o1), (.int z0), (.int z2), .null] ∧ Z.Warmed39 U.vm ∧ U.heap = h0) (fun _ _ _ _ _ => True) (fun _ U o U' => ∃ v L, o = .returned v ∧ Q22c Z o0 o1 ka c0 c1 zc u5 u10 h0 n0 v U'.heap L ∧ FrameEnd U o U' L ({ frames := 2, cells := 1, slots := 2, locals := 35 } : Room).cells ({ frames := 2, cells := 1, slots := 2, locals := 35 } : Room).slots) := by
  refine MetFree.of_bodySF (plainFor_of_name pn_22) hisR ?_
  intro p e s m args below meth c s₁ Bd hml0 hP hK
  obtain ⟨rfl, hZ, hh⟩ := hP
  have hx := Bd.exec
  have hby := Bd.bytes
  have hml : c.maxLocals = 6 := hml0
  have hown : s.vm.findClass cB = some m.cls := findClass_of_methodNamed Bd.named
  have hnm := (name_of_methodNamed Bd.named Bd.method).1
  have hrt := Bd.returns
  have hlk := Bd.notSynchronized
  have X0 : Stand p l e ({ frames := 2, cells := 1, slots := 2, locals := 35 } : Room) s m #[(.ref o0), (.ref o1), (.int z0), (.int z2), .null] below meth c s₁ [] 0 0 := Stand.of_body Bd
  have e0 : s₁.heap = h0 := by rw [← hh, Bd.state]; rfl
  have N0 := Fr.nil n0
  have lt_A_c : LT.lt (α := Nat) o1 h0.size := A_c.lt
  have lt_F_coder_o0 : LT.lt (α := Nat) o0 h0.size := F_coder_o0.lt
  show Go p e below s 1 2 (Q22c Z o0 o1 ka c0 c1 zc u5 u10 h0 n0) (s₁.setTop (entryFrame m #[(.ref o0), (.ref o1), (.int z0), (.int z2), .null] 6))
  rw [ef_22c m o0 o1]
  refine Go.pre (st' := s₁.setTop (mkF m 1 #[sR o0, sR o1, sI z0, sI z2, sN, sU] [(.ref o0)])) (fun target kt => ?_) ?_
  · refine XS.aloadN X0.here hx rfl (hb hby d22_0) rfl rfl ?_
    exact kt
  obtain ⟨T1, X1, e1, st1⟩ := initO X0 hx hZ hown (ow hw 19 rfl) (ow hw 20 rfl) (ow hw 21 rfl) e0 (g := (mkF m 1 #[sR o0, sR o1, sI z0, sI z2, sN, sU] [(.ref o0)])) rfl (by rw [hml]; rfl) rfl (hb hby d22_1) (by decide) (W := 0) (le0 rfl) (by decide)
  refine Go.pre st1 ?_
  refine Go.pre (st' := T1.setTop (mkF m 27 #[sR o0, sR o1, sI z0, sI z2, sN, sU] [])) (fun target kt => ?_) ?_
  · refine XS.iloadN X1.here hx rfl (hb hby d22_4) rfl ?_
    refine XS.ifYes X1.here hx rfl (pc0 := 5) (pc' := 27) rfl (hb hby d22_5) rfl ((if0 _ _).trans (feq (by decide)).2) (by decide) (by decide) ?_
    exact kt
  obtain ⟨T2, X2, e2, st2⟩ := getS2 X1 hx hZ hown (host := "") (Or.inl (ow hw 4 rfl)) Via.refl e1 (S_COMPACT.ext Ol.2) (g := (mkF m 27 #[sR o0, sR o1, sI z0, sI z2, sN, sU] [])) rfl (hb hby d22_27)
  refine Go.pre st2 ?_
  refine Go.pre (st' := T2.setTop (mkF m 36 #[sR o0, sR o1, sI z0, sI z2, sN, sU] [(.int z2), (.int z0), (.ref o1)])) (fun target kt => ?_) ?_
  · refine XS.ifNo X2.here hx rfl (hb hby d22_30) rfl ((if0 _ _).trans (feq hc30).1) ?_
    refine XS.aloadN X2.here hx rfl (hb hby d22_33) rfl rfl ?_
    refine XS.iloadN X2.here hx rfl (hb hby d22_34) rfl ?_
    refine XS.iloadN X2.here hx rfl (hb hby d22_35) rfl ?_
    exact kt
  obtain ⟨_, _, ⟨T3, L3, k3, n3⟩, -, X3, ⟨Lc3, hQ3, l3, y3, z3⟩, st3⟩ := Jvm.LawKit.callS X2 hx (y := (⟨cF, "compress", "([CII)[B"⟩ : MethodName)) hown (mvT hZ (ow hw 169 rfl)) (mvT hZ (ow hw 170 rfl)) (mvT hZ (ow hw 171 rfl)) (mvT hZ (ow hw 172 rfl)) (by decide) (backOf (W := 0) (rm31c l Z a0 hw [] o1 ka c0 c1 h0 n0 (by omega) A_c hle0 hle1) hZ (ow hw 172 rfl) (ow hw 171 rfl) (by decide) (by decide)) (g := (mkF m 36 #[sR o0, sR o1, sI z0, sI z2, sN, sU] [(.int z2), (.int z0), (.ref o1)])) rfl (by rw [hml]; rfl) (argsL := [(.ref o1), (.int z0), (.int z2)]) (rest := []) (lenOf pd22c_0 rfl) rfl (le0 rfl) (hb hby d22_36) (fun vm₁ hvm => ⟨rfl, e2, (by decide : 0 + 1 ≤ _), (by decide : 0 + 2 ≤ _)⟩)
  dsimp only [Pt.U, Pt.locs, Pt.cells, Pt.slots] at X3 l3 y3 z3 st3 hQ3
  subst l3 y3 z3
  obtain ⟨b3_0, k3_0, rfl, N3q, K3, KF3, gb3_0, ltb3_0, Y3_0⟩ := hQ3
  have sz3 : h0.size ≤ T3.heap.size := K3.1
  have N3 := Fr.app N0 N3q
  refine Go.pre st3 ?_
  refine Go.pre (st' := T3.setTop (mkF m 45 #[sR o0, sR o1, sI z0, sI z2, sN, sR b3_0] [(.int z2), (.ref b3_0), (.ref o0)])) (fun target kt => ?_) ?_
  · refine XS.astore X3.here hx rfl (hb hby d22_39) rfl rfl (l' := #[.val (.ref o0), .val (.ref o1), .val (.int z0), .val (.int z2), .val .null, .val (.ref b3_0)]) rfl ?_
    refine XS.aloadN X3.here hx rfl (hb hby d22_41) rfl rfl ?_
    refine XS.aload X3.here hx rfl (hb hby d22_42) rfl rfl ?_
    refine XS.iloadN X3.here hx rfl (hb hby d22_44) rfl ?_
    exact kt
  obtain ⟨_, _, ⟨T4, L4, k4, n4⟩, -, X4, ⟨Lc4, hQ4, l4, y4, z4⟩, st4⟩ := Jvm.LawKit.callS X3 hx (y := (⟨cF, "coderFromArrayLen", "([BI)B"⟩ : MethodName)) hown (mvT hZ (ow hw 176 rfl)) (mvT hZ (ow hw 177 rfl)) (mvT hZ (ow hw 171 rfl)) (mvT hZ (ow hw 178 rfl)) (by decide) (backOf (W := 1) (rm33c l Z a0 hw [] b3_0 k3_0 (nar .byte (c0.toInt8.toInt32)) (nar .byte (c1.toInt8.toInt32)) T3.heap n0 (by omega) Y3_0) hZ (ow hw 178 rfl) (ow hw 171 rfl) (by decide) (by decide)) (g := (mkF m 45 #[sR o0, sR o1, sI z0, sI z2, sN, sR b3_0] [(.int z2), (.ref b3_0), (.ref o0)])) rfl (by rw [hml]; rfl) (argsL := [(.ref b3_0), (.int z2)]) (rest := [(.ref o0)]) (lenOf pd22c_1 rfl) rfl (le0 rfl) (hb hby d22_45) (fun vm₁ hvm => ⟨rfl, rfl, (by decide : 1 + 0 ≤ _), (by decide : 2 + 0 ≤ _)⟩)
  dsimp only [Pt.U, Pt.locs, Pt.cells, Pt.slots] at X4 l4 y4 z4 st4 hQ4
  subst l4 y4 z4
  obtain ⟨rfl, N4q, e4⟩ := hQ4
  have N4 := Fr.app N3 N4q
  refine Go.pre st4 ?_
  have Y6 := (F_coder_o0.keep K3 nin0)
  have Y7 := (E_o0.keep K3)
  obtain ⟨T8, h8, X8, e8, W8, st8⟩ := putFN X4 hx hZ hown (ow hw 24 rfl) Via.refl e4 Y6 Y7 (Or.inr ⟨(ow hw 25 rfl), rfl, hnm⟩) (ow hw 10 rfl) (ty := .byte) (v' := (.int (nar .byte (nar .byte z0)))) (by decide) rfl (fits_nar_byte _) (g := (mkF m 48 #[sR o0, sR o1, sI z0, sI z2, sN, sR b3_0] [(.int (nar .byte z0)), (.ref o0)])) rfl rfl (hb hby d22_48)
  have sz8 : T3.heap.size ≤ h8.size := (Keep.of_wr W8).1
  have Y9 : Fld Z h8 o0 cB "coder" "B" (.int (nar .byte (nar .byte z0))) := Y6.same W8
  have N8 := Fr.snoc X8 N4 (by omega)
  refine Go.pre st8 ?_
  refine Go.pre (st' := T8.setTop (mkF m 54 #[sR o0, sR o1, sI z0, sI z2, sN, sR b3_0] [(.ref b3_0), (.ref o0)])) (fun target kt => ?_) ?_
  · refine XS.aloadN X8.here hx rfl (hb hby d22_51) rfl rfl ?_
    refine XS.aload X8.here hx rfl (hb hby d22_52) rfl rfl ?_
    exact kt
  have Y11 := ((F_value_o0.keep K3 nin0).other W8 (Or.inr (slot_ne (Or.inr (ow hw 23 rfl)) (Or.inr (ow hw 25 rfl)) (by decide) (t := (.array .byte)) (t' := .byte) (by decide) (by decide))))
  have Y12 := (Y7.wr W8)
  obtain ⟨T13, h13, X13, e13, W13, st13⟩ := putF X8 hx hZ hown (host := "") (Or.inl (ow hw 22 rfl)) Via.refl e8 Y11 Y12 (Or.inr ⟨(ow hw 23 rfl), rfl, hnm⟩) (ow hw 10 rfl) (ty := (.array .byte)) (by decide) rfl rfl (g := (mkF m 54 #[sR o0, sR o1, sI z0, sI z2, sN, sR b3_0] [(.ref b3_0), (.ref o0)])) rfl rfl (hb hby d22_54)
  have sz13 : h8.size ≤ h13.size := (Keep.of_wr W13).1
  have Y14 : Fld Z h13 o0 cB "value" "[B" (.ref b3_0) := Y11.same W13
  have N13 := Fr.snoc X13 N8 (by omega)
  refine Go.pre st13 ?_
  have Y15 := (Y9.other W13 (Or.inr (slot_ne (Or.inr (ow hw 25 rfl)) (Or.inr (ow hw 23 rfl)) (by decide) (t := .byte) (t' := (.array .byte)) (by decide) (by decide))))
  have Y16 := ((Y3_0.other W8 (neN (by omega))).other W13 (neN (by omega)))
  exact Go.ret0 X13 hx hlk hrt (hb hby d22_57) (by decide) (by decide) (by rw [e13]; exact ⟨b3_0, k3_0, rfl, N13, ((((Keep.refl h0 [o0]).trans K3 all0).wr W8 (Or.inl (List.mem_of_getElem? (i := 0) rfl))).wr W13 (Or.inl (List.mem_of_getElem? (i := 0) rfl))), ((((KF.refl Z h0 [(o0, Jvm.RoadKit.slotOf Z cB "coder" "B"), (o0, Jvm.RoadKit.slotOf Z cB "value" "[B")]).trans KF3 pall0).wr W8 (Or.inl (List.mem_of_getElem? (i := 0) rfl))).wr W13 (Or.inl (List.mem_of_getElem? (i := 1) rfl))), by omega, by omega, Y15, Y14, Y16⟩)
/-! String.<init> (30c) -/
theorem d30_0 : decode q8 0 = .ok (.aload_n 0, 1) := by decide +kernel
theorem d30_1 : decode q8 1 = .ok (.aload_n 1, 1) := by decide +kernel
theorem d30_2 : decode q8 2 = .ok (.iconst 0, 1) := by decide +kernel
theorem d30_3 : decode q8 3 = .ok (.aload_n 1, 1) := by decide +kernel
theorem d30_4 : decode q8 4 = .ok (.arraylength, 1) := by decide +kernel
theorem d30_5 : decode q8 5 = .ok (.aconst_null, 1) := by decide +kernel
theorem d30_6 : decode q8 6 = .ok (.invokespecial 27, 3) := by decide +kernel
theorem d30_9 : decode q8 9 = .ok (.return_, 1) := by decide +kernel
theorem pn_30 : plainName "java/lang/String" = true := by first | (simp [plainName, overriddenIn]; done) | decide +kernel
theorem pd30c_0 : parseMethodDescriptor "([CIILjava/lang/Void;)V" = some ⟨[(.array .char), .int, .int, (.object "java/lang/Void")], none⟩ := by decide +kernel
theorem ef_30c (m : MethodId) (o0 : Addr) (o1 : Addr) : entryFrame m #[(.ref o0), (.ref o1)] 2 = (mkF m 0 #[.val (.ref o0), .val (.ref o1)] []) := by first | (simp [entryFrame, mkF, argsToLocals, Value.category]; done) | rfl
def Q30c (Z : State) (o0 : Addr) (o1 : Addr) (ka : ClassId) (c0 : Int32) (c1 : Int32) (zc : Int32) (u3 : Value) (u4 : Value) (h0 : Heap) (n0 : Nat) (v : Option Value) (h : Heap) (L : List Loc) : Prop := ∃ b2_0 : Addr, ∃ k2_0 : ClassId, v = none ∧ Fr n0 L ∧ Keep h0 h [o0] ∧ KF Z h0 h [(o0, Jvm.RoadKit.slotOf Z cB "coder" "B"), (o0, Jvm.RoadKit.slotOf Z cB "value" "[B")] ∧ LE.le (α := Nat) h0.size b2_0 ∧ LT.lt (α := Nat) b2_0 h.size ∧ Fld Z h o0 cB "coder" "B" (.int (nar .byte (nar .byte z0))) ∧ Fld Z h o0 cB "value" "[B" (.ref b2_0) ∧ Arv Z h b2_0 k2_0 .byte z2 [(.int (nar .byte (c0.toInt8.toInt32))), (.int (nar .byte (c1.toInt8.toInt32)))] (.int z0)
theorem rm30c (l : Launch) (Z : State) (a0 : Array Value) (hw : ∀ d ∈ tables_1, d.before a0 Z = true) (ws : List Jvm.Cond) (o0 : Addr) (o1 : Addr) (ka : ClassId) (c0 : Int32) (c1 : Int32) (zc : Int32) (u3 : Value) (u4 : Value) (h0 : Heap) (n0 : Nat) (Z0 : n0 ≤ h0.size) (A_c : Arv Z h0 o1 ka .char z2 [(.int c0), (.int c1)] (.int z0)) (S_COMPACT : Sta Z Z.heap cB "COMPACT_STRINGS" "Z" (.int zc)) (Ol : Old Z n0 h0) (F_coder_o0 : Fld Z h0 o0 cB "coder" "B" u3) (E_o0 : Exa Z h0 o0 cB) (g_o0 : n0 ≤ o0) (F_value_o0 : Fld Z h0 o0 cB "value" "[B" u4) (hle0 : ¬ (z255 < c0)) (hle1 : ¬ (z255 < c1)) (hcs : ¬ (zc = z0)) :
    MetFree l (⟨cB, "<init>", "([C)V"⟩ : MethodName) (head1 (Jvm.Cond.code (⟨cB, "<init>", "([C)V"⟩ : MethodName) jdk_42_method_3_code 2 none :: ws) ({ frames := 3, cells := 1, slots := 2, locals := 52 } : Room)) (fun a U => a = #[(.ref o0), (.ref o1)] ∧ Z.Warmed39 U.vm ∧ U.heap = h0) (fun _ _ _ _ _ => True) (fun _ U o U' => ∃ v L, o = .returned v ∧ Q30c Z o0 o1 ka c0 c1 zc u3 u4 h0 n0 v U'.heap L ∧ FrameEnd U o U' L ({ frames := 3, cells := 1, slots := 2, locals := 52 } : Room).cells ({ frames := 3, cells := 1, slots := 2, locals := 52 } : Room).slots) := by
  refine MetFree.of_bodySF (plainFor_of_name pn_30) hisR ?_
  intro p e s m args below meth c s₁ Bd hml0 hP hK
  obtain ⟨rfl, hZ, hh⟩ := hP
  have hx := Bd.exec
  have hby := Bd.bytes
  have hml : c.maxLocals = 2 := hml0
  have hown : s.vm.findClass cB = some m.cls := findClass_of_methodNamed Bd.named
  have hnm := (name_of_methodNamed Bd.named Bd.method).1
  have hrt := Bd.returns
  have hlk := Bd.notSynchronized
  have X0 : Stand p l e ({ frames := 3, cells := 1, slots := 2, locals := 52 } : Room) s m #[(.ref o0), (.ref o1)] below meth c s₁ [] 0 0 := Stand.of_body Bd
  have e0 : s₁.heap = h0 := by rw [← hh, Bd.state]; rfl
  have N0 := Fr.nil n0
  have lt_A_c : LT.lt (α := Nat) o1 h0.size := A_c.lt
  have lt_F_coder_o0 : LT.lt (α := Nat) o0 h0.size := F_coder_o0.lt
  show Go p e below s 1 2 (Q30c Z o0 o1 ka c0 c1 zc u3 u4 h0 n0) (s₁.setTop (entryFrame m #[(.ref o0), (.ref o1)] 2))
  rw [ef_30c m o0 o1]
  refine Go.pre (st' := s₁.setTop (mkF m 4 #[sR o0, sR o1] [(.ref o1), (.int z0), (.ref o1), (.ref o0)])) (fun target kt => ?_) ?_
  · refine XS.aloadN X0.here hx rfl (hb hby d30_0) rfl rfl ?_
    refine XS.aloadN X0.here hx rfl (hb hby d30_1) rfl rfl ?_
    refine XS.iconst X0.here hx rfl (hb hby d30_2) ?_
    refine XS.aloadN X0.here hx rfl (hb hby d30_3) rfl rfl ?_
    exact kt
  obtain ⟨cl1, Ar1, -, Sz1, Nn1, -, -⟩ := id A_c
  have st1 := X0.arraylength hx (by rw [e0]; exact Ar1.1) (State.isArrayOf_alike hZ.alike Ar1.2.1) (g := (mkF m 4 #[sR o0, sR o1] [(.ref o1), (.int z0), (.ref o1), (.ref o0)])) rfl rfl (hb hby d30_4)
  rw [len_of Sz1 Nn1] at st1
  refine Go.pre st1 ?_
  refine Go.pre (st' := s₁.setTop (mkF m 6 #[sR o0, sR o1] [.null, (.int z2), (.int z0), (.ref o1), (.ref o0)])) (fun target kt => ?_) ?_
  · refine XS.aconstNull X0.here hx rfl (hb hby d30_5) ?_
    exact kt
  obtain ⟨_, _, ⟨T2, L2, k2, n2⟩, -, X2, ⟨Lc2, hQ2, l2, y2, z2⟩, st2⟩ := X0.specialBack hx (y := (⟨cB, "<init>", "([CIILjava/lang/Void;)V"⟩ : MethodName)) rfl hown (mvT hZ (ow hw 127 rfl)) (mvT hZ (ow hw 128 rfl)) (mvT hZ (ow hw 129 rfl)) (by decide) (backOf (W := 0) (rm22c l Z a0 hw [] o0 o1 ka c0 c1 zc u3 u4 h0 n0 (by omega) A_c S_COMPACT Ol F_coder_o0 E_o0 (by omega) F_value_o0 hle0 hle1 hcs) hZ (ow hw 129 rfl) (ow hw 2 rfl) (by decide) (by decide)) (g := (mkF m 6 #[sR o0, sR o1] [.null, (.int z2), (.int z0), (.ref o1), (.ref o0)])) rfl (by rw [hml]; rfl) (Steps.refl _) (a := o0) (argsL := [(.ref o1), (.int z0), (.int z2), .null]) (rest := []) (lenOf pd30c_0 rfl) rfl (le0 rfl) (hb hby d30_6) (fun vm₁ hvm => ⟨rfl, e0, (by decide : 0 + 1 ≤ _), (by decide : 0 + 2 ≤ _)⟩)
  dsimp only [Pt.U, Pt.locs, Pt.cells, Pt.slots] at X2 l2 y2 z2 st2 hQ2
  subst l2 y2 z2
  obtain ⟨b2_0, k2_0, rfl, N2q, K2, KF2, gb2_0, ltb2_0, Y2_0, Y2_1, Y2_2⟩ := hQ2
  have sz2 : h0.size ≤ T2.heap.size := K2.1
  have N2 := Fr.app N0 N2q
  refine Go.trans st2 ?_
  exact Go.ret0 X2 hx hlk hrt (hb hby d30_9) (by decide) (by decide) (by exact ⟨b2_0, k2_0, rfl, N2, ((Keep.refl h0 [o0]).trans K2 (allS (Or.inl (List.mem_of_getElem? (i := 0) rfl)) all0)), ((KF.refl Z h0 [(o0, Jvm.RoadKit.slotOf Z cB "coder" "B"), (o0, Jvm.RoadKit.slotOf Z cB "value" "[B")]).trans KF2 (pallS (Or.inl (List.mem_of_getElem? (i := 0) rfl)) (pallS (Or.inl (List.mem_of_getElem? (i := 1) rfl)) pall0))), by omega, by omega, Y2_0, Y2_1, Y2_2⟩)
/-! StringLatin1.equals (15_0) -/
theorem d15_0 : decode q13 0 = .ok (.aload_n 0, 1) := by decide +kernel
theorem d15_1 : decode q13 1 = .ok (.arraylength, 1) := by decide +kernel
theorem d15_2 : decode q13 2 = .ok (.aload_n 1, 1) := by decide +kernel
theorem d15_3 : decode q13 3 = .ok (.arraylength, 1) := by decide +kernel
theorem d15_4 : decode q13 4 = .ok (.if_icmp .ne 30, 3) := by decide +kernel
theorem d15_7 : decode q13 7 = .ok (.iconst 0, 1) := by decide +kernel
theorem d15_8 : decode q13 8 = .ok (.istore_n 2, 1) := by decide +kernel
theorem d15_9 : decode q13 9 = .ok (.iload_n 2, 1) := by decide +kernel
theorem d15_10 : decode q13 10 = .ok (.aload_n 0, 1) := by decide +kernel
theorem d15_11 : decode q13 11 = .ok (.arraylength, 1) := by decide +kernel
theorem d15_12 : decode q13 12 = .ok (.if_icmp .ge 20, 3) := by decide +kernel
theorem d15_32 : decode q13 32 = .ok (.iconst 1, 1) := by decide +kernel
theorem d15_33 : decode q13 33 = .ok (.ireturn, 1) := by decide +kernel
theorem pn_15 : plainName "java/lang/StringLatin1" = true := by first | (simp [plainName, overriddenIn]; done) | decide +kernel
theorem ef_15_0 (m : MethodId) (o0 : Addr) (o1 : Addr) : entryFrame m #[(.ref o0), (.ref o1)] 3 = (mkF m 0 #[.val (.ref o0), .val (.ref o1), .unset] []) := by first | (simp [entryFrame, mkF, argsToLocals, Value.category]; done) | rfl
def Q15_0 (Z : State) (o0 : Addr) (o1 : Addr) (ka : ClassId) (kb : ClassId) (h0 : Heap) (n0 : Nat) (v : Option Value) (h : Heap) (L : List Loc) : Prop := v = some (.int z1) ∧ Fr n0 L ∧ h = h0
theorem rm15_0 (l : Launch) (Z : State) (a0 : Array Value) (hw : ∀ d ∈ tables_1, d.before a0 Z = true) (ws : List Jvm.Cond) (o0 : Addr) (o1 : Addr) (ka : ClassId) (kb : ClassId) (h0 : Heap) (n0 : Nat) (Z0 : n0 ≤ h0.size) (A_a : Arv Z h0 o0 ka .byte z0 [] (.int 0)) (A_b : Arv Z h0 o1 kb .byte z0 [] (.int 0)) :
    MetFree l (⟨cG, "equals", "([B[B)Z"⟩ : MethodName) (head1 (Jvm.Cond.code (⟨cG, "equals", "([B[B)Z"⟩ : MethodName) jdk_43_method_13_code 3 (some .boolean) :: ws) ({ frames := 0, cells := 0, slots := 0, locals := 0 } : Room)) (fun a U => a = #[(.ref o0), (.ref o1)] ∧ Z.Warmed39 U.vm ∧ U.heap = h0) (fun _ _ _ _ _ => True) (fun _ U o U' => ∃ v L, o = .returned v ∧ Q15_0 Z o0 o1 ka kb h0 n0 v U'.heap L ∧ FrameEnd U o U' L ({ frames := 0, cells := 0, slots := 0, locals := 0 } : Room).cells ({ frames := 0, cells := 0, slots := 0, locals := 0 } : Room).slots) := by
  refine MetFree.of_bodySF (plainFor_of_name pn_15) hisR ?_
  intro p e s m args below meth c s₁ Bd hml0 hP hK
  obtain ⟨rfl, hZ, hh⟩ := hP
  have hx := Bd.exec
  have hby := Bd.bytes
  have hml : c.maxLocals = 3 := hml0
  have hown : s.vm.findClass cG = some m.cls := findClass_of_methodNamed Bd.named
  have hnm := (name_of_methodNamed Bd.named Bd.method).1
  have hrt := Bd.returns
  have hlk := Bd.notSynchronized
  have X0 : Stand p l e ({ frames := 0, cells := 0, slots := 0, locals := 0 } : Room) s m #[(.ref o0), (.ref o1)] below meth c s₁ [] 0 0 := Stand.of_body Bd
  have e0 : s₁.heap = h0 := by rw [← hh, Bd.state]; rfl
  have N0 := Fr.nil n0
  have lt_A_a : LT.lt (α := Nat) o0 h0.size := A_a.lt
  have lt_A_b : LT.lt (α := Nat) o1 h0.size := A_b.lt
  show Go p e below s 0 0 (Q15_0 Z o0 o1 ka kb h0 n0) (s₁.setTop (entryFrame m #[(.ref o0), (.ref o1)] 3))
  rw [ef_15_0 m o0 o1]
  refine Go.pre (st' := s₁.setTop (mkF m 1 #[sR o0, sR o1, sU] [(.ref o0)])) (fun target kt => ?_) ?_
  · refine XS.aloadN X0.here hx rfl (hb hby d15_0) rfl rfl ?_
    exact kt
  obtain ⟨cl1, Ar1, -, Sz1, Nn1, -, -⟩ := id A_a
  have st1 := X0.arraylength hx (by rw [e0]; exact Ar1.1) (State.isArrayOf_alike hZ.alike Ar1.2.1) (g := (mkF m 1 #[sR o0, sR o1, sU] [(.ref o0)])) rfl rfl (hb hby d15_1)
  rw [len_of Sz1 Nn1] at st1
  refine Go.pre st1 ?_
  refine Go.pre (st' := s₁.setTop (mkF m 3 #[sR o0, sR o1, sU] [(.ref o1), (.int z0)])) (fun target kt => ?_) ?_
  · refine XS.aloadN X0.here hx rfl (hb hby d15_2) rfl rfl ?_
    exact kt
  obtain ⟨cl2, Ar2, -, Sz2, Nn2, -, -⟩ := id A_b
  have st2 := X0.arraylength hx (by rw [e0]; exact Ar2.1) (State.isArrayOf_alike hZ.alike Ar2.2.1) (g := (mkF m 3 #[sR o0, sR o1, sU] [(.ref o1), (.int z0)])) rfl rfl (hb hby d15_3)
  rw [len_of Sz2 Nn2] at st2
  refine Go.pre st2 ?_
  refine Go.pre (st' := s₁.setTop (mkF m 11 #[sR o0, sR o1, sI z0] [(.ref o0), (.int z0)])) (fun target kt => ?_) ?_
  · refine XS.icmpNo X0.here hx rfl (hb hby d15_4) rfl (teq (by decide)).2 ?_
    refine XS.iconst X0.here hx rfl (hb hby d15_7) ?_
    refine XS.istoreN X0.here hx rfl (hb hby d15_8) rfl (l' := #[.val (.ref o0), .val (.ref o1), .val (.int z0)]) rfl ?_
    refine XS.iloadN X0.here hx rfl (hb hby d15_9) rfl ?_
    refine XS.aloadN X0.here hx rfl (hb hby d15_10) rfl rfl ?_
    exact kt
  obtain ⟨cl3, Ar3, -, Sz3, Nn3, -, -⟩ := id A_a
  have st3 := X0.arraylength hx (by rw [e0]; exact Ar3.1) (State.isArrayOf_alike hZ.alike Ar3.2.1) (g := (mkF m 11 #[sR o0, sR o1, sI z0] [(.ref o0), (.int z0)])) rfl rfl (hb hby d15_11)
  rw [len_of Sz3 Nn3] at st3
  refine Go.pre st3 ?_
  refine Go.pre (st' := s₁.setTop (mkF m 33 #[sR o0, sR o1, sI z0] [(.int z1)])) (fun target kt => ?_) ?_
  · refine XS.icmpYes X0.here hx rfl (pc0 := 12) (pc' := 32) rfl (hb hby d15_12) rfl (flt (by decide)).2.1 (by decide) (by decide) ?_
    refine XS.iconst X0.here hx rfl (hb hby d15_32) ?_
    exact kt
  exact Go.retN X0 hx hlk hrt (z' := z1) (by simp) (hb hby d15_33) rfl (by decide) (by decide) (by rw [e0]; exact ⟨rfl, N0, rfl⟩)
/-! String.equals (14_0) -/
theorem d14_0 : decode q11 0 = .ok (.aload_n 0, 1) := by decide +kernel
theorem d14_1 : decode q11 1 = .ok (.aload_n 1, 1) := by decide +kernel
theorem d14_2 : decode q11 2 = .ok (.if_acmp .ne 5, 3) := by decide +kernel
theorem d14_7 : decode q11 7 = .ok (.aload_n 1, 1) := by decide +kernel
theorem d14_8 : decode q11 8 = .ok (.instanceof 10, 3) := by decide +kernel
theorem d14_11 : decode q11 11 = .ok (.ifCond .eq 43, 3) := by decide +kernel
theorem d14_14 : decode q11 14 = .ok (.aload_n 1, 1) := by decide +kernel
theorem d14_15 : decode q11 15 = .ok (.checkcast 10, 3) := by decide +kernel
theorem d14_18 : decode q11 18 = .ok (.astore_n 2, 1) := by decide +kernel
theorem d14_19 : decode q11 19 = .ok (.getstatic 38, 3) := by decide +kernel
theorem d14_22 : decode q11 22 = .ok (.ifCond .eq 14, 3) := by decide +kernel
theorem d14_25 : decode q11 25 = .ok (.aload_n 0, 1) := by decide +kernel
theorem d14_26 : decode q11 26 = .ok (.getfield 15, 3) := by decide +kernel
theorem d14_29 : decode q11 29 = .ok (.aload_n 2, 1) := by decide +kernel
theorem d14_30 : decode q11 30 = .ok (.getfield 15, 3) := by decide +kernel
theorem d14_33 : decode q11 33 = .ok (.if_icmp .ne 21, 3) := by decide +kernel
theorem d14_36 : decode q11 36 = .ok (.aload_n 0, 1) := by decide +kernel
theorem d14_37 : decode q11 37 = .ok (.getfield 9, 3) := by decide +kernel
theorem d14_40 : decode q11 40 = .ok (.aload_n 2, 1) := by decide +kernel
theorem d14_41 : decode q11 41 = .ok (.getfield 9, 3) := by decide +kernel
theorem d14_44 : decode q11 44 = .ok (.invokestatic 541, 3) := by decide +kernel
theorem d14_47 : decode q11 47 = .ok (.ifCond .eq 7, 3) := by decide +kernel
theorem d14_50 : decode q11 50 = .ok (.iconst 1, 1) := by decide +kernel
theorem d14_51 : decode q11 51 = .ok (.goto 4, 3) := by decide +kernel
theorem d14_55 : decode q11 55 = .ok (.ireturn, 1) := by decide +kernel
theorem pn_14 : plainName "java/lang/String" = true := by first | (simp [plainName, overriddenIn]; done) | decide +kernel
theorem pd14_0_0 : parseMethodDescriptor "([B[B)Z" = some ⟨[(.array .byte), (.array .byte)], some .boolean⟩ := by decide +kernel
theorem ef_14_0 (m : MethodId) (o0 : Addr) (o1 : Addr) : entryFrame m #[(.ref o0), (.ref o1)] 3 = (mkF m 0 #[.val (.ref o0), .val (.ref o1), .unset] []) := by first | (simp [entryFrame, mkF, argsToLocals, Value.category]; done) | rfl
def Q14_0 (Z : State) (o0 : Addr) (o1 : Addr) (zc : Int32) (ga : Int32) (va : Addr) (ka : ClassId) (gb : Int32) (vb : Addr) (kb : ClassId) (h0 : Heap) (n0 : Nat) (v : Option Value) (h : Heap) (L : List Loc) : Prop := v = some (.int z1) ∧ Fr n0 L ∧ h = h0
theorem rm14_0 (l : Launch) (Z : State) (a0 : Array Value) (hw : ∀ d ∈ tables_1, d.before a0 Z = true) (ws : List Jvm.Cond) (o0 : Addr) (o1 : Addr) (zc : Int32) (ga : Int32) (va : Addr) (ka : ClassId) (gb : Int32) (vb : Addr) (kb : ClassId) (h0 : Heap) (n0 : Nat) (Z0 : n0 ≤ h0.size) (S_COMPACT : Sta Z Z.heap cB "COMPACT_STRINGS" "Z" (.int zc)) (E_o0 : Exa Z h0 o0 cB) (F_ca : Fld Z h0 o0 cB "coder" "B" (.int ga)) (F_va : Fld Z h0 o0 cB "value" "[B" (.ref va)) (A_a : Arv Z h0 va ka .byte z0 [] (.int 0)) (E_o1 : Exa Z h0 o1 cB) (F_cb : Fld Z h0 o1 cB "coder" "B" (.int gb)) (F_vb : Fld Z h0 o1 cB "value" "[B" (.ref vb)) (A_b : Arv Z h0 vb kb .byte z0 [] (.int 0)) (n_o0_o1 : o0 ≠ o1) (Ol : Old Z n0 h0) (hc22 : ¬ (zc = z0)) (hc33 : ga = gb) :
    MetFree l (⟨cB, "equals", cH⟩ : MethodName) (head1 (Jvm.Cond.code (⟨cB, "equals", cH⟩ : MethodName) jdk_42_method_66_code 3 (some .boolean) :: ws) ({ frames := 1, cells := 0, slots := 0, locals := 14 } : Room)) (fun a U => a = #[(.ref o0), (.ref o1)] ∧ Z.Warmed39 U.vm ∧ U.heap = h0) (fun _ _ _ _ _ => True) (fun _ U o U' => ∃ v L, o = .returned v ∧ Q14_0 Z o0 o1 zc ga va ka gb vb kb h0 n0 v U'.heap L ∧ FrameEnd U o U' L ({ frames := 1, cells := 0, slots := 0, locals := 14 } : Room).cells ({ frames := 1, cells := 0, slots := 0, locals := 14 } : Room).slots) := by
  refine MetFree.of_bodySF (plainFor_of_name pn_14) hisR ?_
  intro p e s m args below meth c s₁ Bd hml0 hP hK
  obtain ⟨rfl, hZ, hh⟩ := hP
  have hx := Bd.exec
  have hby := Bd.bytes
  have hml : c.maxLocals = 3 := hml0
  have hown : s.vm.findClass cB = some m.cls := findClass_of_methodNamed Bd.named
  have hnm := (name_of_methodNamed Bd.named Bd.method).1
  have hrt := Bd.returns
  have hlk := Bd.notSynchronized
  have X0 : Stand p l e ({ frames := 1, cells := 0, slots := 0, locals := 14 } : Room) s m #[(.ref o0), (.ref o1)] below meth c s₁ [] 0 0 := Stand.of_body Bd
  have e0 : s₁.heap = h0 := by rw [← hh, Bd.state]; rfl
  have N0 := Fr.nil n0
  have lt_E_o0 : LT.lt (α := Nat) o0 h0.size := E_o0.lt
  have lt_A_a : LT.lt (α := Nat) va h0.size := A_a.lt
  have lt_E_o1 : LT.lt (α := Nat) o1 h0.size := E_o1.lt
  have lt_A_b : LT.lt (α := Nat) vb h0.size := A_b.lt
  show Go p e below s 0 0 (Q14_0 Z o0 o1 zc ga va ka gb vb kb h0 n0) (s₁.setTop (entryFrame m #[(.ref o0), (.ref o1)] 3))
  rw [ef_14_0 m o0 o1]
  refine Go.pre (st' := s₁.setTop (mkF m 8 #[sR o0, sR o1, sU] [(.ref o1)])) (fun target kt => ?_) ?_
  · refine XS.aloadN X0.here hx rfl (hb hby d14_0) rfl rfl ?_
    refine XS.aloadN X0.here hx rfl (hb hby d14_1) rfl rfl ?_
    refine Jvm.RoadKit.acmp (g := (mkF m 2 #[sR o0, sR o1, sU] [(.ref o1), (.ref o0)])) X0 hx rfl rfl rfl (pc0 := 2) (pc' := 7) (same := false) rfl (hb hby d14_2) rfl (decide_eq_false fun q => n_o0_o1 (Value.ref.inj q)) (by decide) (by decide) ?_
    refine XS.aloadN X0.here hx rfl (hb hby d14_7) rfl rfl ?_
    exact kt
  obtain ⟨T1, X1, e1, st1⟩ := instY X0 hx hZ hown (ow hw 9 rfl) e0 (Ins.self E_o1) (g := (mkF m 8 #[sR o0, sR o1, sU] [(.ref o1)])) rfl rfl (hb hby d14_8)
  refine Go.pre st1 ?_
  refine Go.pre (st' := T1.setTop (mkF m 15 #[sR o0, sR o1, sU] [(.ref o1)])) (fun target kt => ?_) ?_
  · refine XS.ifNo X1.here hx rfl (hb hby d14_11) rfl ((if0 _ _).trans (feq (by decide)).1) ?_
    refine XS.aloadN X1.here hx rfl (hb hby d14_14) rfl rfl ?_
    exact kt
  obtain ⟨T2, X2, e2, st2⟩ := castY X1 hx hZ hown (ow hw 9 rfl) e1 (Ins.self E_o1) (g := (mkF m 15 #[sR o0, sR o1, sU] [(.ref o1)])) rfl rfl (hb hby d14_15)
  refine Go.pre st2 ?_
  refine Go.pre (st' := T2.setTop (mkF m 19 #[sR o0, sR o1, sR o1] [])) (fun target kt => ?_) ?_
  · refine XS.astoreN X2.here hx rfl (hb hby d14_18) rfl rfl (l' := #[.val (.ref o0), .val (.ref o1), .val (.ref o1)]) rfl ?_
    exact kt
  obtain ⟨T3, X3, e3, st3⟩ := getS2 X2 hx hZ hown (host := "") (Or.inl (ow hw 4 rfl)) Via.refl e2 (S_COMPACT.ext Ol.2) (g := (mkF m 19 #[sR o0, sR o1, sR o1] [])) rfl (hb hby d14_19)
  refine Go.pre st3 ?_
  refine Go.pre (st' := T3.setTop (mkF m 26 #[sR o0, sR o1, sR o1] [(.ref o0)])) (fun target kt => ?_) ?_
  · refine XS.ifNo X3.here hx rfl (hb hby d14_22) rfl ((if0 _ _).trans (feq hc22).1) ?_
    refine XS.aloadN X3.here hx rfl (hb hby d14_25) rfl rfl ?_
    exact kt
  obtain ⟨T4, X4, e4, st4⟩ := getF X3 hx hZ hown (host := "") (Or.inl (ow hw 24 rfl)) Via.refl e3 F_ca (g := (mkF m 26 #[sR o0, sR o1, sR o1] [(.ref o0)])) rfl rfl (hb hby d14_26)
  refine Go.pre st4 ?_
  refine Go.pre (st' := T4.setTop (mkF m 30 #[sR o0, sR o1, sR o1] [(.ref o1), (.int ga)])) (fun target kt => ?_) ?_
  · refine XS.aloadN X4.here hx rfl (hb hby d14_29) rfl rfl ?_
    exact kt
  obtain ⟨T5, X5, e5, st5⟩ := getF X4 hx hZ hown (host := "") (Or.inl (ow hw 24 rfl)) Via.refl e4 F_cb (g := (mkF m 30 #[sR o0, sR o1, sR o1] [(.ref o1), (.int ga)])) rfl rfl (hb hby d14_30)
  refine Go.pre st5 ?_
  refine Go.pre (st' := T5.setTop (mkF m 37 #[sR o0, sR o1, sR o1] [(.ref o0)])) (fun target kt => ?_) ?_
  · refine XS.icmpNo X5.here hx rfl (hb hby d14_33) rfl (teq hc33).2 ?_
    refine XS.aloadN X5.here hx rfl (hb hby d14_36) rfl rfl ?_
    exact kt
  obtain ⟨T6, X6, e6, st6⟩ := getF X5 hx hZ hown (host := "") (Or.inl (ow hw 22 rfl)) Via.refl e5 F_va (g := (mkF m 37 #[sR o0, sR o1, sR o1] [(.ref o0)])) rfl rfl (hb hby d14_37)
  refine Go.pre st6 ?_
  refine Go.pre (st' := T6.setTop (mkF m 41 #[sR o0, sR o1, sR o1] [(.ref o1), (.ref va)])) (fun target kt => ?_) ?_
  · refine XS.aloadN X6.here hx rfl (hb hby d14_40) rfl rfl ?_
    exact kt
  obtain ⟨T7, X7, e7, st7⟩ := getF X6 hx hZ hown (host := "") (Or.inl (ow hw 22 rfl)) Via.refl e6 F_vb (g := (mkF m 41 #[sR o0, sR o1, sR o1] [(.ref o1), (.ref va)])) rfl rfl (hb hby d14_41)
  refine Go.pre st7 ?_
  obtain ⟨_, _, ⟨T8, L8, k8, n8⟩, -, X8, ⟨Lc8, hQ8, l8, y8, z8⟩, st8⟩ := Jvm.LawKit.callS X7 hx (y := (⟨cG, "equals", "([B[B)Z"⟩ : MethodName)) hown (mvT hZ (ow hw 101 rfl)) (mvT hZ (ow hw 102 rfl)) (mvT hZ (ow hw 7 rfl)) (mvT hZ (ow hw 103 rfl)) (by decide) (backOf (W := 0) (rm15_0 l Z a0 hw [] va vb ka kb h0 n0 (by omega) A_a A_b) hZ (ow hw 103 rfl) (ow hw 7 rfl) (by decide) (by decide)) (g := (mkF m 44 #[sR o0, sR o1, sR o1] [(.ref vb), (.ref va)])) rfl (by rw [hml]; rfl) (argsL := [(.ref va), (.ref vb)]) (rest := []) (lenOf pd14_0_0 rfl) rfl (le0 rfl) (hb hby d14_44) (fun vm₁ hvm => ⟨rfl, e7, (by decide : 0 + 0 ≤ _), (by decide : 0 + 0 ≤ _)⟩)
  dsimp only [Pt.U, Pt.locs, Pt.cells, Pt.slots] at X8 l8 y8 z8 st8 hQ8
  subst l8 y8 z8
  obtain ⟨rfl, N8q, e8⟩ := hQ8
  have N8 := Fr.app N0 N8q
  refine Go.pre st8 ?_
  refine Go.pre (st' := T8.setTop (mkF m 55 #[sR o0, sR o1, sR o1] [(.int z1)])) (fun target kt => ?_) ?_
  · refine XS.ifNo X8.here hx rfl (hb hby d14_47) rfl ((if0 _ _).trans (feq (by decide)).1) ?_
    refine XS.iconst X8.here hx rfl (hb hby d14_50) ?_
    refine XS.goto X8.here hx rfl (pc0 := 51) (pc' := 55) rfl (hb hby d14_51) (by decide) (by decide) ?_
    exact kt
  exact Go.retN X8 hx hlk hrt (z' := z1) (by simp) (hb hby d14_55) rfl (by decide) (by decide) (by rw [e8]; exact ⟨rfl, N8, rfl⟩)
/-! StringLatin1.equals (15_1T) -/
theorem d15_15 : decode q13 15 = .ok (.aload_n 0, 1) := by decide +kernel
theorem d15_16 : decode q13 16 = .ok (.iload_n 2, 1) := by decide +kernel
theorem d15_17 : decode q13 17 = .ok (.baload, 1) := by decide +kernel
theorem d15_18 : decode q13 18 = .ok (.aload_n 1, 1) := by decide +kernel
theorem d15_19 : decode q13 19 = .ok (.iload_n 2, 1) := by decide +kernel
theorem d15_20 : decode q13 20 = .ok (.baload, 1) := by decide +kernel
theorem d15_21 : decode q13 21 = .ok (.if_icmp .eq 5, 3) := by decide +kernel
theorem d15_26 : decode q13 26 = .ok (.iinc 2 1, 3) := by decide +kernel
theorem d15_29 : decode q13 29 = .ok (.goto (-20), 3) := by decide +kernel
theorem ef_15_1T (m : MethodId) (o0 : Addr) (o1 : Addr) : entryFrame m #[(.ref o0), (.ref o1)] 3 = (mkF m 0 #[.val (.ref o0), .val (.ref o1), .unset] []) := by first | (simp [entryFrame, mkF, argsToLocals, Value.category]; done) | rfl
def Q15_1T (Z : State) (o0 : Addr) (o1 : Addr) (ka : ClassId) (x0 : Int32) (kb : ClassId) (y0 : Int32) (h0 : Heap) (n0 : Nat) (v : Option Value) (h : Heap) (L : List Loc) : Prop := v = some (.int z1) ∧ Fr n0 L ∧ h = h0
theorem rm15_1T (l : Launch) (Z : State) (a0 : Array Value) (hw : ∀ d ∈ tables_1, d.before a0 Z = true) (ws : List Jvm.Cond) (o0 : Addr) (o1 : Addr) (ka : ClassId) (x0 : Int32) (kb : ClassId) (y0 : Int32) (h0 : Heap) (n0 : Nat) (Z0 : n0 ≤ h0.size) (A_a : Arv Z h0 o0 ka .byte z1 [(.int x0)] (.int z0)) (A_b : Arv Z h0 o1 kb .byte z1 [(.int y0)] (.int z0)) (hc21 : x0 = y0) :
    MetFree l (⟨cG, "equals", "([B[B)Z"⟩ : MethodName) (head1 (Jvm.Cond.code (⟨cG, "equals", "([B[B)Z"⟩ : MethodName) jdk_43_method_13_code 3 (some .boolean) :: ws) ({ frames := 0, cells := 0, slots := 0, locals := 0 } : Room)) (fun a U => a = #[(.ref o0), (.ref o1)] ∧ Z.Warmed39 U.vm ∧ U.heap = h0) (fun _ _ _ _ _ => True) (fun _ U o U' => ∃ v L, o = .returned v ∧ Q15_1T Z o0 o1 ka x0 kb y0 h0 n0 v U'.heap L ∧ FrameEnd U o U' L ({ frames := 0, cells := 0, slots := 0, locals := 0 } : Room).cells ({ frames := 0, cells := 0, slots := 0, locals := 0 } : Room).slots) := by
  refine MetFree.of_bodySF (plainFor_of_name pn_15) hisR ?_
  intro p e s m args below meth c s₁ Bd hml0 hP hK
  obtain ⟨rfl, hZ, hh⟩ := hP
  have hx := Bd.exec
  have hby := Bd.bytes
  have hml : c.maxLocals = 3 := hml0
  have hown : s.vm.findClass cG = some m.cls := findClass_of_methodNamed Bd.named
  have hnm := (name_of_methodNamed Bd.named Bd.method).1
  have hrt := Bd.returns
  have hlk := Bd.notSynchronized
  have X0 : Stand p l e ({ frames := 0, cells := 0, slots := 0, locals := 0 } : Room) s m #[(.ref o0), (.ref o1)] below meth c s₁ [] 0 0 := Stand.of_body Bd
  have e0 : s₁.heap = h0 := by rw [← hh, Bd.state]; rfl
  have N0 := Fr.nil n0
  have lt_A_a : LT.lt (α := Nat) o0 h0.size := A_a.lt
  have lt_A_b : LT.lt (α := Nat) o1 h0.size := A_b.lt
  show Go p e below s 0 0 (Q15_1T Z o0 o1 ka x0 kb y0 h0 n0) (s₁.setTop (entryFrame m #[(.ref o0), (.ref o1)] 3))
  rw [ef_15_1T m o0 o1]
  refine Go.pre (st' := s₁.setTop (mkF m 1 #[sR o0, sR o1, sU] [(.ref o0)])) (fun target kt => ?_) ?_
  · refine XS.aloadN X0.here hx rfl (hb hby d15_0) rfl rfl ?_
    exact kt
  obtain ⟨cl1, Ar1, -, Sz1, Nn1, -, -⟩ := id A_a
  have st1 := X0.arraylength hx (by rw [e0]; exact Ar1.1) (State.isArrayOf_alike hZ.alike Ar1.2.1) (g := (mkF m 1 #[sR o0, sR o1, sU] [(.ref o0)])) rfl rfl (hb hby d15_1)
  rw [len_of Sz1 Nn1] at st1
  refine Go.pre st1 ?_
  refine Go.pre (st' := s₁.setTop (mkF m 3 #[sR o0, sR o1, sU] [(.ref o1), (.int z1)])) (fun target kt => ?_) ?_
  · refine XS.aloadN X0.here hx rfl (hb hby d15_2) rfl rfl ?_
    exact kt
  obtain ⟨cl2, Ar2, -, Sz2, Nn2, -, -⟩ := id A_b
  have st2 := X0.arraylength hx (by rw [e0]; exact Ar2.1) (State.isArrayOf_alike hZ.alike Ar2.2.1) (g := (mkF m 3 #[sR o0, sR o1, sU] [(.ref o1), (.int z1)])) rfl rfl (hb hby d15_3)
  rw [len_of Sz2 Nn2] at st2
  refine Go.pre st2 ?_
  refine Go.pre (st' := s₁.setTop (mkF m 11 #[sR o0, sR o1, sI z0] [(.ref o0), (.int z0)])) (fun target kt => ?_) ?_
  · refine XS.icmpNo X0.here hx rfl (hb hby d15_4) rfl (teq (by decide)).2 ?_
    refine XS.iconst X0.here hx rfl (hb hby d15_7) ?_
    refine XS.istoreN X0.here hx rfl (hb hby d15_8) rfl (l' := #[.val (.ref o0), .val (.ref o1), .val (.int z0)]) rfl ?_
    refine XS.iloadN X0.here hx rfl (hb hby d15_9) rfl ?_
    refine XS.aloadN X0.here hx rfl (hb hby d15_10) rfl rfl ?_
    exact kt
  obtain ⟨cl3, Ar3, -, Sz3, Nn3, -, -⟩ := id A_a
  have st3 := X0.arraylength hx (by rw [e0]; exact Ar3.1) (State.isArrayOf_alike hZ.alike Ar3.2.1) (g := (mkF m 11 #[sR o0, sR o1, sI z0] [(.ref o0), (.int z0)])) rfl rfl (hb hby d15_11)
  rw [len_of Sz3 Nn3] at st3
  refine Go.pre st3 ?_
  refine Go.pre (st' := s₁.setTop (mkF m 17 #[sR o0, sR o1, sI z0] [(.int z0), (.ref o0)])) (fun target kt => ?_) ?_
  · refine XS.icmpNo X0.here hx rfl (hb hby d15_12) rfl (tlt (by decide)).2.1 ?_
    refine XS.aloadN X0.here hx rfl (hb hby d15_15) rfl rfl ?_
    refine XS.iloadN X0.here hx rfl (hb hby d15_16) rfl ?_
    exact kt
  obtain ⟨cl4, Ar4, q4, Sz4, Nn4, Hs4, Gs4⟩ := id A_a
  have in4 := inb_of (j := z0) Sz4 ⟨by decide, by decide⟩
  have at4 : cl4.slots[(z0).toNatClampNeg]? = some (.int x0) := Has.at Hs4 in4 rfl
  refine Go.pre (X0.baloadBytes hx (j := z0) (v := (.int x0)) (by rw [e0]; exact Ar4.1) (State.isArrayOf_alike hZ.alike Ar4.2.1) Ar4.2.2 in4 at4 (g := (mkF m 17 #[sR o0, sR o1, sI z0] [(.int z0), (.ref o0)])) rfl rfl (hb hby d15_17)) ?_
  refine Go.pre (st' := s₁.setTop (mkF m 20 #[sR o0, sR o1, sI z0] [(.int z0), (.ref o1), (.int x0)])) (fun target kt => ?_) ?_
  · refine XS.aloadN X0.here hx rfl (hb hby d15_18) rfl rfl ?_
    refine XS.iloadN X0.here hx rfl (hb hby d15_19) rfl ?_
    exact kt
  obtain ⟨cl5, Ar5, q5, Sz5, Nn5, Hs5, Gs5⟩ := id A_b
  have in5 := inb_of (j := z0) Sz5 ⟨by decide, by decide⟩
  have at5 : cl5.slots[(z0).toNatClampNeg]? = some (.int y0) := Has.at Hs5 in5 rfl
  refine Go.pre (X0.baloadBytes hx (j := z0) (v := (.int y0)) (by rw [e0]; exact Ar5.1) (State.isArrayOf_alike hZ.alike Ar5.2.1) Ar5.2.2 in5 at5 (g := (mkF m 20 #[sR o0, sR o1, sI z0] [(.int z0), (.ref o1), (.int x0)])) rfl rfl (hb hby d15_20)) ?_
  refine Go.pre (st' := s₁.setTop (mkF m 11 #[sR o0, sR o1, sI z1] [(.ref o0), (.int z1)])) (fun target kt => ?_) ?_
  · refine XS.icmpYes X0.here hx rfl (pc0 := 21) (pc' := 26) rfl (hb hby d15_21) rfl (teq hc21).1 (by decide) (by decide) ?_
    refine XS.iinc X0.here hx rfl (hb hby d15_26) rfl (l' := #[.val (.ref o0), .val (.ref o1), .val (.int z1)]) rfl ?_
    refine XS.goto X0.here hx rfl (pc0 := 29) (pc' := 9) rfl (hb hby d15_29) (by decide) (by decide) ?_
    refine XS.iloadN X0.here hx rfl (hb hby d15_9) rfl ?_
    refine XS.aloadN X0.here hx rfl (hb hby d15_10) rfl rfl ?_
    exact kt
  obtain ⟨cl6, Ar6, -, Sz6, Nn6, -, -⟩ := id A_a
  have st6 := X0.arraylength hx (by rw [e0]; exact Ar6.1) (State.isArrayOf_alike hZ.alike Ar6.2.1) (g := (mkF m 11 #[sR o0, sR o1, sI z1] [(.ref o0), (.int z1)])) rfl rfl (hb hby d15_11)
  rw [len_of Sz6 Nn6] at st6
  refine Go.pre st6 ?_
  refine Go.pre (st' := s₁.setTop (mkF m 33 #[sR o0, sR o1, sI z1] [(.int z1)])) (fun target kt => ?_) ?_
  · refine XS.icmpYes X0.here hx rfl (pc0 := 12) (pc' := 32) rfl (hb hby d15_12) rfl (flt (by decide)).2.1 (by decide) (by decide) ?_
    refine XS.iconst X0.here hx rfl (hb hby d15_32) ?_
    exact kt
  exact Go.retN X0 hx hlk hrt (z' := z1) (by simp) (hb hby d15_33) rfl (by decide) (by decide) (by rw [e0]; exact ⟨rfl, N0, rfl⟩)
/-! String.equals (14_1T) -/
theorem pd14_1T_0 : parseMethodDescriptor "([B[B)Z" = some ⟨[(.array .byte), (.array .byte)], some .boolean⟩ := by decide +kernel
theorem ef_14_1T (m : MethodId) (o0 : Addr) (o1 : Addr) : entryFrame m #[(.ref o0), (.ref o1)] 3 = (mkF m 0 #[.val (.ref o0), .val (.ref o1), .unset] []) := by first | (simp [entryFrame, mkF, argsToLocals, Value.category]; done) | rfl
def Q14_1T (Z : State) (o0 : Addr) (o1 : Addr) (zc : Int32) (ga : Int32) (va : Addr) (ka : ClassId) (x0 : Int32) (gb : Int32) (vb : Addr) (kb : ClassId) (y0 : Int32) (h0 : Heap) (n0 : Nat) (v : Option Value) (h : Heap) (L : List Loc) : Prop := v = some (.int z1) ∧ Fr n0 L ∧ h = h0
theorem rm14_1T (l : Launch) (Z : State) (a0 : Array Value) (hw : ∀ d ∈ tables_1, d.before a0 Z = true) (ws : List Jvm.Cond) (o0 : Addr) (o1 : Addr) (zc : Int32) (ga : Int32) (va : Addr) (ka : ClassId) (x0 : Int32) (gb : Int32) (vb : Addr) (kb : ClassId) (y0 : Int32) (h0 : Heap) (n0 : Nat) (Z0 : n0 ≤ h0.size) (S_COMPACT : Sta Z Z.heap cB "COMPACT_STRINGS" "Z" (.int zc)) (E_o0 : Exa Z h0 o0 cB) (F_ca : Fld Z h0 o0 cB "coder" "B" (.int ga)) (F_va : Fld Z h0 o0 cB "value" "[B" (.ref va)) (A_a : Arv Z h0 va ka .byte z1 [(.int x0)] (.int z0)) (E_o1 : Exa Z h0 o1 cB) (F_cb : Fld Z h0 o1 cB "coder" "B" (.int gb)) (F_vb : Fld Z h0 o1 cB "value" "[B" (.ref vb)) (A_b : Arv Z h0 vb kb .byte z1 [(.int y0)] (.int z0)) (n_o0_o1 : o0 ≠ o1) (Ol : Old Z n0 h0) (he0 : x0 = y0) (hc22 : ¬ (zc = z0)) (hc33 : ga = gb) :
    MetFree l (⟨cB, "equals", cH⟩ : MethodName) (head1 (Jvm.Cond.code (⟨cB, "equals", cH⟩ : MethodName) jdk_42_method_66_code 3 (some .boolean) :: ws) ({ frames := 1, cells := 0, slots := 0, locals := 14 } : Room)) (fun a U => a = #[(.ref o0), (.ref o1)] ∧ Z.Warmed39 U.vm ∧ U.heap = h0) (fun _ _ _ _ _ => True) (fun _ U o U' => ∃ v L, o = .returned v ∧ Q14_1T Z o0 o1 zc ga va ka x0 gb vb kb y0 h0 n0 v U'.heap L ∧ FrameEnd U o U' L ({ frames := 1, cells := 0, slots := 0, locals := 14 } : Room).cells ({ frames := 1, cells := 0, slots := 0, locals := 14 } : Room).slots) := by
  refine MetFree.of_bodySF (plainFor_of_name pn_14) hisR ?_
  intro p e s m args below meth c s₁ Bd hml0 hP hK
  obtain ⟨rfl, hZ, hh⟩ := hP
  have hx := Bd.exec
  have hby := Bd.bytes
  have hml : c.maxLocals = 3 := hml0
  have hown : s.vm.findClass cB = some m.cls := findClass_of_methodNamed Bd.named
  have hnm := (name_of_methodNamed Bd.named Bd.method).1
  have hrt := Bd.returns
  have hlk := Bd.notSynchronized
  have X0 : Stand p l e ({ frames := 1, cells := 0, slots := 0, locals := 14 } : Room) s m #[(.ref o0), (.ref o1)] below meth c s₁ [] 0 0 := Stand.of_body Bd
  have e0 : s₁.heap = h0 := by rw [← hh, Bd.state]; rfl
  have N0 := Fr.nil n0
  have lt_E_o0 : LT.lt (α := Nat) o0 h0.size := E_o0.lt
  have lt_A_a : LT.lt (α := Nat) va h0.size := A_a.lt
  have lt_E_o1 : LT.lt (α := Nat) o1 h0.size := E_o1.lt
  have lt_A_b : LT.lt (α := Nat) vb h0.size := A_b.lt
  show Go p e below s 0 0 (Q14_1T Z o0 o1 zc ga va ka x0 gb vb kb y0 h0 n0) (s₁.setTop (entryFrame m #[(.ref o0), (.ref o1)] 3))
  rw [ef_14_1T m o0 o1]
  refine Go.pre (st' := s₁.setTop (mkF m 8 #[sR o0, sR o1, sU] [(.ref o1)])) (fun target kt => ?_) ?_
  · refine XS.aloadN X0.here hx rfl (hb hby d14_0) rfl rfl ?_
    refine XS.aloadN X0.here hx rfl (hb hby d14_1) rfl rfl ?_
    refine Jvm.RoadKit.acmp (g := (mkF m 2 #[sR o0, sR o1, sU] [(.ref o1), (.ref o0)])) X0 hx rfl rfl rfl (pc0 := 2) (pc' := 7) (same := false) rfl (hb hby d14_2) rfl (decide_eq_false fun q => n_o0_o1 (Value.ref.inj q)) (by decide) (by decide) ?_
    refine XS.aloadN X0.here hx rfl (hb hby d14_7) rfl rfl ?_
    exact kt
  obtain ⟨T1, X1, e1, st1⟩ := instY X0 hx hZ hown (ow hw 9 rfl) e0 (Ins.self E_o1) (g := (mkF m 8 #[sR o0, sR o1, sU] [(.ref o1)])) rfl rfl (hb hby d14_8)
  refine Go.pre st1 ?_
  refine Go.pre (st' := T1.setTop (mkF m 15 #[sR o0, sR o1, sU] [(.ref o1)])) (fun target kt => ?_) ?_
  · refine XS.ifNo X1.here hx rfl (hb hby d14_11) rfl ((if0 _ _).trans (feq (by decide)).1) ?_
    refine XS.aloadN X1.here hx rfl (hb hby d14_14) rfl rfl ?_
    exact kt
  obtain ⟨T2, X2, e2, st2⟩ := castY X1 hx hZ hown (ow hw 9 rfl) e1 (Ins.self E_o1) (g := (mkF m 15 #[sR o0, sR o1, sU] [(.ref o1)])) rfl rfl (hb hby d14_15)
  refine Go.pre st2 ?_
  refine Go.pre (st' := T2.setTop (mkF m 19 #[sR o0, sR o1, sR o1] [])) (fun target kt => ?_) ?_
  · refine XS.astoreN X2.here hx rfl (hb hby d14_18) rfl rfl (l' := #[.val (.ref o0), .val (.ref o1), .val (.ref o1)]) rfl ?_
    exact kt
  obtain ⟨T3, X3, e3, st3⟩ := getS2 X2 hx hZ hown (host := "") (Or.inl (ow hw 4 rfl)) Via.refl e2 (S_COMPACT.ext Ol.2) (g := (mkF m 19 #[sR o0, sR o1, sR o1] [])) rfl (hb hby d14_19)
  refine Go.pre st3 ?_
  refine Go.pre (st' := T3.setTop (mkF m 26 #[sR o0, sR o1, sR o1] [(.ref o0)])) (fun target kt => ?_) ?_
  · refine XS.ifNo X3.here hx rfl (hb hby d14_22) rfl ((if0 _ _).trans (feq hc22).1) ?_
    refine XS.aloadN X3.here hx rfl (hb hby d14_25) rfl rfl ?_
    exact kt
  obtain ⟨T4, X4, e4, st4⟩ := getF X3 hx hZ hown (host := "") (Or.inl (ow hw 24 rfl)) Via.refl e3 F_ca (g := (mkF m 26 #[sR o0, sR o1, sR o1] [(.ref o0)])) rfl rfl (hb hby d14_26)
  refine Go.pre st4 ?_
  refine Go.pre (st' := T4.setTop (mkF m 30 #[sR o0, sR o1, sR o1] [(.ref o1), (.int ga)])) (fun target kt => ?_) ?_
  · refine XS.aloadN X4.here hx rfl (hb hby d14_29) rfl rfl ?_
    exact kt
  obtain ⟨T5, X5, e5, st5⟩ := getF X4 hx hZ hown (host := "") (Or.inl (ow hw 24 rfl)) Via.refl e4 F_cb (g := (mkF m 30 #[sR o0, sR o1, sR o1] [(.ref o1), (.int ga)])) rfl rfl (hb hby d14_30)
  refine Go.pre st5 ?_
  refine Go.pre (st' := T5.setTop (mkF m 37 #[sR o0, sR o1, sR o1] [(.ref o0)])) (fun target kt => ?_) ?_
  · refine XS.icmpNo X5.here hx rfl (hb hby d14_33) rfl (teq hc33).2 ?_
    refine XS.aloadN X5.here hx rfl (hb hby d14_36) rfl rfl ?_
    exact kt
  obtain ⟨T6, X6, e6, st6⟩ := getF X5 hx hZ hown (host := "") (Or.inl (ow hw 22 rfl)) Via.refl e5 F_va (g := (mkF m 37 #[sR o0, sR o1, sR o1] [(.ref o0)])) rfl rfl (hb hby d14_37)
  refine Go.pre st6 ?_
  refine Go.pre (st' := T6.setTop (mkF m 41 #[sR o0, sR o1, sR o1] [(.ref o1), (.ref va)])) (fun target kt => ?_) ?_
  · refine XS.aloadN X6.here hx rfl (hb hby d14_40) rfl rfl ?_
    exact kt
  obtain ⟨T7, X7, e7, st7⟩ := getF X6 hx hZ hown (host := "") (Or.inl (ow hw 22 rfl)) Via.refl e6 F_vb (g := (mkF m 41 #[sR o0, sR o1, sR o1] [(.ref o1), (.ref va)])) rfl rfl (hb hby d14_41)
  refine Go.pre st7 ?_
  obtain ⟨_, _, ⟨T8, L8, k8, n8⟩, -, X8, ⟨Lc8, hQ8, l8, y8, z8⟩, st8⟩ := Jvm.LawKit.callS X7 hx (y := (⟨cG, "equals", "([B[B)Z"⟩ : MethodName)) hown (mvT hZ (ow hw 101 rfl)) (mvT hZ (ow hw 102 rfl)) (mvT hZ (ow hw 7 rfl)) (mvT hZ (ow hw 103 rfl)) (by decide) (backOf (W := 0) (rm15_1T l Z a0 hw [] va vb ka x0 kb y0 h0 n0 (by omega) A_a A_b he0) hZ (ow hw 103 rfl) (ow hw 7 rfl) (by decide) (by decide)) (g := (mkF m 44 #[sR o0, sR o1, sR o1] [(.ref vb), (.ref va)])) rfl (by rw [hml]; rfl) (argsL := [(.ref va), (.ref vb)]) (rest := []) (lenOf pd14_1T_0 rfl) rfl (le0 rfl) (hb hby d14_44) (fun vm₁ hvm => ⟨rfl, e7, (by decide : 0 + 0 ≤ _), (by decide : 0 + 0 ≤ _)⟩)
  dsimp only [Pt.U, Pt.locs, Pt.cells, Pt.slots] at X8 l8 y8 z8 st8 hQ8
  subst l8 y8 z8
  obtain ⟨rfl, N8q, e8⟩ := hQ8
  have N8 := Fr.app N0 N8q
  refine Go.pre st8 ?_
  refine Go.pre (st' := T8.setTop (mkF m 55 #[sR o0, sR o1, sR o1] [(.int z1)])) (fun target kt => ?_) ?_
  · refine XS.ifNo X8.here hx rfl (hb hby d14_47) rfl ((if0 _ _).trans (feq (by decide)).1) ?_
    refine XS.iconst X8.here hx rfl (hb hby d14_50) ?_
    refine XS.goto X8.here hx rfl (pc0 := 51) (pc' := 55) rfl (hb hby d14_51) (by decide) (by decide) ?_
    exact kt
  exact Go.retN X8 hx hlk hrt (z' := z1) (by simp) (hb hby d14_55) rfl (by decide) (by decide) (by rw [e8]; exact ⟨rfl, N8, rfl⟩)
/-! StringLatin1.equals (15_1F) -/
theorem d15_24 : decode q13 24 = .ok (.iconst 0, 1) := by decide +kernel
theorem d15_25 : decode q13 25 = .ok (.ireturn, 1) := by decide +kernel
theorem ef_15_1F (m : MethodId) (o0 : Addr) (o1 : Addr) : entryFrame m #[(.ref o0), (.ref o1)] 3 = (mkF m 0 #[.val (.ref o0), .val (.ref o1), .unset] []) := by first | (simp [entryFrame, mkF, argsToLocals, Value.category]; done) | rfl
def Q15_1F (Z : State) (o0 : Addr) (o1 : Addr) (ka : ClassId) (x0 : Int32) (kb : ClassId) (y0 : Int32) (h0 : Heap) (n0 : Nat) (v : Option Value) (h : Heap) (L : List Loc) : Prop := v = some (.int z0) ∧ Fr n0 L ∧ h = h0
theorem rm15_1F (l : Launch) (Z : State) (a0 : Array Value) (hw : ∀ d ∈ tables_1, d.before a0 Z = true) (ws : List Jvm.Cond) (o0 : Addr) (o1 : Addr) (ka : ClassId) (x0 : Int32) (kb : ClassId) (y0 : Int32) (h0 : Heap) (n0 : Nat) (Z0 : n0 ≤ h0.size) (A_a : Arv Z h0 o0 ka .byte z1 [(.int x0)] (.int z0)) (A_b : Arv Z h0 o1 kb .byte z1 [(.int y0)] (.int z0)) (hc21 : ¬ (x0 = y0)) :
    MetFree l (⟨cG, "equals", "([B[B)Z"⟩ : MethodName) (head1 (Jvm.Cond.code (⟨cG, "equals", "([B[B)Z"⟩ : MethodName) jdk_43_method_13_code 3 (some .boolean) :: ws) ({ frames := 0, cells := 0, slots := 0, locals := 0 } : Room)) (fun a U => a = #[(.ref o0), (.ref o1)] ∧ Z.Warmed39 U.vm ∧ U.heap = h0) (fun _ _ _ _ _ => True) (fun _ U o U' => ∃ v L, o = .returned v ∧ Q15_1F Z o0 o1 ka x0 kb y0 h0 n0 v U'.heap L ∧ FrameEnd U o U' L ({ frames := 0, cells := 0, slots := 0, locals := 0 } : Room).cells ({ frames := 0, cells := 0, slots := 0, locals := 0 } : Room).slots) := by
  refine MetFree.of_bodySF (plainFor_of_name pn_15) hisR ?_
  intro p e s m args below meth c s₁ Bd hml0 hP hK
  obtain ⟨rfl, hZ, hh⟩ := hP
  have hx := Bd.exec
  have hby := Bd.bytes
  have hml : c.maxLocals = 3 := hml0
  have hown : s.vm.findClass cG = some m.cls := findClass_of_methodNamed Bd.named
  have hnm := (name_of_methodNamed Bd.named Bd.method).1
  have hrt := Bd.returns
  have hlk := Bd.notSynchronized
  have X0 : Stand p l e ({ frames := 0, cells := 0, slots := 0, locals := 0 } : Room) s m #[(.ref o0), (.ref o1)] below meth c s₁ [] 0 0 := Stand.of_body Bd
  have e0 : s₁.heap = h0 := by rw [← hh, Bd.state]; rfl
  have N0 := Fr.nil n0
  have lt_A_a : LT.lt (α := Nat) o0 h0.size := A_a.lt
  have lt_A_b : LT.lt (α := Nat) o1 h0.size := A_b.lt
  show Go p e below s 0 0 (Q15_1F Z o0 o1 ka x0 kb y0 h0 n0) (s₁.setTop (entryFrame m #[(.ref o0), (.ref o1)] 3))
  rw [ef_15_1F m o0 o1]
  refine Go.pre (st' := s₁.setTop (mkF m 1 #[sR o0, sR o1, sU] [(.ref o0)])) (fun target kt => ?_) ?_
  · refine XS.aloadN X0.here hx rfl (hb hby d15_0) rfl rfl ?_
    exact kt
  obtain ⟨cl1, Ar1, -, Sz1, Nn1, -, -⟩ := id A_a
  have st1 := X0.arraylength hx (by rw [e0]; exact Ar1.1) (State.isArrayOf_alike hZ.alike Ar1.2.1) (g := (mkF m 1 #[sR o0, sR o1, sU] [(.ref o0)])) rfl rfl (hb hby d15_1)
  rw [len_of Sz1 Nn1] at st1
  refine Go.pre st1 ?_
  refine Go.pre (st' := s₁.setTop (mkF m 3 #[sR o0, sR o1, sU] [(.ref o1), (.int z1)])) (fun target kt => ?_) ?_
  · refine XS.aloadN X0.here hx rfl (hb hby d15_2) rfl rfl ?_
    exact kt
  obtain ⟨cl2, Ar2, -, Sz2, Nn2, -, -⟩ := id A_b
  have st2 := X0.arraylength hx (by rw [e0]; exact Ar2.1) (State.isArrayOf_alike hZ.alike Ar2.2.1) (g := (mkF m 3 #[sR o0, sR o1, sU] [(.ref o1), (.int z1)])) rfl rfl (hb hby d15_3)
  rw [len_of Sz2 Nn2] at st2
  refine Go.pre st2 ?_
  refine Go.pre (st' := s₁.setTop (mkF m 11 #[sR o0, sR o1, sI z0] [(.ref o0), (.int z0)])) (fun target kt => ?_) ?_
  · refine XS.icmpNo X0.here hx rfl (hb hby d15_4) rfl (teq (by decide)).2 ?_
    refine XS.iconst X0.here hx rfl (hb hby d15_7) ?_
    refine XS.istoreN X0.here hx rfl (hb hby d15_8) rfl (l' := #[.val (.ref o0), .val (.ref o1), .val (.int z0)]) rfl ?_
    refine XS.iloadN X0.here hx rfl (hb hby d15_9) rfl ?_
    refine XS.aloadN X0.here hx rfl (hb hby d15_10) rfl rfl ?_
    exact kt
  obtain ⟨cl3, Ar3, -, Sz3, Nn3, -, -⟩ := id A_a
  have st3 := X0.arraylength hx (by rw [e0]; exact Ar3.1) (State.isArrayOf_alike hZ.alike Ar3.2.1) (g := (mkF m 11 #[sR o0, sR o1, sI z0] [(.ref o0), (.int z0)])) rfl rfl (hb hby d15_11)
  rw [len_of Sz3 Nn3] at st3
  refine Go.pre st3 ?_
  refine Go.pre (st' := s₁.setTop (mkF m 17 #[sR o0, sR o1, sI z0] [(.int z0), (.ref o0)])) (fun target kt => ?_) ?_
  · refine XS.icmpNo X0.here hx rfl (hb hby d15_12) rfl (tlt (by decide)).2.1 ?_
    refine XS.aloadN X0.here hx rfl (hb hby d15_15) rfl rfl ?_
    refine XS.iloadN X0.here hx rfl (hb hby d15_16) rfl ?_
    exact kt
  obtain ⟨cl4, Ar4, q4, Sz4, Nn4, Hs4, Gs4⟩ := id A_a
  have in4 := inb_of (j := z0) Sz4 ⟨by decide, by decide⟩
  have at4 : cl4.slots[(z0).toNatClampNeg]? = some (.int x0) := Has.at Hs4 in4 rfl
  refine Go.pre (X0.baloadBytes hx (j := z0) (v := (.int x0)) (by rw [e0]; exact Ar4.1) (State.isArrayOf_alike hZ.alike Ar4.2.1) Ar4.2.2 in4 at4 (g := (mkF m 17 #[sR o0, sR o1, sI z0] [(.int z0), (.ref o0)])) rfl rfl (hb hby d15_17)) ?_
  refine Go.pre (st' := s₁.setTop (mkF m 20 #[sR o0, sR o1, sI z0] [(.int z0), (.ref o1), (.int x0)])) (fun target kt => ?_) ?_
  · refine XS.aloadN X0.here hx rfl (hb hby d15_18) rfl rfl ?_
    refine XS.iloadN X0.here hx rfl (hb hby d15_19) rfl ?_
    exact kt
  obtain ⟨cl5, Ar5, q5, Sz5, Nn5, Hs5, Gs5⟩ := id A_b
  have in5 := inb_of (j := z0) Sz5 ⟨by decide, by decide⟩
  have at5 : cl5.slots[(z0).toNatClampNeg]? = some (.int y0) := Has.at Hs5 in5 rfl
  refine Go.pre (X0.baloadBytes hx (j := z0) (v := (.int y0)) (by rw [e0]; exact Ar5.1) (State.isArrayOf_alike hZ.alike Ar5.2.1) Ar5.2.2 in5 at5 (g := (mkF m 20 #[sR o0, sR o1, sI z0] [(.int z0), (.ref o1), (.int x0)])) rfl rfl (hb hby d15_20)) ?_
  refine Go.pre (st' := s₁.setTop (mkF m 25 #[sR o0, sR o1, sI z0] [(.int z0)])) (fun target kt => ?_) ?_
  · refine XS.icmpNo X0.here hx rfl (hb hby d15_21) rfl (feq hc21).1 ?_
    refine XS.iconst X0.here hx rfl (hb hby d15_24) ?_
    exact kt
  exact Go.retN X0 hx hlk hrt (z' := z0) (by simp) (hb hby d15_25) rfl (by decide) (by decide) (by rw [e0]; exact ⟨rfl, N0, rfl⟩)
/-! String.equals (14_1F) -/
theorem d14_54 : decode q11 54 = .ok (.iconst 0, 1) := by decide +kernel
theorem pd14_1F_0 : parseMethodDescriptor "([B[B)Z" = some ⟨[(.array .byte), (.array .byte)], some .boolean⟩ := by decide +kernel
theorem ef_14_1F (m : MethodId) (o0 : Addr) (o1 : Addr) : entryFrame m #[(.ref o0), (.ref o1)] 3 = (mkF m 0 #[.val (.ref o0), .val (.ref o1), .unset] []) := by first | (simp [entryFrame, mkF, argsToLocals, Value.category]; done) | rfl
def Q14_1F (Z : State) (o0 : Addr) (o1 : Addr) (zc : Int32) (ga : Int32) (va : Addr) (ka : ClassId) (x0 : Int32) (gb : Int32) (vb : Addr) (kb : ClassId) (y0 : Int32) (h0 : Heap) (n0 : Nat) (v : Option Value) (h : Heap) (L : List Loc) : Prop := v = some (.int z0) ∧ Fr n0 L ∧ h = h0
theorem rm14_1F (l : Launch) (Z : State) (a0 : Array Value) (hw : ∀ d ∈ tables_1, d.before a0 Z = true) (ws : List Jvm.Cond) (o0 : Addr) (o1 : Addr) (zc : Int32) (ga : Int32) (va : Addr) (ka : ClassId) (x0 : Int32) (gb : Int32) (vb : Addr) (kb : ClassId) (y0 : Int32) (h0 : Heap) (n0 : Nat) (Z0 : n0 ≤ h0.size) (S_COMPACT : Sta Z Z.heap cB "COMPACT_STRINGS" "Z" (.int zc)) (E_o0 : Exa Z h0 o0 cB) (F_ca : Fld Z h0 o0 cB "coder" "B" (.int ga)) (F_va : Fld Z h0 o0 cB "value" "[B" (.ref va)) (A_a : Arv Z h0 va ka .byte z1 [(.int x0)] (.int z0)) (E_o1 : Exa Z h0 o1 cB) (F_cb : Fld Z h0 o1 cB "coder" "B" (.int gb)) (F_vb : Fld Z h0 o1 cB "value" "[B" (.ref vb)) (A_b : Arv Z h0 vb kb .byte z1 [(.int y0)] (.int z0)) (n_o0_o1 : o0 ≠ o1) (Ol : Old Z n0 h0) (he0 : ¬ (x0 = y0)) (hc22 : ¬ (zc = z0)) (hc33 : ga = gb) :
    MetFree l (⟨cB, "equals", cH⟩ : MethodName) (head1 (Jvm.Cond.code (⟨cB, "equals", cH⟩ : MethodName) jdk_42_method_66_code 3 (some .boolean) :: ws) ({ frames := 1, cells := 0, slots := 0, locals := 14 } : Room)) (fun a U => a = #[(.ref o0), (.ref o1)] ∧ Z.Warmed39 U.vm ∧ U.heap = h0) (fun _ _ _ _ _ => True) (fun _ U o U' => ∃ v L, o = .returned v ∧ Q14_1F Z o0 o1 zc ga va ka x0 gb vb kb y0 h0 n0 v U'.heap L ∧ FrameEnd U o U' L ({ frames := 1, cells := 0, slots := 0, locals := 14 } : Room).cells ({ frames := 1, cells := 0, slots := 0, locals := 14 } : Room).slots) := by
  refine MetFree.of_bodySF (plainFor_of_name pn_14) hisR ?_
  intro p e s m args below meth c s₁ Bd hml0 hP hK
  obtain ⟨rfl, hZ, hh⟩ := hP
  have hx := Bd.exec
  have hby := Bd.bytes
  have hml : c.maxLocals = 3 := hml0
  have hown : s.vm.findClass cB = some m.cls := findClass_of_methodNamed Bd.named
  have hnm := (name_of_methodNamed Bd.named Bd.method).1
  have hrt := Bd.returns
  have hlk := Bd.notSynchronized
  have X0 : Stand p l e ({ frames := 1, cells := 0, slots := 0, locals := 14 } : Room) s m #[(.ref o0), (.ref o1)] below meth c s₁ [] 0 0 := Stand.of_body Bd
  have e0 : s₁.heap = h0 := by rw [← hh, Bd.state]; rfl
  have N0 := Fr.nil n0
  have lt_E_o0 : LT.lt (α := Nat) o0 h0.size := E_o0.lt
  have lt_A_a : LT.lt (α := Nat) va h0.size := A_a.lt
  have lt_E_o1 : LT.lt (α := Nat) o1 h0.size := E_o1.lt
  have lt_A_b : LT.lt (α := Nat) vb h0.size := A_b.lt
  show Go p e below s 0 0 (Q14_1F Z o0 o1 zc ga va ka x0 gb vb kb y0 h0 n0) (s₁.setTop (entryFrame m #[(.ref o0), (.ref o1)] 3))
  rw [ef_14_1F m o0 o1]
  refine Go.pre (st' := s₁.setTop (mkF m 8 #[sR o0, sR o1, sU] [(.ref o1)])) (fun target kt => ?_) ?_
  · refine XS.aloadN X0.here hx rfl (hb hby d14_0) rfl rfl ?_
    refine XS.aloadN X0.here hx rfl (hb hby d14_1) rfl rfl ?_
    refine Jvm.RoadKit.acmp (g := (mkF m 2 #[sR o0, sR o1, sU] [(.ref o1), (.ref o0)])) X0 hx rfl rfl rfl (pc0 := 2) (pc' := 7) (same := false) rfl (hb hby d14_2) rfl (decide_eq_false fun q => n_o0_o1 (Value.ref.inj q)) (by decide) (by decide) ?_
    refine XS.aloadN X0.here hx rfl (hb hby d14_7) rfl rfl ?_
    exact kt
  obtain ⟨T1, X1, e1, st1⟩ := instY X0 hx hZ hown (ow hw 9 rfl) e0 (Ins.self E_o1) (g := (mkF m 8 #[sR o0, sR o1, sU] [(.ref o1)])) rfl rfl (hb hby d14_8)
  refine Go.pre st1 ?_
  refine Go.pre (st' := T1.setTop (mkF m 15 #[sR o0, sR o1, sU] [(.ref o1)])) (fun target kt => ?_) ?_
  · refine XS.ifNo X1.here hx rfl (hb hby d14_11) rfl ((if0 _ _).trans (feq (by decide)).1) ?_
    refine XS.aloadN X1.here hx rfl (hb hby d14_14) rfl rfl ?_
    exact kt
  obtain ⟨T2, X2, e2, st2⟩ := castY X1 hx hZ hown (ow hw 9 rfl) e1 (Ins.self E_o1) (g := (mkF m 15 #[sR o0, sR o1, sU] [(.ref o1)])) rfl rfl (hb hby d14_15)
  refine Go.pre st2 ?_
  refine Go.pre (st' := T2.setTop (mkF m 19 #[sR o0, sR o1, sR o1] [])) (fun target kt => ?_) ?_
  · refine XS.astoreN X2.here hx rfl (hb hby d14_18) rfl rfl (l' := #[.val (.ref o0), .val (.ref o1), .val (.ref o1)]) rfl ?_
    exact kt
  obtain ⟨T3, X3, e3, st3⟩ := getS2 X2 hx hZ hown (host := "") (Or.inl (ow hw 4 rfl)) Via.refl e2 (S_COMPACT.ext Ol.2) (g := (mkF m 19 #[sR o0, sR o1, sR o1] [])) rfl (hb hby d14_19)
  refine Go.pre st3 ?_
  refine Go.pre (st' := T3.setTop (mkF m 26 #[sR o0, sR o1, sR o1] [(.ref o0)])) (fun target kt => ?_) ?_
  · refine XS.ifNo X3.here hx rfl (hb hby d14_22) rfl ((if0 _ _).trans (feq hc22).1) ?_
    refine XS.aloadN X3.here hx rfl (hb hby d14_25) rfl rfl ?_
    exact kt
  obtain ⟨T4, X4, e4, st4⟩ := getF X3 hx hZ hown (host := "") (Or.inl (ow hw 24 rfl)) Via.refl e3 F_ca (g := (mkF m 26 #[sR o0, sR o1, sR o1] [(.ref o0)])) rfl rfl (hb hby d14_26)
  refine Go.pre st4 ?_
  refine Go.pre (st' := T4.setTop (mkF m 30 #[sR o0, sR o1, sR o1] [(.ref o1), (.int ga)])) (fun target kt => ?_) ?_
  · refine XS.aloadN X4.here hx rfl (hb hby d14_29) rfl rfl ?_
    exact kt
  obtain ⟨T5, X5, e5, st5⟩ := getF X4 hx hZ hown (host := "") (Or.inl (ow hw 24 rfl)) Via.refl e4 F_cb (g := (mkF m 30 #[sR o0, sR o1, sR o1] [(.ref o1), (.int ga)])) rfl rfl (hb hby d14_30)
  refine Go.pre st5 ?_
  refine Go.pre (st' := T5.setTop (mkF m 37 #[sR o0, sR o1, sR o1] [(.ref o0)])) (fun target kt => ?_) ?_
  · refine XS.icmpNo X5.here hx rfl (hb hby d14_33) rfl (teq hc33).2 ?_
    refine XS.aloadN X5.here hx rfl (hb hby d14_36) rfl rfl ?_
    exact kt
  obtain ⟨T6, X6, e6, st6⟩ := getF X5 hx hZ hown (host := "") (Or.inl (ow hw 22 rfl)) Via.refl e5 F_va (g := (mkF m 37 #[sR o0, sR o1, sR o1] [(.ref o0)])) rfl rfl (hb hby d14_37)
  refine Go.pre st6 ?_
  refine Go.pre (st' := T6.setTop (mkF m 41 #[sR o0, sR o1, sR o1] [(.ref o1), (.ref va)])) (fun target kt => ?_) ?_
  · refine XS.aloadN X6.here hx rfl (hb hby d14_40) rfl rfl ?_
    exact kt
  obtain ⟨T7, X7, e7, st7⟩ := getF X6 hx hZ hown (host := "") (Or.inl (ow hw 22 rfl)) Via.refl e6 F_vb (g := (mkF m 41 #[sR o0, sR o1, sR o1] [(.ref o1), (.ref va)])) rfl rfl (hb hby d14_41)
  refine Go.pre st7 ?_
  obtain ⟨_, _, ⟨T8, L8, k8, n8⟩, -, X8, ⟨Lc8, hQ8, l8, y8, z8⟩, st8⟩ := Jvm.LawKit.callS X7 hx (y := (⟨cG, "equals", "([B[B)Z"⟩ : MethodName)) hown (mvT hZ (ow hw 101 rfl)) (mvT hZ (ow hw 102 rfl)) (mvT hZ (ow hw 7 rfl)) (mvT hZ (ow hw 103 rfl)) (by decide) (backOf (W := 0) (rm15_1F l Z a0 hw [] va vb ka x0 kb y0 h0 n0 (by omega) A_a A_b he0) hZ (ow hw 103 rfl) (ow hw 7 rfl) (by decide) (by decide)) (g := (mkF m 44 #[sR o0, sR o1, sR o1] [(.ref vb), (.ref va)])) rfl (by rw [hml]; rfl) (argsL := [(.ref va), (.ref vb)]) (rest := []) (lenOf pd14_1F_0 rfl) rfl (le0 rfl) (hb hby d14_44) (fun vm₁ hvm => ⟨rfl, e7, (by decide : 0 + 0 ≤ _), (by decide : 0 + 0 ≤ _)⟩)
  dsimp only [Pt.U, Pt.locs, Pt.cells, Pt.slots] at X8 l8 y8 z8 st8 hQ8
  subst l8 y8 z8
  obtain ⟨rfl, N8q, e8⟩ := hQ8
  have N8 := Fr.app N0 N8q
  refine Go.pre st8 ?_
  refine Go.pre (st' := T8.setTop (mkF m 55 #[sR o0, sR o1, sR o1] [(.int z0)])) (fun target kt => ?_) ?_
  · refine XS.ifYes X8.here hx rfl (pc0 := 47) (pc' := 54) rfl (hb hby d14_47) rfl ((if0 _ _).trans (teq (by decide)).1) (by decide) (by decide) ?_
    refine XS.iconst X8.here hx rfl (hb hby d14_54) ?_
    exact kt
  exact Go.retN X8 hx hlk hrt (z' := z0) (by simp) (hb hby d14_55) rfl (by decide) (by decide) (by rw [e8]; exact ⟨rfl, N8, rfl⟩)
/-! StringLatin1.equals (15_2T) -/
theorem ef_15_2T (m : MethodId) (o0 : Addr) (o1 : Addr) : entryFrame m #[(.ref o0), (.ref o1)] 3 = (mkF m 0 #[.val (.ref o0), .val (.ref o1), .unset] []) := by first | (simp [entryFrame, mkF, argsToLocals, Value.category]; done) | rfl
def Q15_2T (Z : State) (o0 : Addr) (o1 : Addr) (ka : ClassId) (x0 : Int32) (x1 : Int32) (kb : ClassId) (y0 : Int32) (y1 : Int32) (h0 : Heap) (n0 : Nat) (v : Option Value) (h : Heap) (L : List Loc) : Prop := v = some (.int z1) ∧ Fr n0 L ∧ h = h0
theorem rm15_2T (l : Launch) (Z : State) (a0 : Array Value) (hw : ∀ d ∈ tables_1, d.before a0 Z = true) (ws : List Jvm.Cond) (o0 : Addr) (o1 : Addr) (ka : ClassId) (x0 : Int32) (x1 : Int32) (kb : ClassId) (y0 : Int32) (y1 : Int32) (h0 : Heap) (n0 : Nat) (Z0 : n0 ≤ h0.size) (A_a : Arv Z h0 o0 ka .byte z2 [(.int x0), (.int x1)] (.int z0)) (A_b : Arv Z h0 o1 kb .byte z2 [(.int y0), (.int y1)] (.int z0)) (hc21 : x0 = y0) (hc21_9 : x1 = y1) :
    MetFree l (⟨cG, "equals", "([B[B)Z"⟩ : MethodName) (head1 (Jvm.Cond.code (⟨cG, "equals", "([B[B)Z"⟩ : MethodName) jdk_43_method_13_code 3 (some .boolean) :: ws) ({ frames := 0, cells := 0, slots := 0, locals := 0 } : Room)) (fun a U => a = #[(.ref o0), (.ref o1)] ∧ Z.Warmed39 U.vm ∧ U.heap = h0) (fun _ _ _ _ _ => True) (fun _ U o U' => ∃ v L, o = .returned v ∧ Q15_2T Z o0 o1 ka x0 x1 kb y0 y1 h0 n0 v U'.heap L ∧ FrameEnd U o U' L ({ frames := 0, cells := 0, slots := 0, locals := 0 } : Room).cells ({ frames := 0, cells := 0, slots := 0, locals := 0 } : Room).slots) := by
  refine MetFree.of_bodySF (plainFor_of_name pn_15) hisR ?_
  intro p e s m args below meth c s₁ Bd hml0 hP hK
  obtain ⟨rfl, hZ, hh⟩ := hP
  have hx := Bd.exec
  have hby := Bd.bytes
  have hml : c.maxLocals = 3 := hml0
  have hown : s.vm.findClass cG = some m.cls := findClass_of_methodNamed Bd.named
  have hnm := (name_of_methodNamed Bd.named Bd.method).1
  have hrt := Bd.returns
  have hlk := Bd.notSynchronized
  have X0 : Stand p l e ({ frames := 0, cells := 0, slots := 0, locals := 0 } : Room) s m #[(.ref o0), (.ref o1)] below meth c s₁ [] 0 0 := Stand.of_body Bd
  have e0 : s₁.heap = h0 := by rw [← hh, Bd.state]; rfl
  have N0 := Fr.nil n0
  have lt_A_a : LT.lt (α := Nat) o0 h0.size := A_a.lt
  have lt_A_b : LT.lt (α := Nat) o1 h0.size := A_b.lt
  show Go p e below s 0 0 (Q15_2T Z o0 o1 ka x0 x1 kb y0 y1 h0 n0) (s₁.setTop (entryFrame m #[(.ref o0), (.ref o1)] 3))
  rw [ef_15_2T m o0 o1]
  refine Go.pre (st' := s₁.setTop (mkF m 1 #[sR o0, sR o1, sU] [(.ref o0)])) (fun target kt => ?_) ?_
  · refine XS.aloadN X0.here hx rfl (hb hby d15_0) rfl rfl ?_
    exact kt
  obtain ⟨cl1, Ar1, -, Sz1, Nn1, -, -⟩ := id A_a
  have st1 := X0.arraylength hx (by rw [e0]; exact Ar1.1) (State.isArrayOf_alike hZ.alike Ar1.2.1) (g := (mkF m 1 #[sR o0, sR o1, sU] [(.ref o0)])) rfl rfl (hb hby d15_1)
  rw [len_of Sz1 Nn1] at st1
  refine Go.pre st1 ?_
  refine Go.pre (st' := s₁.setTop (mkF m 3 #[sR o0, sR o1, sU] [(.ref o1), (.int z2)])) (fun target kt => ?_) ?_
  · refine XS.aloadN X0.here hx rfl (hb hby d15_2) rfl rfl ?_
    exact kt
  obtain ⟨cl2, Ar2, -, Sz2, Nn2, -, -⟩ := id A_b
  have st2 := X0.arraylength hx (by rw [e0]; exact Ar2.1) (State.isArrayOf_alike hZ.alike Ar2.2.1) (g := (mkF m 3 #[sR o0, sR o1, sU] [(.ref o1), (.int z2)])) rfl rfl (hb hby d15_3)
  rw [len_of Sz2 Nn2] at st2
  refine Go.pre st2 ?_
  refine Go.pre (st' := s₁.setTop (mkF m 11 #[sR o0, sR o1, sI z0] [(.ref o0), (.int z0)])) (fun target kt => ?_) ?_
  · refine XS.icmpNo X0.here hx rfl (hb hby d15_4) rfl (teq (by decide)).2 ?_
    refine XS.iconst X0.here hx rfl (hb hby d15_7) ?_
    refine XS.istoreN X0.here hx rfl (hb hby d15_8) rfl (l' := #[.val (.ref o0), .val (.ref o1), .val (.int z0)]) rfl ?_
    refine XS.iloadN X0.here hx rfl (hb hby d15_9) rfl ?_
    refine XS.aloadN X0.here hx rfl (hb hby d15_10) rfl rfl ?_
    exact kt
  obtain ⟨cl3, Ar3, -, Sz3, Nn3, -, -⟩ := id A_a
  have st3 := X0.arraylength hx (by rw [e0]; exact Ar3.1) (State.isArrayOf_alike hZ.alike Ar3.2.1) (g := (mkF m 11 #[sR o0, sR o1, sI z0] [(.ref o0), (.int z0)])) rfl rfl (hb hby d15_11)
  rw [len_of Sz3 Nn3] at st3
  refine Go.pre st3 ?_
  refine Go.pre (st' := s₁.setTop (mkF m 17 #[sR o0, sR o1, sI z0] [(.int z0), (.ref o0)])) (fun target kt => ?_) ?_
  · refine XS.icmpNo X0.here hx rfl (hb hby d15_12) rfl (tlt (by decide)).2.1 ?_
    refine XS.aloadN X0.here hx rfl (hb hby d15_15) rfl rfl ?_
    refine XS.iloadN X0.here hx rfl (hb hby d15_16) rfl ?_
    exact kt
  obtain ⟨cl4, Ar4, q4, Sz4, Nn4, Hs4, Gs4⟩ := id A_a
  have in4 := inb_of (j := z0) Sz4 ⟨by decide, by decide⟩
  have at4 : cl4.slots[(z0).toNatClampNeg]? = some (.int x0) := Has.at Hs4 in4 rfl
  refine Go.pre (X0.baloadBytes hx (j := z0) (v := (.int x0)) (by rw [e0]; exact Ar4.1) (State.isArrayOf_alike hZ.alike Ar4.2.1) Ar4.2.2 in4 at4 (g := (mkF m 17 #[sR o0, sR o1, sI z0] [(.int z0), (.ref o0)])) rfl rfl (hb hby d15_17)) ?_
  refine Go.pre (st' := s₁.setTop (mkF m 20 #[sR o0, sR o1, sI z0] [(.int z0), (.ref o1), (.int x0)])) (fun target kt => ?_) ?_
  · refine XS.aloadN X0.here hx rfl (hb hby d15_18) rfl rfl ?_
    refine XS.iloadN X0.here hx rfl (hb hby d15_19) rfl ?_
    exact kt
  obtain ⟨cl5, Ar5, q5, Sz5, Nn5, Hs5, Gs5⟩ := id A_b
  have in5 := inb_of (j := z0) Sz5 ⟨by decide, by decide⟩
  have at5 : cl5.slots[(z0).toNatClampNeg]? = some (.int y0) := Has.at Hs5 in5 rfl
  refine Go.pre (X0.baloadBytes hx (j := z0) (v := (.int y0)) (by rw [e0]; exact Ar5.1) (State.isArrayOf_alike hZ.alike Ar5.2.1) Ar5.2.2 in5 at5 (g := (mkF m 20 #[sR o0, sR o1, sI z0] [(.int z0), (.ref o1), (.int x0)])) rfl rfl (hb hby d15_20)) ?_
  refine Go.pre (st' := s₁.setTop (mkF m 11 #[sR o0, sR o1, sI z1] [(.ref o0), (.int z1)])) (fun target kt => ?_) ?_
  · refine XS.icmpYes X0.here hx rfl (pc0 := 21) (pc' := 26) rfl (hb hby d15_21) rfl (teq hc21).1 (by decide) (by decide) ?_
    refine XS.iinc X0.here hx rfl (hb hby d15_26) rfl (l' := #[.val (.ref o0), .val (.ref o1), .val (.int z1)]) rfl ?_
    refine XS.goto X0.here hx rfl (pc0 := 29) (pc' := 9) rfl (hb hby d15_29) (by decide) (by decide) ?_
    refine XS.iloadN X0.here hx rfl (hb hby d15_9) rfl ?_
    refine XS.aloadN X0.here hx rfl (hb hby d15_10) rfl rfl ?_
    exact kt
  obtain ⟨cl6, Ar6, -, Sz6, Nn6, -, -⟩ := id A_a
  have st6 := X0.arraylength hx (by rw [e0]; exact Ar6.1) (State.isArrayOf_alike hZ.alike Ar6.2.1) (g := (mkF m 11 #[sR o0, sR o1, sI z1] [(.ref o0), (.int z1)])) rfl rfl (hb hby d15_11)
  rw [len_of Sz6 Nn6] at st6
  refine Go.pre st6 ?_
  refine Go.pre (st' := s₁.setTop (mkF m 17 #[sR o0, sR o1, sI z1] [(.int z1), (.ref o0)])) (fun target kt => ?_) ?_
  · refine XS.icmpNo X0.here hx rfl (hb hby d15_12) rfl (tlt (by decide)).2.1 ?_
    refine XS.aloadN X0.here hx rfl (hb hby d15_15) rfl rfl ?_
    refine XS.iloadN X0.here hx rfl (hb hby d15_16) rfl ?_
    exact kt
  obtain ⟨cl7, Ar7, q7, Sz7, Nn7, Hs7, Gs7⟩ := id A_a
  have in7 := inb_of (j := z1) Sz7 ⟨by decide, by decide⟩
  have at7 : cl7.slots[(z1).toNatClampNeg]? = some (.int x1) := Has.at Hs7 in7 rfl
  refine Go.pre (X0.baloadBytes hx (j := z1) (v := (.int x1)) (by rw [e0]; exact Ar7.1) (State.isArrayOf_alike hZ.alike Ar7.2.1) Ar7.2.2 in7 at7 (g := (mkF m 17 #[sR o0, sR o1, sI z1] [(.int z1), (.ref o0)])) rfl rfl (hb hby d15_17)) ?_
  refine Go.pre (st' := s₁.setTop (mkF m 20 #[sR o0, sR o1, sI z1] [(.int z1), (.ref o1), (.int x1)])) (fun target kt => ?_) ?_
  · refine XS.aloadN X0.here hx rfl (hb hby d15_18) rfl rfl ?_
    refine XS.iloadN X0.here hx rfl (hb hby d15_19) rfl ?_
    exact kt
  obtain ⟨cl8, Ar8, q8, Sz8, Nn8, Hs8, Gs8⟩ := id A_b
  have in8 := inb_of (j := z1) Sz8 ⟨by decide, by decide⟩
  have at8 : cl8.slots[(z1).toNatClampNeg]? = some (.int y1) := Has.at Hs8 in8 rfl
  refine Go.pre (X0.baloadBytes hx (j := z1) (v := (.int y1)) (by rw [e0]; exact Ar8.1) (State.isArrayOf_alike hZ.alike Ar8.2.1) Ar8.2.2 in8 at8 (g := (mkF m 20 #[sR o0, sR o1, sI z1] [(.int z1), (.ref o1), (.int x1)])) rfl rfl (hb hby d15_20)) ?_
  refine Go.pre (st' := s₁.setTop (mkF m 11 #[sR o0, sR o1, sI z2] [(.ref o0), (.int z2)])) (fun target kt => ?_) ?_
  · refine XS.icmpYes X0.here hx rfl (pc0 := 21) (pc' := 26) rfl (hb hby d15_21) rfl (teq hc21_9).1 (by decide) (by decide) ?_
    refine XS.iinc X0.here hx rfl (hb hby d15_26) rfl (l' := #[.val (.ref o0), .val (.ref o1), .val (.int z2)]) rfl ?_
    refine XS.goto X0.here hx rfl (pc0 := 29) (pc' := 9) rfl (hb hby d15_29) (by decide) (by decide) ?_
    refine XS.iloadN X0.here hx rfl (hb hby d15_9) rfl ?_
    refine XS.aloadN X0.here hx rfl (hb hby d15_10) rfl rfl ?_
    exact kt
  obtain ⟨cl10, Ar10, -, Sz10, Nn10, -, -⟩ := id A_a
  have st10 := X0.arraylength hx (by rw [e0]; exact Ar10.1) (State.isArrayOf_alike hZ.alike Ar10.2.1) (g := (mkF m 11 #[sR o0, sR o1, sI z2] [(.ref o0), (.int z2)])) rfl rfl (hb hby d15_11)
  rw [len_of Sz10 Nn10] at st10
  refine Go.pre st10 ?_
  refine Go.pre (st' := s₁.setTop (mkF m 33 #[sR o0, sR o1, sI z2] [(.int z1)])) (fun target kt => ?_) ?_
  · refine XS.icmpYes X0.here hx rfl (pc0 := 12) (pc' := 32) rfl (hb hby d15_12) rfl (flt (by decide)).2.1 (by decide) (by decide) ?_
    refine XS.iconst X0.here hx rfl (hb hby d15_32) ?_
    exact kt
  exact Go.retN X0 hx hlk hrt (z' := z1) (by simp) (hb hby d15_33) rfl (by decide) (by decide) (by rw [e0]; exact ⟨rfl, N0, rfl⟩)
/-! String.equals (14_2T) -/
theorem pd14_2T_0 : parseMethodDescriptor "([B[B)Z" = some ⟨[(.array .byte), (.array .byte)], some .boolean⟩ := by decide +kernel
theorem ef_14_2T (m : MethodId) (o0 : Addr) (o1 : Addr) : entryFrame m #[(.ref o0), (.ref o1)] 3 = (mkF m 0 #[.val (.ref o0), .val (.ref o1), .unset] []) := by first | (simp [entryFrame, mkF, argsToLocals, Value.category]; done) | rfl
def Q14_2T (Z : State) (o0 : Addr) (o1 : Addr) (zc : Int32) (ga : Int32) (va : Addr) (ka : ClassId) (x0 : Int32) (x1 : Int32) (gb : Int32) (vb : Addr) (kb : ClassId) (y0 : Int32) (y1 : Int32) (h0 : Heap) (n0 : Nat) (v : Option Value) (h : Heap) (L : List Loc) : Prop := v = some (.int z1) ∧ Fr n0 L ∧ h = h0
theorem rm14_2T (l : Launch) (Z : State) (a0 : Array Value) (hw : ∀ d ∈ tables_1, d.before a0 Z = true) (ws : List Jvm.Cond) (o0 : Addr) (o1 : Addr) (zc : Int32) (ga : Int32) (va : Addr) (ka : ClassId) (x0 : Int32) (x1 : Int32) (gb : Int32) (vb : Addr) (kb : ClassId) (y0 : Int32) (y1 : Int32) (h0 : Heap) (n0 : Nat) (Z0 : n0 ≤ h0.size) (S_COMPACT : Sta Z Z.heap cB "COMPACT_STRINGS" "Z" (.int zc)) (E_o0 : Exa Z h0 o0 cB) (F_ca : Fld Z h0 o0 cB "coder" "B" (.int ga)) (F_va : Fld Z h0 o0 cB "value" "[B" (.ref va)) (A_a : Arv Z h0 va ka .byte z2 [(.int x0), (.int x1)] (.int z0)) (E_o1 : Exa Z h0 o1 cB) (F_cb : Fld Z h0 o1 cB "coder" "B" (.int gb)) (F_vb : Fld Z h0 o1 cB "value" "[B" (.ref vb)) (A_b : Arv Z h0 vb kb .byte z2 [(.int y0), (.int y1)] (.int z0)) (n_o0_o1 : o0 ≠ o1) (Ol : Old Z n0 h0) (he0 : x0 = y0) (he1 : x1 = y1) (hc22 : ¬ (zc = z0)) (hc33 : ga = gb) :
    MetFree l (⟨cB, "equals", cH⟩ : MethodName) (head1 (Jvm.Cond.code (⟨cB, "equals", cH⟩ : MethodName) jdk_42_method_66_code 3 (some .boolean) :: ws) ({ frames := 1, cells := 0, slots := 0, locals := 14 } : Room)) (fun a U => a = #[(.ref o0), (.ref o1)] ∧ Z.Warmed39 U.vm ∧ U.heap = h0) (fun _ _ _ _ _ => True) (fun _ U o U' => ∃ v L, o = .returned v ∧ Q14_2T Z o0 o1 zc ga va ka x0 x1 gb vb kb y0 y1 h0 n0 v U'.heap L ∧ FrameEnd U o U' L ({ frames := 1, cells := 0, slots := 0, locals := 14 } : Room).cells ({ frames := 1, cells := 0, slots := 0, locals := 14 } : Room).slots) := by
  refine MetFree.of_bodySF (plainFor_of_name pn_14) hisR ?_
  intro p e s m args below meth c s₁ Bd hml0 hP hK
  obtain ⟨rfl, hZ, hh⟩ := hP
  have hx := Bd.exec
  have hby := Bd.bytes
  have hml : c.maxLocals = 3 := hml0
  have hown : s.vm.findClass cB = some m.cls := findClass_of_methodNamed Bd.named
  have hnm := (name_of_methodNamed Bd.named Bd.method).1
  have hrt := Bd.returns
  have hlk := Bd.notSynchronized
  have X0 : Stand p l e ({ frames := 1, cells := 0, slots := 0, locals := 14 } : Room) s m #[(.ref o0), (.ref o1)] below meth c s₁ [] 0 0 := Stand.of_body Bd
  have e0 : s₁.heap = h0 := by rw [← hh, Bd.state]; rfl
  have N0 := Fr.nil n0
  have lt_E_o0 : LT.lt (α := Nat) o0 h0.size := E_o0.lt
  have lt_A_a : LT.lt (α := Nat) va h0.size := A_a.lt
  have lt_E_o1 : LT.lt (α := Nat) o1 h0.size := E_o1.lt
  have lt_A_b : LT.lt (α := Nat) vb h0.size := A_b.lt
  show Go p e below s 0 0 (Q14_2T Z o0 o1 zc ga va ka x0 x1 gb vb kb y0 y1 h0 n0) (s₁.setTop (entryFrame m #[(.ref o0), (.ref o1)] 3))
  rw [ef_14_2T m o0 o1]
  refine Go.pre (st' := s₁.setTop (mkF m 8 #[sR o0, sR o1, sU] [(.ref o1)])) (fun target kt => ?_) ?_
  · refine XS.aloadN X0.here hx rfl (hb hby d14_0) rfl rfl ?_
    refine XS.aloadN X0.here hx rfl (hb hby d14_1) rfl rfl ?_
    refine Jvm.RoadKit.acmp (g := (mkF m 2 #[sR o0, sR o1, sU] [(.ref o1), (.ref o0)])) X0 hx rfl rfl rfl (pc0 := 2) (pc' := 7) (same := false) rfl (hb hby d14_2) rfl (decide_eq_false fun q => n_o0_o1 (Value.ref.inj q)) (by decide) (by decide) ?_
    refine XS.aloadN X0.here hx rfl (hb hby d14_7) rfl rfl ?_
    exact kt
  obtain ⟨T1, X1, e1, st1⟩ := instY X0 hx hZ hown (ow hw 9 rfl) e0 (Ins.self E_o1) (g := (mkF m 8 #[sR o0, sR o1, sU] [(.ref o1)])) rfl rfl (hb hby d14_8)
  refine Go.pre st1 ?_
  refine Go.pre (st' := T1.setTop (mkF m 15 #[sR o0, sR o1, sU] [(.ref o1)])) (fun target kt => ?_) ?_
  · refine XS.ifNo X1.here hx rfl (hb hby d14_11) rfl ((if0 _ _).trans (feq (by decide)).1) ?_
    refine XS.aloadN X1.here hx rfl (hb hby d14_14) rfl rfl ?_
    exact kt
  obtain ⟨T2, X2, e2, st2⟩ := castY X1 hx hZ hown (ow hw 9 rfl) e1 (Ins.self E_o1) (g := (mkF m 15 #[sR o0, sR o1, sU] [(.ref o1)])) rfl rfl (hb hby d14_15)
  refine Go.pre st2 ?_
  refine Go.pre (st' := T2.setTop (mkF m 19 #[sR o0, sR o1, sR o1] [])) (fun target kt => ?_) ?_
  · refine XS.astoreN X2.here hx rfl (hb hby d14_18) rfl rfl (l' := #[.val (.ref o0), .val (.ref o1), .val (.ref o1)]) rfl ?_
    exact kt
  obtain ⟨T3, X3, e3, st3⟩ := getS2 X2 hx hZ hown (host := "") (Or.inl (ow hw 4 rfl)) Via.refl e2 (S_COMPACT.ext Ol.2) (g := (mkF m 19 #[sR o0, sR o1, sR o1] [])) rfl (hb hby d14_19)
  refine Go.pre st3 ?_
  refine Go.pre (st' := T3.setTop (mkF m 26 #[sR o0, sR o1, sR o1] [(.ref o0)])) (fun target kt => ?_) ?_
  · refine XS.ifNo X3.here hx rfl (hb hby d14_22) rfl ((if0 _ _).trans (feq hc22).1) ?_
    refine XS.aloadN X3.here hx rfl (hb hby d14_25) rfl rfl ?_
    exact kt
  obtain ⟨T4, X4, e4, st4⟩ := getF X3 hx hZ hown (host := "") (Or.inl (ow hw 24 rfl)) Via.refl e3 F_ca (g := (mkF m 26 #[sR o0, sR o1, sR o1] [(.ref o0)])) rfl rfl (hb hby d14_26)
  refine Go.pre st4 ?_
  refine Go.pre (st' := T4.setTop (mkF m 30 #[sR o0, sR o1, sR o1] [(.ref o1), (.int ga)])) (fun target kt => ?_) ?_
  · refine XS.aloadN X4.here hx rfl (hb hby d14_29) rfl rfl ?_
    exact kt
  obtain ⟨T5, X5, e5, st5⟩ := getF X4 hx hZ hown (host := "") (Or.inl (ow hw 24 rfl)) Via.refl e4 F_cb (g := (mkF m 30 #[sR o0, sR o1, sR o1] [(.ref o1), (.int ga)])) rfl rfl (hb hby d14_30)
  refine Go.pre st5 ?_
  refine Go.pre (st' := T5.setTop (mkF m 37 #[sR o0, sR o1, sR o1] [(.ref o0)])) (fun target kt => ?_) ?_
  · refine XS.icmpNo X5.here hx rfl (hb hby d14_33) rfl (teq hc33).2 ?_
    refine XS.aloadN X5.here hx rfl (hb hby d14_36) rfl rfl ?_
    exact kt
  obtain ⟨T6, X6, e6, st6⟩ := getF X5 hx hZ hown (host := "") (Or.inl (ow hw 22 rfl)) Via.refl e5 F_va (g := (mkF m 37 #[sR o0, sR o1, sR o1] [(.ref o0)])) rfl rfl (hb hby d14_37)
  refine Go.pre st6 ?_
  refine Go.pre (st' := T6.setTop (mkF m 41 #[sR o0, sR o1, sR o1] [(.ref o1), (.ref va)])) (fun target kt => ?_) ?_
  · refine XS.aloadN X6.here hx rfl (hb hby d14_40) rfl rfl ?_
    exact kt
  obtain ⟨T7, X7, e7, st7⟩ := getF X6 hx hZ hown (host := "") (Or.inl (ow hw 22 rfl)) Via.refl e6 F_vb (g := (mkF m 41 #[sR o0, sR o1, sR o1] [(.ref o1), (.ref va)])) rfl rfl (hb hby d14_41)
  refine Go.pre st7 ?_
  obtain ⟨_, _, ⟨T8, L8, k8, n8⟩, -, X8, ⟨Lc8, hQ8, l8, y8, z8⟩, st8⟩ := Jvm.LawKit.callS X7 hx (y := (⟨cG, "equals", "([B[B)Z"⟩ : MethodName)) hown (mvT hZ (ow hw 101 rfl)) (mvT hZ (ow hw 102 rfl)) (mvT hZ (ow hw 7 rfl)) (mvT hZ (ow hw 103 rfl)) (by decide) (backOf (W := 0) (rm15_2T l Z a0 hw [] va vb ka x0 x1 kb y0 y1 h0 n0 (by omega) A_a A_b he0 he1) hZ (ow hw 103 rfl) (ow hw 7 rfl) (by decide) (by decide)) (g := (mkF m 44 #[sR o0, sR o1, sR o1] [(.ref vb), (.ref va)])) rfl (by rw [hml]; rfl) (argsL := [(.ref va), (.ref vb)]) (rest := []) (lenOf pd14_2T_0 rfl) rfl (le0 rfl) (hb hby d14_44) (fun vm₁ hvm => ⟨rfl, e7, (by decide : 0 + 0 ≤ _), (by decide : 0 + 0 ≤ _)⟩)
  dsimp only [Pt.U, Pt.locs, Pt.cells, Pt.slots] at X8 l8 y8 z8 st8 hQ8
  subst l8 y8 z8
  obtain ⟨rfl, N8q, e8⟩ := hQ8
  have N8 := Fr.app N0 N8q
  refine Go.pre st8 ?_
  refine Go.pre (st' := T8.setTop (mkF m 55 #[sR o0, sR o1, sR o1] [(.int z1)])) (fun target kt => ?_) ?_
  · refine XS.ifNo X8.here hx rfl (hb hby d14_47) rfl ((if0 _ _).trans (feq (by decide)).1) ?_
    refine XS.iconst X8.here hx rfl (hb hby d14_50) ?_
    refine XS.goto X8.here hx rfl (pc0 := 51) (pc' := 55) rfl (hb hby d14_51) (by decide) (by decide) ?_
    exact kt
  exact Go.retN X8 hx hlk hrt (z' := z1) (by simp) (hb hby d14_55) rfl (by decide) (by decide) (by rw [e8]; exact ⟨rfl, N8, rfl⟩)
/-! String.isLatin1 (25) -/
theorem d25_0 : decode q6 0 = .ok (.getstatic 38, 3) := by decide +kernel
theorem d25_3 : decode q6 3 = .ok (.ifCond .eq 14, 3) := by decide +kernel
theorem d25_6 : decode q6 6 = .ok (.aload_n 0, 1) := by decide +kernel
theorem d25_7 : decode q6 7 = .ok (.getfield 15, 3) := by decide +kernel
theorem d25_10 : decode q6 10 = .ok (.ifCond .ne 7, 3) := by decide +kernel
theorem d25_13 : decode q6 13 = .ok (.iconst 1, 1) := by decide +kernel
theorem d25_14 : decode q6 14 = .ok (.goto 4, 3) := by decide +kernel
theorem d25_18 : decode q6 18 = .ok (.ireturn, 1) := by decide +kernel
theorem pn_25 : plainName "java/lang/String" = true := by first | (simp [plainName, overriddenIn]; done) | decide +kernel
theorem ef_25 (m : MethodId) (o0 : Addr) : entryFrame m #[(.ref o0)] 1 = (mkF m 0 #[.val (.ref o0)] []) := by first | (simp [entryFrame, mkF, argsToLocals, Value.category]; done) | rfl
def Q25 (Z : State) (o0 : Addr) (zc : Int32) (g0 : Int32) (h0 : Heap) (n0 : Nat) (v : Option Value) (h : Heap) (L : List Loc) : Prop := v = some (.int z1) ∧ Fr n0 L ∧ h = h0
theorem rm25 (l : Launch) (Z : State) (a0 : Array Value) (hw : ∀ d ∈ tables_1, d.before a0 Z = true) (ws : List Jvm.Cond) (o0 : Addr) (zc : Int32) (g0 : Int32) (h0 : Heap) (n0 : Nat) (Z0 : n0 ≤ h0.size) (S_COMPACT : Sta Z Z.heap cB "COMPACT_STRINGS" "Z" (.int zc)) (F_c : Fld Z h0 o0 cB "coder" "B" (.int g0)) (Ol : Old Z n0 h0) (hc3 : ¬ (zc = z0)) (hc10 : g0 = z0) :
    MetFree l (⟨cB, "isLatin1", "()Z"⟩ : MethodName) (head1 (Jvm.Cond.code (⟨cB, "isLatin1", "()Z"⟩ : MethodName) jdk_42_method_154_code 1 (some .boolean) :: ws) ({ frames := 0, cells := 0, slots := 0, locals := 0 } : Room)) (fun a U => a = #[(.ref o0)] ∧ Z.Warmed39 U.vm ∧ U.heap = h0) (fun _ _ _ _ _ => True) (fun _ U o U' => ∃ v L, o = .returned v ∧ Q25 Z o0 zc g0 h0 n0 v U'.heap L ∧ FrameEnd U o U' L ({ frames := 0, cells := 0, slots := 0, locals := 0 } : Room).cells ({ frames := 0, cells := 0, slots := 0, locals := 0 } : Room).slots) := by
  refine MetFree.of_bodySF (plainFor_of_name pn_25) hisR ?_
  intro p e s m args below meth c s₁ Bd hml0 hP hK
  obtain ⟨rfl, hZ, hh⟩ := hP
  have hx := Bd.exec
  have hby := Bd.bytes
  have hml : c.maxLocals = 1 := hml0
  have hown : s.vm.findClass cB = some m.cls := findClass_of_methodNamed Bd.named
  have hnm := (name_of_methodNamed Bd.named Bd.method).1
  have hrt := Bd.returns
  have hlk := Bd.notSynchronized
  have X0 : Stand p l e ({ frames := 0, cells := 0, slots := 0, locals := 0 } : Room) s m #[(.ref o0)] below meth c s₁ [] 0 0 := Stand.of_body Bd
  have e0 : s₁.heap = h0 := by rw [← hh, Bd.state]; rfl
  have N0 := Fr.nil n0
  have lt_F_c : LT.lt (α := Nat) o0 h0.size := F_c.lt
  show Go p e below s 0 0 (Q25 Z o0 zc g0 h0 n0) (s₁.setTop (entryFrame m #[(.ref o0)] 1))
  rw [ef_25 m o0]
  obtain ⟨T1, X1, e1, st1⟩ := getS2 X0 hx hZ hown (host := "") (Or.inl (ow hw 4 rfl)) Via.refl e0 (S_COMPACT.ext Ol.2) (g := (mkF m 0 #[sR o0] [])) rfl (hb hby d25_0)
  refine Go.pre st1 ?_
  refine Go.pre (st' := T1.setTop (mkF m 7 #[sR o0] [(.ref o0)])) (fun target kt => ?_) ?_
  · refine XS.ifNo X1.here hx rfl (hb hby d25_3) rfl ((if0 _ _).trans (feq hc3).1) ?_
    refine XS.aloadN X1.here hx rfl (hb hby d25_6) rfl rfl ?_
    exact kt
  obtain ⟨T2, X2, e2, st2⟩ := getF X1 hx hZ hown (host := "") (Or.inl (ow hw 24 rfl)) Via.refl e1 F_c (g := (mkF m 7 #[sR o0] [(.ref o0)])) rfl rfl (hb hby d25_7)
  refine Go.pre st2 ?_
  refine Go.pre (st' := T2.setTop (mkF m 18 #[sR o0] [(.int z1)])) (fun target kt => ?_) ?_
  · refine XS.ifNo X2.here hx rfl (hb hby d25_10) rfl ((if0 _ _).trans (teq hc10).2) ?_
    refine XS.iconst X2.here hx rfl (hb hby d25_13) ?_
    refine XS.goto X2.here hx rfl (pc0 := 14) (pc' := 18) rfl (hb hby d25_14) (by decide) (by decide) ?_
    exact kt
  exact Go.retN X2 hx hlk hrt (z' := z1) (by simp) (hb hby d25_18) rfl (by decide) (by decide) (by rw [e2]; exact ⟨rfl, N0, rfl⟩)
/-! StringLatin1.hashCode (26) -/
theorem d26_0 : decode q14 0 = .ok (.aload_n 0, 1) := by decide +kernel
theorem d26_1 : decode q14 1 = .ok (.arraylength, 1) := by decide +kernel
theorem d26_2 : decode q14 2 = .ok (.lookupswitch 40 #[(0, 26), (1, 30)], 26) := by decide +kernel
theorem d26_32 : decode q14 32 = .ok (.aload_n 0, 1) := by decide +kernel
theorem d26_33 : decode q14 33 = .ok (.iconst 0, 1) := by decide +kernel
theorem d26_34 : decode q14 34 = .ok (.baload, 1) := by decide +kernel
theorem d26_35 : decode q14 35 = .ok (.sipush 255, 3) := by decide +kernel
theorem d26_38 : decode q14 38 = .ok (.iand, 1) := by decide +kernel
theorem d26_39 : decode q14 39 = .ok (.goto 12, 3) := by decide +kernel
theorem d26_51 : decode q14 51 = .ok (.ireturn, 1) := by decide +kernel
theorem pn_26 : plainName "java/lang/StringLatin1" = true := by first | (simp [plainName, overriddenIn]; done) | decide +kernel
theorem ef_26 (m : MethodId) (o0 : Addr) : entryFrame m #[(.ref o0)] 1 = (mkF m 0 #[.val (.ref o0)] []) := by first | (simp [entryFrame, mkF, argsToLocals, Value.category]; done) | rfl
def Q26 (Z : State) (o0 : Addr) (ka : ClassId) (c0 : Int32) (h0 : Heap) (n0 : Nat) (v : Option Value) (h : Heap) (L : List Loc) : Prop := v = some (.int (c0 &&& z255)) ∧ Fr n0 L ∧ h = h0
theorem rm26 (l : Launch) (Z : State) (a0 : Array Value) (hw : ∀ d ∈ tables_1, d.before a0 Z = true) (ws : List Jvm.Cond) (o0 : Addr) (ka : ClassId) (c0 : Int32) (h0 : Heap) (n0 : Nat) (Z0 : n0 ≤ h0.size) (A_o : Arv Z h0 o0 ka .byte z1 [(.int c0)] (.int z0)) :
    MetFree l (⟨cG, "hashCode", "([B)I"⟩ : MethodName) (head1 (Jvm.Cond.code (⟨cG, "hashCode", "([B)I"⟩ : MethodName) jdk_43_method_21_code 1 (some .int) :: ws) ({ frames := 0, cells := 0, slots := 0, locals := 0 } : Room)) (fun a U => a = #[(.ref o0)] ∧ Z.Warmed39 U.vm ∧ U.heap = h0) (fun _ _ _ _ _ => True) (fun _ U o U' => ∃ v L, o = .returned v ∧ Q26 Z o0 ka c0 h0 n0 v U'.heap L ∧ FrameEnd U o U' L ({ frames := 0, cells := 0, slots := 0, locals := 0 } : Room).cells ({ frames := 0, cells := 0, slots := 0, locals := 0 } : Room).slots) := by
  refine MetFree.of_bodySF (plainFor_of_name pn_26) hisR ?_
  intro p e s m args below meth c s₁ Bd hml0 hP hK
  obtain ⟨rfl, hZ, hh⟩ := hP
  have hx := Bd.exec
  have hby := Bd.bytes
  have hml : c.maxLocals = 1 := hml0
  have hown : s.vm.findClass cG = some m.cls := findClass_of_methodNamed Bd.named
  have hnm := (name_of_methodNamed Bd.named Bd.method).1
  have hrt := Bd.returns
  have hlk := Bd.notSynchronized
  have X0 : Stand p l e ({ frames := 0, cells := 0, slots := 0, locals := 0 } : Room) s m #[(.ref o0)] below meth c s₁ [] 0 0 := Stand.of_body Bd
  have e0 : s₁.heap = h0 := by rw [← hh, Bd.state]; rfl
  have N0 := Fr.nil n0
  have lt_A_o : LT.lt (α := Nat) o0 h0.size := A_o.lt
  show Go p e below s 0 0 (Q26 Z o0 ka c0 h0 n0) (s₁.setTop (entryFrame m #[(.ref o0)] 1))
  rw [ef_26 m o0]
  refine Go.pre (st' := s₁.setTop (mkF m 1 #[sR o0] [(.ref o0)])) (fun target kt => ?_) ?_
  · refine XS.aloadN X0.here hx rfl (hb hby d26_0) rfl rfl ?_
    exact kt
  obtain ⟨cl1, Ar1, -, Sz1, Nn1, -, -⟩ := id A_o
  have st1 := X0.arraylength hx (by rw [e0]; exact Ar1.1) (State.isArrayOf_alike hZ.alike Ar1.2.1) (g := (mkF m 1 #[sR o0] [(.ref o0)])) rfl rfl (hb hby d26_1)
  rw [len_of Sz1 Nn1] at st1
  refine Go.pre st1 ?_
  refine Go.pre (X0.lookupswitchHit hx (g := (mkF m 2 #[sR o0] [(.int z1)])) rfl rfl (hb hby d26_2) (by decide) (a := 1) (off := 30) (by decide) (by show (0 : Int) ≤ ((2 : Nat) : Int) + 30; decide)) ?_
  refine Go.pre (st' := s₁.setTop (mkF m 34 #[sR o0] [(.int z0), (.ref o0)])) (fun target kt => ?_) ?_
  · refine XS.aloadN X0.here hx rfl (hb hby d26_32) rfl rfl ?_
    refine XS.iconst X0.here hx rfl (hb hby d26_33) ?_
    exact kt
  obtain ⟨cl2, Ar2, q2, Sz2, Nn2, Hs2, Gs2⟩ := id A_o
  have in2 := inb_of (j := z0) Sz2 ⟨by decide, by decide⟩
  have at2 : cl2.slots[(z0).toNatClampNeg]? = some (.int c0) := Has.at Hs2 in2 rfl
  refine Go.pre (X0.baloadBytes hx (j := z0) (v := (.int c0)) (by rw [e0]; exact Ar2.1) (State.isArrayOf_alike hZ.alike Ar2.2.1) Ar2.2.2 in2 at2 (g := (mkF m 34 #[sR o0] [(.int z0), (.ref o0)])) rfl rfl (hb hby d26_34)) ?_
  refine Go.pre (st' := s₁.setTop (mkF m 51 #[sR o0] [(.int (c0 &&& z255))])) (fun target kt => ?_) ?_
  · refine XS.sipush X0.here hx rfl (hb hby d26_35) ?_
    refine XS.iand X0.here hx rfl (hb hby d26_38) rfl ?_
    refine XS.goto X0.here hx rfl (pc0 := 39) (pc' := 51) rfl (hb hby d26_39) (by decide) (by decide) ?_
    exact kt
  exact Go.retV X0 hx hlk hrt rfl (Or.inl ⟨rfl, Or.inl rfl, _, rfl⟩) (hb hby d26_51) (by decide) (by decide) (by rw [e0]; exact ⟨rfl, N0, rfl⟩)
/-! String.hashCode (24) -/
theorem d24_0 : decode q12 0 = .ok (.aload_n 0, 1) := by decide +kernel
theorem d24_1 : decode q12 1 = .ok (.getfield 19, 3) := by decide +kernel
theorem d24_4 : decode q12 4 = .ok (.istore_n 1, 1) := by decide +kernel
theorem d24_5 : decode q12 5 = .ok (.iload_n 1, 1) := by decide +kernel
theorem d24_6 : decode q12 6 = .ok (.ifCond .ne 52, 3) := by decide +kernel
theorem d24_9 : decode q12 9 = .ok (.aload_n 0, 1) := by decide +kernel
theorem d24_10 : decode q12 10 = .ok (.getfield 23, 3) := by decide +kernel
theorem d24_13 : decode q12 13 = .ok (.ifCond .ne 45, 3) := by decide +kernel
theorem d24_16 : decode q12 16 = .ok (.aload_n 0, 1) := by decide +kernel
theorem d24_17 : decode q12 17 = .ok (.invokevirtual 492, 3) := by decide +kernel
theorem d24_20 : decode q12 20 = .ok (.ifCond .eq 13, 3) := by decide +kernel
theorem d24_23 : decode q12 23 = .ok (.aload_n 0, 1) := by decide +kernel
theorem d24_24 : decode q12 24 = .ok (.getfield 9, 3) := by decide +kernel
theorem d24_27 : decode q12 27 = .ok (.invokestatic 628, 3) := by decide +kernel
theorem d24_30 : decode q12 30 = .ok (.goto 10, 3) := by decide +kernel
theorem d24_40 : decode q12 40 = .ok (.istore_n 1, 1) := by decide +kernel
theorem d24_41 : decode q12 41 = .ok (.iload_n 1, 1) := by decide +kernel
theorem d24_42 : decode q12 42 = .ok (.ifCond .ne 11, 3) := by decide +kernel
theorem d24_45 : decode q12 45 = .ok (.aload_n 0, 1) := by decide +kernel
theorem d24_46 : decode q12 46 = .ok (.iconst 1, 1) := by decide +kernel
theorem d24_47 : decode q12 47 = .ok (.putfield 23, 3) := by decide +kernel
theorem d24_50 : decode q12 50 = .ok (.goto 8, 3) := by decide +kernel
theorem d24_53 : decode q12 53 = .ok (.aload_n 0, 1) := by decide +kernel
theorem d24_54 : decode q12 54 = .ok (.iload_n 1, 1) := by decide +kernel
theorem d24_55 : decode q12 55 = .ok (.putfield 19, 3) := by decide +kernel
theorem d24_58 : decode q12 58 = .ok (.iload_n 1, 1) := by decide +kernel
theorem d24_59 : decode q12 59 = .ok (.ireturn, 1) := by decide +kernel
theorem pn_24 : plainName "java/lang/String" = true := by first | (simp [plainName, overriddenIn]; done) | decide +kernel
theorem pd24_0 : parseMethodDescriptor "()Z" = some ⟨[], some .boolean⟩ := by decide +kernel
theorem pd24_1 : parseMethodDescriptor "([B)I" = some ⟨[(.array .byte)], some .int⟩ := by decide +kernel
theorem ef_24 (m : MethodId) (o0 : Addr) : entryFrame m #[(.ref o0)] 2 = (mkF m 0 #[.val (.ref o0), .unset] []) := by first | (simp [entryFrame, mkF, argsToLocals, Value.category]; done) | rfl
def Q24 (Z : State) (o0 : Addr) (zc : Int32) (ga : Int32) (va : Addr) (ka : ClassId) (x0 : Int32) (h0 : Heap) (n0 : Nat) (v : Option Value) (h : Heap) (L : List Loc) : Prop := v = some (.int (x0 &&& z255)) ∧ Fr n0 L ∧ Keep h0 h [o0] ∧ True ∧ Fld Z h o0 cB "coder" "B" (.int ga) ∧ Fld Z h o0 cB "value" "[B" (.ref va)
theorem rm24 (l : Launch) (Z : State) (a0 : Array Value) (hw : ∀ d ∈ tables_1, d.before a0 Z = true) (ws : List Jvm.Cond) (o0 : Addr) (zc : Int32) (ga : Int32) (va : Addr) (ka : ClassId) (x0 : Int32) (h0 : Heap) (n0 : Nat) (Z0 : n0 ≤ h0.size) (S_COMPACT : Sta Z Z.heap cB "COMPACT_STRINGS" "Z" (.int zc)) (hcs : ¬ (zc = z0)) (E_o0 : Exa Z h0 o0 cB) (F_ca : Fld Z h0 o0 cB "coder" "B" (.int ga)) (F_va : Fld Z h0 o0 cB "value" "[B" (.ref va)) (A_a : Arv Z h0 va ka .byte z1 [(.int x0)] (.int z0)) (F_ha : Fld Z h0 o0 cB "hash" "I" (.int z0)) (F_za : Fld Z h0 o0 cB "hashIsZero" "Z" (.int z0)) (hg : ga = z0) (Ol : Old Z n0 h0) (g_o0 : n0 ≤ o0) :
    MetFree l (⟨cB, "hashCode", "()I"⟩ : MethodName) (head1 (Jvm.Cond.code (⟨cB, "hashCode", "()I"⟩ : MethodName) jdk_42_method_78_code 2 (some .int) :: ws) ({ frames := 1, cells := 0, slots := 0, locals := 12 } : Room)) (fun a U => a = #[(.ref o0)] ∧ Z.Warmed39 U.vm ∧ U.heap = h0) (fun _ _ _ _ _ => True) (fun _ U o U' => ∃ v L, o = .returned v ∧ Q24 Z o0 zc ga va ka x0 h0 n0 v U'.heap L ∧ FrameEnd U o U' L ({ frames := 1, cells := 0, slots := 0, locals := 12 } : Room).cells ({ frames := 1, cells := 0, slots := 0, locals := 12 } : Room).slots) := by
  refine MetFree.of_bodySF (plainFor_of_name pn_24) hisR ?_
  intro p e s m args below meth c s₁ Bd hml0 hP hK
  obtain ⟨rfl, hZ, hh⟩ := hP
  have hx := Bd.exec
  have hby := Bd.bytes
  have hml : c.maxLocals = 2 := hml0
  have hown : s.vm.findClass cB = some m.cls := findClass_of_methodNamed Bd.named
  have hnm := (name_of_methodNamed Bd.named Bd.method).1
  have hrt := Bd.returns
  have hlk := Bd.notSynchronized
  have X0 : Stand p l e ({ frames := 1, cells := 0, slots := 0, locals := 12 } : Room) s m #[(.ref o0)] below meth c s₁ [] 0 0 := Stand.of_body Bd
  have e0 : s₁.heap = h0 := by rw [← hh, Bd.state]; rfl
  have N0 := Fr.nil n0
  have lt_E_o0 : LT.lt (α := Nat) o0 h0.size := E_o0.lt
  have lt_A_a : LT.lt (α := Nat) va h0.size := A_a.lt
  show Go p e below s 0 0 (Q24 Z o0 zc ga va ka x0 h0 n0) (s₁.setTop (entryFrame m #[(.ref o0)] 2))
  rw [ef_24 m o0]
  refine Go.pre (st' := s₁.setTop (mkF m 1 #[sR o0, sU] [(.ref o0)])) (fun target kt => ?_) ?_
  · refine XS.aloadN X0.here hx rfl (hb hby d24_0) rfl rfl ?_
    exact kt
  obtain ⟨T1, X1, e1, st1⟩ := getF X0 hx hZ hown (host := "") (Or.inl (ow hw 141 rfl)) Via.refl e0 F_ha (g := (mkF m 1 #[sR o0, sU] [(.ref o0)])) rfl rfl (hb hby d24_1)
  refine Go.pre st1 ?_
  refine Go.pre (st' := T1.setTop (mkF m 10 #[sR o0, sI z0] [(.ref o0)])) (fun target kt => ?_) ?_
  · refine XS.istoreN X1.here hx rfl (hb hby d24_4) rfl (l' := #[.val (.ref o0), .val (.int z0)]) rfl ?_
    refine XS.iloadN X1.here hx rfl (hb hby d24_5) rfl ?_
    refine XS.ifNo X1.here hx rfl (hb hby d24_6) rfl ((if0 _ _).trans (teq (by decide)).2) ?_
    refine XS.aloadN X1.here hx rfl (hb hby d24_9) rfl rfl ?_
    exact kt
  obtain ⟨T2, X2, e2, st2⟩ := getF X1 hx hZ hown (host := "") (Or.inl (ow hw 143 rfl)) Via.refl e1 F_za (g := (mkF m 10 #[sR o0, sI z0] [(.ref o0)])) rfl rfl (hb hby d24_10)
  refine Go.pre st2 ?_
  refine Go.pre (st' := T2.setTop (mkF m 17 #[sR o0, sI z0] [(.ref o0)])) (fun target kt => ?_) ?_
  · refine XS.ifNo X2.here hx rfl (hb hby d24_13) rfl ((if0 _ _).trans (teq (by decide)).2) ?_
    refine XS.aloadN X2.here hx rfl (hb hby d24_16) rfl rfl ?_
    exact kt
  obtain ⟨cq3, kq3, q3a, q3b, q3c⟩ := isOf hZ e2 E_o0
  obtain ⟨_, _, ⟨T3, L3, k3, n3⟩, -, X3, ⟨Lc3, hQ3, l3, y3, z3⟩, st3⟩ := X2.virtualBack hx (y := (⟨cB, "isLatin1", "()Z"⟩ : MethodName)) (z := (⟨cB, "isLatin1", "()Z"⟩ : MethodName)) hown (mvT hZ (ow hw 145 rfl)) (mvT hZ (ow hw 146 rfl)) (notFace_of_selects (args := #[]) (mvT hZ (ow hw 148 rfl))) (mvT hZ (ow hw 148 rfl)) (mvT hZ (ow hw 147 rfl)) (by decide) (backOf (W := 0) (rm25 l Z a0 hw [] o0 zc ga h0 n0 (by omega) S_COMPACT F_ca Ol (by first | assumption | decide) (by first | assumption | decide)) hZ (ow hw 149 rfl) (ow hw 2 rfl) (by decide) (by decide)) q3a q3c (g := (mkF m 17 #[sR o0, sI z0] [(.ref o0)])) rfl (by rw [hml]; rfl) (Steps.refl _) (argsL := []) (rest := []) (lenOf pd24_0 rfl) rfl (le0 rfl) (hb hby d24_17) (fun vm₁ hvm => ⟨rfl, e2, (by decide : 0 + 0 ≤ _), (by decide : 0 + 0 ≤ _)⟩)
  dsimp only [Pt.U, Pt.locs, Pt.cells, Pt.slots] at X3 l3 y3 z3 st3 hQ3
  subst l3 y3 z3
  obtain ⟨rfl, N3q, e3⟩ := hQ3
  have N3 := Fr.app N0 N3q
  refine Go.trans st3 ?_
  refine Go.pre (st' := T3.setTop (mkF m 24 #[sR o0, sI z0] [(.ref o0)])) (fun target kt => ?_) ?_
  · refine XS.ifNo X3.here hx rfl (hb hby d24_20) rfl ((if0 _ _).trans (feq (by decide)).1) ?_
    refine XS.aloadN X3.here hx rfl (hb hby d24_23) rfl rfl ?_
    exact kt
  obtain ⟨T4, X4, e4, st4⟩ := getF X3 hx hZ hown (host := "") (Or.inl (ow hw 22 rfl)) Via.refl e3 F_va (g := (mkF m 24 #[sR o0, sI z0] [(.ref o0)])) rfl rfl (hb hby d24_24)
  refine Go.pre st4 ?_
  obtain ⟨_, _, ⟨T5, L5, k5, n5⟩, -, X5, ⟨Lc5, hQ5, l5, y5, z5⟩, st5⟩ := Jvm.LawKit.callS X4 hx (y := (⟨cG, "hashCode", "([B)I"⟩ : MethodName)) hown (mvT hZ (ow hw 150 rfl)) (mvT hZ (ow hw 151 rfl)) (mvT hZ (ow hw 7 rfl)) (mvT hZ (ow hw 152 rfl)) (by decide) (backOf (W := 0) (rm26 l Z a0 hw [] va ka x0 h0 n0 (by omega) A_a) hZ (ow hw 152 rfl) (ow hw 7 rfl) (by decide) (by decide)) (g := (mkF m 27 #[sR o0, sI z0] [(.ref va)])) rfl (by rw [hml]; rfl) (argsL := [(.ref va)]) (rest := []) (lenOf pd24_1 rfl) rfl (le0 rfl) (hb hby d24_27) (fun vm₁ hvm => ⟨rfl, e4, (by decide : 0 + 0 ≤ _), (by decide : 0 + 0 ≤ _)⟩)
  dsimp only [Pt.U, Pt.locs, Pt.cells, Pt.slots] at X5 l5 y5 z5 st5 hQ5
  subst l5 y5 z5
  obtain ⟨rfl, N5q, e5⟩ := hQ5
  have N5 := Fr.app N3 N5q
  refine Go.pre st5 ?_
  refine Go.pre (st' := T5.setTop (mkF m 42 #[sR o0, .val (.int (x0 &&& z255))] [(.int (x0 &&& z255))])) (fun target kt => ?_) ?_
  · refine XS.goto X5.here hx rfl (pc0 := 30) (pc' := 40) rfl (hb hby d24_30) (by decide) (by decide) ?_
    refine XS.istoreN X5.here hx rfl (hb hby d24_40) rfl (l' := #[.val (.ref o0), .val (.int (x0 &&& z255))]) rfl ?_
    refine XS.iloadN X5.here hx rfl (hb hby d24_41) rfl ?_
    exact kt
  by_cases h42_6 : (x0 &&& z255) = z0
  · refine Go.pre (st' := T5.setTop (mkF m 45 #[sR o0, .val (.int (x0 &&& z255))] [])) (fun target kt => ?_) ?_
    · refine XS.ifNo X5.here hx rfl (hb hby d24_42) rfl ((if0 _ _).trans (teq h42_6).2) ?_
      exact kt
    refine Go.pre (st' := T5.setTop (mkF m 47 #[sR o0, .val (.int (x0 &&& z255))] [(.int z1), (.ref o0)])) (fun target kt => ?_) ?_
    · refine XS.aloadN X5.here hx rfl (hb hby d24_45) rfl rfl ?_
      refine XS.iconst X5.here hx rfl (hb hby d24_46) ?_
      exact kt
    obtain ⟨T7, h7, X7, e7, W7, st7⟩ := putFN X5 hx hZ hown (ow hw 143 rfl) Via.refl e5 F_za E_o0 (Or.inl (ow hw 144 rfl)) (ow hw 10 rfl) (ty := .boolean) (v' := (.int z1)) (by decide) rfl rfl (g := (mkF m 47 #[sR o0, .val (.int (x0 &&& z255))] [(.int z1), (.ref o0)])) rfl rfl (hb hby d24_47)
    have sz7 : h0.size ≤ h7.size := (Keep.of_wr W7).1
    have Y8 : Fld Z h7 o0 cB "hashIsZero" "Z" (.int z1) := F_za.same W7
    have N7 := Fr.snoc X7 N5 (by omega)
    refine Go.pre st7 ?_
    refine Go.pre (st' := T7.setTop (mkF m 59 #[sR o0, .val (.int (x0 &&& z255))] [(.int (x0 &&& z255))])) (fun target kt => ?_) ?_
    · refine XS.goto X7.here hx rfl (pc0 := 50) (pc' := 58) rfl (hb hby d24_50) (by decide) (by decide) ?_
      refine XS.iloadN X7.here hx rfl (hb hby d24_58) rfl ?_
      exact kt
    have Y9 := (F_ca.other W7 (Or.inr (slot_ne (Or.inr (ow hw 25 rfl)) (Or.inl (ow hw 144 rfl)) (by decide) (t := .byte) (t' := .boolean) (by decide) (by decide))))
    have Y10 := (F_va.other W7 (Or.inr (slot_ne (Or.inr (ow hw 23 rfl)) (Or.inl (ow hw 144 rfl)) (by decide) (t := (.array .byte)) (t' := .boolean) (by decide) (by decide))))
    exact Go.retV X7 hx hlk hrt rfl (Or.inl ⟨rfl, Or.inl rfl, _, rfl⟩) (hb hby d24_59) (by decide) (by decide) (by first | exact ⟨rfl, N7, ((Keep.refl h0 [o0]).wr W7 (Or.inl (List.mem_of_getElem? (i := 0) rfl))), trivial, Y9, Y10⟩ | (rw [e7]; exact ⟨rfl, N7, ((Keep.refl h0 [o0]).wr W7 (Or.inl (List.mem_of_getElem? (i := 0) rfl))), trivial, Y9, Y10⟩))
  · refine Go.pre (st' := T5.setTop (mkF m 53 #[sR o0, .val (.int (x0 &&& z255))] [])) (fun target kt => ?_) ?_
    · refine XS.ifYes X5.here hx rfl (pc0 := 42) (pc' := 53) rfl (hb hby d24_42) rfl ((if0 _ _).trans (feq h42_6).2) (by decide) (by decide) ?_
      exact kt
    refine Go.pre (st' := T5.setTop (mkF m 55 #[sR o0, .val (.int (x0 &&& z255))] [(.int (x0 &&& z255)), (.ref o0)])) (fun target kt => ?_) ?_
    · refine XS.aloadN X5.here hx rfl (hb hby d24_53) rfl rfl ?_
      refine XS.iloadN X5.here hx rfl (hb hby d24_54) rfl ?_
      exact kt
    obtain ⟨T11, h11, X11, e11, W11, st11⟩ := putF X5 hx hZ hown (host := "") (Or.inl (ow hw 141 rfl)) Via.refl e5 F_ha E_o0 (Or.inl (ow hw 142 rfl)) (ow hw 10 rfl) (ty := .int) (by decide) rfl rfl (g := (mkF m 55 #[sR o0, .val (.int (x0 &&& z255))] [(.int (x0 &&& z255)), (.ref o0)])) rfl rfl (hb hby d24_55)
    have sz11 : h0.size ≤ h11.size := (Keep.of_wr W11).1
    have Y12 : Fld Z h11 o0 cB "hash" "I" (.int (x0 &&& z255)) := F_ha.same W11
    have N11 := Fr.snoc X11 N5 (by omega)
    refine Go.pre st11 ?_
    refine Go.pre (st' := T11.setTop (mkF m 59 #[sR o0, .val (.int (x0 &&& z255))] [(.int (x0 &&& z255))])) (fun target kt => ?_) ?_
    · refine XS.iloadN X11.here hx rfl (hb hby d24_58) rfl ?_
      exact kt
    have Y13 := (F_ca.other W11 (Or.inr (slot_ne (Or.inr (ow hw 25 rfl)) (Or.inl (ow hw 142 rfl)) (by decide) (t := .byte) (t' := .int) (by decide) (by decide))))
    have Y14 := (F_va.other W11 (Or.inr (slot_ne (Or.inr (ow hw 23 rfl)) (Or.inl (ow hw 142 rfl)) (by decide) (t := (.array .byte)) (t' := .int) (by decide) (by decide))))
    exact Go.retV X11 hx hlk hrt rfl (Or.inl ⟨rfl, Or.inl rfl, _, rfl⟩) (hb hby d24_59) (by decide) (by decide) (by first | exact ⟨rfl, N11, ((Keep.refl h0 [o0]).wr W11 (Or.inl (List.mem_of_getElem? (i := 0) rfl))), trivial, Y13, Y14⟩ | (rw [e11]; exact ⟨rfl, N11, ((Keep.refl h0 [o0]).wr W11 (Or.inl (List.mem_of_getElem? (i := 0) rfl))), trivial, Y13, Y14⟩))
/-! Attributes.<init> (6) -/
theorem d6_0 : decode q25 0 = .ok (.aload_n 0, 1) := by decide +kernel
theorem d6_1 : decode q25 1 = .ok (.invokespecial 1, 3) := by decide +kernel
theorem d6_4 : decode q25 4 = .ok (.aload_n 0, 1) := by decide +kernel
theorem d6_5 : decode q25 5 = .ok (.bipush 16, 2) := by decide +kernel
theorem d6_7 : decode q25 7 = .ok (.anewarray 9, 3) := by decide +kernel
theorem d6_10 : decode q25 10 = .ok (.putfield 11, 3) := by decide +kernel
theorem d6_13 : decode q25 13 = .ok (.aload_n 0, 1) := by decide +kernel
theorem d6_14 : decode q25 14 = .ok (.bipush 16, 2) := by decide +kernel
theorem d6_16 : decode q25 16 = .ok (.anewarray 9, 3) := by decide +kernel
theorem d6_19 : decode q25 19 = .ok (.putfield 15, 3) := by decide +kernel
theorem d6_22 : decode q25 22 = .ok (.aload_n 0, 1) := by decide +kernel
theorem d6_23 : decode q25 23 = .ok (.bipush 16, 2) := by decide +kernel
theorem d6_25 : decode q25 25 = .ok (.newarray .int, 2) := by decide +kernel
theorem d6_27 : decode q25 27 = .ok (.putfield 18, 3) := by decide +kernel
theorem d6_30 : decode q25 30 = .ok (.aload_n 0, 1) := by decide +kernel
theorem d6_31 : decode q25 31 = .ok (.sipush 1024, 3) := by decide +kernel
theorem d6_34 : decode q25 34 = .ok (.newarray .char, 2) := by decide +kernel
theorem d6_36 : decode q25 36 = .ok (.putfield 22, 3) := by decide +kernel
theorem d6_39 : decode q25 39 = .ok (.return_, 1) := by decide +kernel
theorem pn_6 : plainName "com/example/satzung/satzung/parse/Attributes" = true := by first | (simp [plainName, overriddenIn]; done) | decide +kernel
theorem ef_6 (m : MethodId) (o0 : Addr) : entryFrame m #[(.ref o0)] 1 = (mkF m 0 #[.val (.ref o0)] []) := by first | (simp [entryFrame, mkF, argsToLocals, Value.category]; done) | rfl
def Q6 (Z : State) (o0 : Addr) (u3 : Value) (u9 : Value) (u15 : Value) (u21 : Value) (h0 : Heap) (n0 : Nat) (v : Option Value) (h : Heap) (L : List Loc) : Prop := ∃ b2 : Addr, ∃ b8 : Addr, ∃ b14 : Addr, ∃ b20 : Addr, ∃ k2 : ClassId, ∃ k8 : ClassId, ∃ k14 : ClassId, ∃ k20 : ClassId, v = none ∧ Fr n0 L ∧ Keep h0 h [o0] ∧ KF Z h0 h [(o0, Jvm.RoadKit.slotOf Z cA "names" cD), (o0, Jvm.RoadKit.slotOf Z cA "values" cD), (o0, Jvm.RoadKit.slotOf Z cA "ends" "[I"), (o0, Jvm.RoadKit.slotOf Z cA "text" "[C")] ∧ LE.le (α := Nat) h0.size b2 ∧ LT.lt (α := Nat) b2 h.size ∧ LE.le (α := Nat) h0.size b8 ∧ LT.lt (α := Nat) b8 h.size ∧ LT.lt (α := Nat) b2 b8 ∧ LE.le (α := Nat) h0.size b14 ∧ LT.lt (α := Nat) b14 h.size ∧ LT.lt (α := Nat) b8 b14 ∧ LE.le (α := Nat) h0.size b20 ∧ LT.lt (α := Nat) b20 h.size ∧ LT.lt (α := Nat) b14 b20 ∧ Fld Z h o0 cA "names" cD (.ref b2) ∧ Fld Z h o0 cA "values" cD (.ref b8) ∧ Fld Z h o0 cA "ends" "[I" (.ref b14) ∧ Fld Z h o0 cA "text" "[C" (.ref b20) ∧ Arf Z h b2 k2 (.object cB) z16 (fun _ => .null) ∧ Ovr Z k2 cB ∧ Arf Z h b8 k8 (.object cB) z16 (fun _ => .null) ∧ Ovr Z k8 cB ∧ Arf Z h b14 k14 .int z16 (fun _ => (.int z0)) ∧ Arf Z h b20 k20 .char z1024 (fun _ => (.int z0))
theorem rm6 (l : Launch) (Z : State) (a0 : Array Value) (hw : ∀ d ∈ tables_1, d.before a0 Z = true) (ws : List Jvm.Cond) (o0 : Addr) (u3 : Value) (u9 : Value) (u15 : Value) (u21 : Value) (h0 : Heap) (n0 : Nat) (Z0 : n0 ≤ h0.size) (E_o0 : Exa Z h0 o0 cA) (F_names_o0 : Fld Z h0 o0 cA "names" cD u3) (g_o0 : n0 ≤ o0) (F_values_o0 : Fld Z h0 o0 cA "values" cD u9) (F_ends_o0 : Fld Z h0 o0 cA "ends" "[I" u15) (F_text_o0 : Fld Z h0 o0 cA "text" "[C" u21) :
    MetFree l (⟨cA, "<init>", "()V"⟩ : MethodName) (head1 (Jvm.Cond.code (⟨cA, "<init>", "()V"⟩ : MethodName) prog_64_method_1_code 1 none :: ws) ({ frames := 1, cells := 4, slots := 1072, locals := 12 } : Room)) (fun a U => a = #[(.ref o0)] ∧ Z.Warmed39 U.vm ∧ U.heap = h0) (fun _ _ _ _ _ => True) (fun _ U o U' => ∃ v L, o = .returned v ∧ Q6 Z o0 u3 u9 u15 u21 h0 n0 v U'.heap L ∧ FrameEnd U o U' L ({ frames := 1, cells := 4, slots := 1072, locals := 12 } : Room).cells ({ frames := 1, cells := 4, slots := 1072, locals := 12 } : Room).slots) := by
  refine MetFree.of_bodySF (plainFor_of_name pn_6) hisR ?_
  intro p e s m args below meth c s₁ Bd hml0 hP hK
  obtain ⟨rfl, hZ, hh⟩ := hP
  have hx := Bd.exec
  have hby := Bd.bytes
  have hml : c.maxLocals = 1 := hml0
  have hown : s.vm.findClass cA = some m.cls := findClass_of_methodNamed Bd.named
  have hnm := (name_of_methodNamed Bd.named Bd.method).1
  have hrt := Bd.returns
  have hlk := Bd.notSynchronized
  have X0 : Stand p l e ({ frames := 1, cells := 4, slots := 1072, locals := 12 } : Room) s m #[(.ref o0)] below meth c s₁ [] 0 0 := Stand.of_body Bd
  have e0 : s₁.heap = h0 := by rw [← hh, Bd.state]; rfl
  have N0 := Fr.nil n0
  have lt_E_o0 : LT.lt (α := Nat) o0 h0.size := E_o0.lt
  show Go p e below s 4 1072 (Q6 Z o0 u3 u9 u15 u21 h0 n0) (s₁.setTop (entryFrame m #[(.ref o0)] 1))
  rw [ef_6 m o0]
  refine Go.pre (st' := s₁.setTop (mkF m 1 #[sR o0] [(.ref o0)])) (fun target kt => ?_) ?_
  · refine XS.aloadN X0.here hx rfl (hb hby d6_0) rfl rfl ?_
    exact kt
  obtain ⟨T1, X1, e1, st1⟩ := initO X0 hx hZ hown (ow hw 33 rfl) (ow hw 20 rfl) (ow hw 21 rfl) e0 (g := (mkF m 1 #[sR o0] [(.ref o0)])) rfl (by rw [hml]; rfl) rfl (hb hby d6_1) (by decide) (W := 0) (le0 rfl) (by decide)
  refine Go.pre st1 ?_
  refine Go.pre (st' := T1.setTop (mkF m 7 #[sR o0] [(.int z16), (.ref o0)])) (fun target kt => ?_) ?_
  · refine XS.aloadN X1.here hx rfl (hb hby d6_4) rfl rfl ?_
    refine XS.bipush X1.here hx rfl (hb hby d6_5) ?_
    exact kt
  obtain ⟨T2, h2, k2, X2, e2, E2, A2, O2, st2⟩ := newR X1 hx hZ hown (ow hw 34 rfl) (ow hw 35 rfl) e1 (g := (mkF m 7 #[sR o0] [(.int z16), (.ref o0)])) rfl (hb hby d6_7) rfl (by decide) (cap := 16) (by decide) (by decide) (by decide) (by decide)
  obtain ⟨b2, g2⟩ : ∃ z, z = h0.size := ⟨_, rfl⟩
  rw [← g2] at A2 st2
  have sz2 : h0.size ≤ h2.size := E2.1
  have V2 : Arv Z h2 b2 k2 (.object cB) z16 [] .null := Arv.new A2 (by decide)
  have lt2 : b2 < h2.size := V2.lt
  have V2f : Arf Z h2 b2 k2 (.object cB) z16 (fun _ => .null) := Arf.of_arv V2
  refine Go.pre st2 ?_
  have Y4 := (F_names_o0.ext E2)
  have Y5 := (E_o0.ext E2)
  obtain ⟨T6, h6, X6, e6, W6, st6⟩ := putF X2 hx hZ hown (host := "") (Or.inl (ow hw 36 rfl)) Via.refl e2 Y4 Y5 (Or.inl (ow hw 37 rfl)) (ow hw 28 rfl) (ty := (.array (.object cB))) (by decide) rfl rfl (g := (mkF m 10 #[sR o0] [(.ref b2), (.ref o0)])) rfl rfl (hb hby d6_10)
  have sz6 : h2.size ≤ h6.size := (Keep.of_wr W6).1
  have Y7 : Fld Z h6 o0 cA "names" cD (.ref b2) := Y4.same W6
  have N6 := Fr.snoc X6 N0 (by omega)
  refine Go.pre st6 ?_
  refine Go.pre (st' := T6.setTop (mkF m 16 #[sR o0] [(.int z16), (.ref o0)])) (fun target kt => ?_) ?_
  · refine XS.aloadN X6.here hx rfl (hb hby d6_13) rfl rfl ?_
    refine XS.bipush X6.here hx rfl (hb hby d6_14) ?_
    exact kt
  obtain ⟨T8, h8, k8, X8, e8, E8, A8, O8, st8⟩ := newR X6 hx hZ hown (ow hw 34 rfl) (ow hw 35 rfl) e6 (g := (mkF m 16 #[sR o0] [(.int z16), (.ref o0)])) rfl (hb hby d6_16) rfl (by decide) (cap := 16) (by decide) (by decide) (by decide) (by decide)
  obtain ⟨b8, g8⟩ : ∃ z, z = h6.size := ⟨_, rfl⟩
  rw [← g8] at A8 st8
  have sz8 : h6.size ≤ h8.size := E8.1
  have V8 : Arv Z h8 b8 k8 (.object cB) z16 [] .null := Arv.new A8 (by decide)
  have lt8 : b8 < h8.size := V8.lt
  have V8f : Arf Z h8 b8 k8 (.object cB) z16 (fun _ => .null) := Arf.of_arv V8
  refine Go.pre st8 ?_
  have Y10 := (((F_values_o0.ext E2).other W6 (Or.inr (slot_ne (Or.inl (ow hw 39 rfl)) (Or.inl (ow hw 37 rfl)) (by decide) (t := (.array (.object cB))) (t' := (.array (.object cB))) (by decide) (by decide)))).ext E8)
  have Y11 := ((Y5.wr W6).ext E8)
  obtain ⟨T12, h12, X12, e12, W12, st12⟩ := putF X8 hx hZ hown (host := "") (Or.inl (ow hw 38 rfl)) Via.refl e8 Y10 Y11 (Or.inl (ow hw 39 rfl)) (ow hw 28 rfl) (ty := (.array (.object cB))) (by decide) rfl rfl (g := (mkF m 19 #[sR o0] [(.ref b8), (.ref o0)])) rfl rfl (hb hby d6_19)
  have sz12 : h8.size ≤ h12.size := (Keep.of_wr W12).1
  have Y13 : Fld Z h12 o0 cA "values" cD (.ref b8) := Y10.same W12
  have N12 := Fr.snoc X12 N6 (by omega)
  refine Go.pre st12 ?_
  refine Go.pre (st' := T12.setTop (mkF m 25 #[sR o0] [(.int z16), (.ref o0)])) (fun target kt => ?_) ?_
  · refine XS.aloadN X12.here hx rfl (hb hby d6_22) rfl rfl ?_
    refine XS.bipush X12.here hx rfl (hb hby d6_23) ?_
    exact kt
  obtain ⟨T14, h14, k14, X14, e14, E14, A14, st14⟩ := newP X12 hx hZ (ow hw 40 rfl) e12 (g := (mkF m 25 #[sR o0] [(.int z16), (.ref o0)])) rfl (hb hby d6_25) rfl (by decide) (cap := 16) (by decide) (by decide) (by decide) (by decide)
  obtain ⟨b14, g14⟩ : ∃ z, z = h12.size := ⟨_, rfl⟩
  rw [← g14] at A14 st14
  have sz14 : h12.size ≤ h14.size := E14.1
  have V14 : Arv Z h14 b14 k14 .int z16 [] (.int z0) := Arv.new A14 (by decide)
  have lt14 : b14 < h14.size := V14.lt
  have V14f : Arf Z h14 b14 k14 .int z16 (fun _ => (.int z0)) := Arf.of_arv V14
  refine Go.pre st14 ?_
  have Y16 := (((((F_ends_o0.ext E2).other W6 (Or.inr (slot_ne (Or.inl (ow hw 42 rfl)) (Or.inl (ow hw 37 rfl)) (by decide) (t := (.array .int)) (t' := (.array (.object cB))) (by decide) (by decide)))).ext E8).other W12 (Or.inr (slot_ne (Or.inl (ow hw 42 rfl)) (Or.inl (ow hw 39 rfl)) (by decide) (t := (.array .int)) (t' := (.array (.object cB))) (by decide) (by decide)))).ext E14)
  have Y17 := ((Y11.wr W12).ext E14)
  obtain ⟨T18, h18, X18, e18, W18, st18⟩ := putF X14 hx hZ hown (host := "") (Or.inl (ow hw 41 rfl)) Via.refl e14 Y16 Y17 (Or.inl (ow hw 42 rfl)) (ow hw 28 rfl) (ty := (.array .int)) (by decide) rfl rfl (g := (mkF m 27 #[sR o0] [(.ref b14), (.ref o0)])) rfl rfl (hb hby d6_27)
  have sz18 : h14.size ≤ h18.size := (Keep.of_wr W18).1
  have Y19 : Fld Z h18 o0 cA "ends" "[I" (.ref b14) := Y16.same W18
  have N18 := Fr.snoc X18 N12 (by omega)
  refine Go.pre st18 ?_
  refine Go.pre (st' := T18.setTop (mkF m 34 #[sR o0] [(.int z1024), (.ref o0)])) (fun target kt => ?_) ?_
  · refine XS.aloadN X18.here hx rfl (hb hby d6_30) rfl rfl ?_
    refine XS.sipush X18.here hx rfl (hb hby d6_31) ?_
    exact kt
  obtain ⟨T20, h20, k20, X20, e20, E20, A20, st20⟩ := newP X18 hx hZ (ow hw 26 rfl) e18 (g := (mkF m 34 #[sR o0] [(.int z1024), (.ref o0)])) rfl (hb hby d6_34) rfl (by decide) (cap := 1024) (by decide) (by decide) (by decide) (by decide)
  obtain ⟨b20, g20⟩ : ∃ z, z = h18.size := ⟨_, rfl⟩
  rw [← g20] at A20 st20
  have sz20 : h18.size ≤ h20.size := E20.1
  have V20 : Arv Z h20 b20 k20 .char z1024 [] (.int z0) := Arv.new A20 (by decide)
  have lt20 : b20 < h20.size := V20.lt
  have V20f : Arf Z h20 b20 k20 .char z1024 (fun _ => (.int z0)) := Arf.of_arv V20
  refine Go.pre st20 ?_
  have Y22 := (((((((F_text_o0.ext E2).other W6 (Or.inr (slot_ne (Or.inl (ow hw 44 rfl)) (Or.inl (ow hw 37 rfl)) (by decide) (t := (.array .char)) (t' := (.array (.object cB))) (by decide) (by decide)))).ext E8).other W12 (Or.inr (slot_ne (Or.inl (ow hw 44 rfl)) (Or.inl (ow hw 39 rfl)) (by decide) (t := (.array .char)) (t' := (.array (.object cB))) (by decide) (by decide)))).ext E14).other W18 (Or.inr (slot_ne (Or.inl (ow hw 44 rfl)) (Or.inl (ow hw 42 rfl)) (by decide) (t := (.array .char)) (t' := (.array .int)) (by decide) (by decide)))).ext E20)
  have Y23 := ((Y17.wr W18).ext E20)
  obtain ⟨T24, h24, X24, e24, W24, st24⟩ := putF X20 hx hZ hown (host := "") (Or.inl (ow hw 43 rfl)) Via.refl e20 Y22 Y23 (Or.inl (ow hw 44 rfl)) (ow hw 28 rfl) (ty := (.array .char)) (by decide) rfl rfl (g := (mkF m 36 #[sR o0] [(.ref b20), (.ref o0)])) rfl rfl (hb hby d6_36)
  have sz24 : h20.size ≤ h24.size := (Keep.of_wr W24).1
  have Y25 : Fld Z h24 o0 cA "text" "[C" (.ref b20) := Y22.same W24
  have N24 := Fr.snoc X24 N18 (by omega)
  refine Go.pre st24 ?_
  have Y26 := ((((((Y7.ext E8).other W12 (Or.inr (slot_ne (Or.inl (ow hw 37 rfl)) (Or.inl (ow hw 39 rfl)) (by decide) (t := (.array (.object cB))) (t' := (.array (.object cB))) (by decide) (by decide)))).ext E14).other W18 (Or.inr (slot_ne (Or.inl (ow hw 37 rfl)) (Or.inl (ow hw 42 rfl)) (by decide) (t := (.array (.object cB))) (t' := (.array .int)) (by decide) (by decide)))).ext E20).other W24 (Or.inr (slot_ne (Or.inl (ow hw 37 rfl)) (Or.inl (ow hw 44 rfl)) (by decide) (t := (.array (.object cB))) (t' := (.array .char)) (by decide) (by decide))))
  have Y27 := ((((Y13.ext E14).other W18 (Or.inr (slot_ne (Or.inl (ow hw 39 rfl)) (Or.inl (ow hw 42 rfl)) (by decide) (t := (.array (.object cB))) (t' := (.array .int)) (by decide) (by decide)))).ext E20).other W24 (Or.inr (slot_ne (Or.inl (ow hw 39 rfl)) (Or.inl (ow hw 44 rfl)) (by decide) (t := (.array (.object cB))) (t' := (.array .char)) (by decide) (by decide))))
  have Y28 := ((Y19.ext E20).other W24 (Or.inr (slot_ne (Or.inl (ow hw 42 rfl)) (Or.inl (ow hw 44 rfl)) (by decide) (t := (.array .int)) (t' := (.array .char)) (by decide) (by decide))))
  have Y29 := (((((((V2f.other W6 (neN (by omega))).ext E8).other W12 (neN (by omega))).ext E14).other W18 (neN (by omega))).ext E20).other W24 (neN (by omega)))
  have Y30 := (((((V8f.other W12 (neN (by omega))).ext E14).other W18 (neN (by omega))).ext E20).other W24 (neN (by omega)))
  have Y31 := (((V14f.other W18 (neN (by omega))).ext E20).other W24 (neN (by omega)))
  have Y32 := (V20f.other W24 (neN (by omega)))
  exact Go.ret0 X24 hx hlk hrt (hb hby d6_39) (by decide) (by decide) (by rw [e24]; exact ⟨b2, b8, b14, b20, k2, k8, k14, k20, rfl, N24, (((((((((Keep.refl h0 [o0]).ext E2).wr W6 (Or.inl (List.mem_of_getElem? (i := 0) rfl))).ext E8).wr W12 (Or.inl (List.mem_of_getElem? (i := 0) rfl))).ext E14).wr W18 (Or.inl (List.mem_of_getElem? (i := 0) rfl))).ext E20).wr W24 (Or.inl (List.mem_of_getElem? (i := 0) rfl))), (((((((((KF.refl Z h0 [(o0, Jvm.RoadKit.slotOf Z cA "names" cD), (o0, Jvm.RoadKit.slotOf Z cA "values" cD), (o0, Jvm.RoadKit.slotOf Z cA "ends" "[I"), (o0, Jvm.RoadKit.slotOf Z cA "text" "[C")]).ext E2).wr W6 (Or.inl (List.mem_of_getElem? (i := 0) rfl))).ext E8).wr W12 (Or.inl (List.mem_of_getElem? (i := 1) rfl))).ext E14).wr W18 (Or.inl (List.mem_of_getElem? (i := 2) rfl))).ext E20).wr W24 (Or.inl (List.mem_of_getElem? (i := 3) rfl))), by omega, by omega, by omega, by omega, by omega, by omega, by omega, by omega, by omega, by omega, by omega, Y26, Y27, Y28, Y25, Y29, O2, Y30, O8, Y31, Y32⟩)
/-! Attributes.append (8_0R_0) -/
theorem d8_0 : decode q23 0 = .ok (.aload_n 0, 1) := by decide +kernel
theorem d8_1 : decode q23 1 = .ok (.getfield 26, 3) := by decide +kernel
theorem d8_4 : decode q23 4 = .ok (.aload_n 0, 1) := by decide +kernel
theorem d8_5 : decode q23 5 = .ok (.getfield 11, 3) := by decide +kernel
theorem d8_8 : decode q23 8 = .ok (.arraylength, 1) := by decide +kernel
theorem d8_9 : decode q23 9 = .ok (.if_icmp .ne 60, 3) := by decide +kernel
theorem d8_69 : decode q23 69 = .ok (.aload_n 0, 1) := by decide +kernel
theorem d8_70 : decode q23 70 = .ok (.getfield 11, 3) := by decide +kernel
theorem d8_73 : decode q23 73 = .ok (.aload_n 0, 1) := by decide +kernel
theorem d8_74 : decode q23 74 = .ok (.getfield 26, 3) := by decide +kernel
theorem d8_77 : decode q23 77 = .ok (.aload_n 1, 1) := by decide +kernel
theorem d8_78 : decode q23 78 = .ok (.aastore, 1) := by decide +kernel
theorem d8_79 : decode q23 79 = .ok (.aload_n 0, 1) := by decide +kernel
theorem d8_80 : decode q23 80 = .ok (.getfield 15, 3) := by decide +kernel
theorem d8_83 : decode q23 83 = .ok (.aload_n 0, 1) := by decide +kernel
theorem d8_84 : decode q23 84 = .ok (.getfield 26, 3) := by decide +kernel
theorem d8_87 : decode q23 87 = .ok (.aload_n 2, 1) := by decide +kernel
theorem d8_88 : decode q23 88 = .ok (.aastore, 1) := by decide +kernel
theorem d8_89 : decode q23 89 = .ok (.aload_n 0, 1) := by decide +kernel
theorem d8_90 : decode q23 90 = .ok (.getfield 18, 3) := by decide +kernel
theorem d8_93 : decode q23 93 = .ok (.aload_n 0, 1) := by decide +kernel
theorem d8_94 : decode q23 94 = .ok (.getfield 26, 3) := by decide +kernel
theorem d8_97 : decode q23 97 = .ok (.aload_n 0, 1) := by decide +kernel
theorem d8_98 : decode q23 98 = .ok (.getfield 71, 3) := by decide +kernel
theorem d8_101 : decode q23 101 = .ok (.iastore, 1) := by decide +kernel
theorem d8_102 : decode q23 102 = .ok (.aload_n 0, 1) := by decide +kernel
theorem d8_103 : decode q23 103 = .ok (.dup, 1) := by decide +kernel
theorem d8_104 : decode q23 104 = .ok (.getfield 26, 3) := by decide +kernel
theorem d8_107 : decode q23 107 = .ok (.iconst 1, 1) := by decide +kernel
theorem d8_108 : decode q23 108 = .ok (.iadd, 1) := by decide +kernel
theorem d8_109 : decode q23 109 = .ok (.putfield 26, 3) := by decide +kernel
theorem d8_112 : decode q23 112 = .ok (.aload_n 0, 1) := by decide +kernel
theorem d8_113 : decode q23 113 = .ok (.getfield 40, 3) := by decide +kernel
theorem d8_116 : decode q23 116 = .ok (.ifnonnull 62, 3) := by decide +kernel
theorem d8_119 : decode q23 119 = .ok (.aload_n 0, 1) := by decide +kernel
theorem d8_120 : decode q23 120 = .ok (.getfield 26, 3) := by decide +kernel
theorem d8_123 : decode q23 123 = .ok (.bipush 16, 2) := by decide +kernel
theorem d8_125 : decode q23 125 = .ok (.if_icmp .lt 53, 3) := by decide +kernel
theorem d8_178 : decode q23 178 = .ok (.aload_n 0, 1) := by decide +kernel
theorem d8_179 : decode q23 179 = .ok (.getfield 40, 3) := by decide +kernel
theorem d8_182 : decode q23 182 = .ok (.ifnull 23, 3) := by decide +kernel
theorem d8_205 : decode q23 205 = .ok (.return_, 1) := by decide +kernel
theorem pn_8 : plainName "com/example/satzung/satzung/parse/Attributes" = true := by first | (simp [plainName, overriddenIn]; done) | decide +kernel
theorem ef_8_0R_0 (m : MethodId) (o0 : Addr) (o1 : Addr) (o2 : Addr) : entryFrame m #[(.ref o0), (.ref o1), (.ref o2)] 4 = (mkF m 0 #[.val (.ref o0), .val (.ref o1), .val (.ref o2), .unset] []) := by first | (simp [entryFrame, mkF, argsToLocals, Value.category]; done) | rfl
def Q8_0R_0 (Z : State) (o0 : Addr) (o1 : Addr) (o2 : Addr) (an : Addr) (kan : ClassId) (fan : Int32 → Value) (av : Addr) (kav : ClassId) (fav : Int32 → Value) (ae : Addr) (kae : ClassId) (fae : Int32 → Value) (tx : Addr) (us : Value) (tl : Int32) (h0 : Heap) (n0 : Nat) (v : Option Value) (h : Heap) (L : List Loc) : Prop := v = none ∧ Fr n0 L ∧ Keep h0 h [an, av, ae, o0] ∧ True ∧ Arf Z h an kan (.object cB) z16 (own_upd fan z0 (.ref o1)) ∧ Arf Z h av kav (.object cB) z16 (own_upd fav z0 (.ref o2)) ∧ Arf Z h ae kae .int z16 (own_upd fae z0 (.int tl)) ∧ Fld Z h o0 cA "size" "I" (.int z1) ∧ Fld Z h o0 cA "specified" "I" us ∧ Fld Z h o0 cA "textLength" "I" (.int tl) ∧ Fld Z h o0 cA "index" "Ljava/util/Map;" .null ∧ Fld Z h o0 cA "names" cD (.ref an) ∧ Fld Z h o0 cA "values" cD (.ref av) ∧ Fld Z h o0 cA "ends" "[I" (.ref ae) ∧ Fld Z h o0 cA "text" "[C" (.ref tx)
theorem rm8_0R_0 (l : Launch) (Z : State) (a0 : Array Value) (hw : ∀ d ∈ tables_1, d.before a0 Z = true) (ws : List Jvm.Cond) (o0 : Addr) (o1 : Addr) (o2 : Addr) (an : Addr) (kan : ClassId) (fan : Int32 → Value) (av : Addr) (kav : ClassId) (fav : Int32 → Value) (ae : Addr) (kae : ClassId) (fae : Int32 → Value) (tx : Addr) (us : Value) (tl : Int32) (h0 : Heap) (n0 : Nat) (Z0 : n0 ≤ h0.size) (E_o0 : Exa Z h0 o0 cA) (F_se : Fld Z h0 o0 cA "size" "I" (.int z0)) (F_sd : Fld Z h0 o0 cA "specified" "I" us) (F_th : Fld Z h0 o0 cA "textLength" "I" (.int tl)) (F_ix : Fld Z h0 o0 cA "index" "Ljava/util/Map;" .null) (Fan : Fld Z h0 o0 cA "names" cD (.ref an)) (B_an : Arf Z h0 an kan (.object cB) z16 fan) (Fav : Fld Z h0 o0 cA "values" cD (.ref av)) (B_av : Arf Z h0 av kav (.object cB) z16 fav) (Fae : Fld Z h0 o0 cA "ends" "[I" (.ref ae)) (B_ae : Arf Z h0 ae kae .int z16 fae) (Ftx : Fld Z h0 o0 cA "text" "[C" (.ref tx)) (O_an : Ovr Z kan cB) (O_av : Ovr Z kav cB) (n_o0_an : o0 ≠ an) (n_o0_av : o0 ≠ av) (n_o0_ae : o0 ≠ ae) (n_an_av : an ≠ av) (n_an_ae : an ≠ ae) (n_av_ae : av ≠ ae) (E_o1 : Exa Z h0 o1 cB) (E_o2 : Exa Z h0 o2 cB) (g_an : n0 ≤ an) (g_av : n0 ≤ av) (g_ae : n0 ≤ ae) (g_o0 : n0 ≤ o0) :
    MetFree l (⟨cA, "append", cC⟩ : MethodName) (head1 (Jvm.Cond.code (⟨cA, "append", cC⟩ : MethodName) prog_64_method_12_code 4 none :: ws) ({ frames := 0, cells := 0, slots := 0, locals := 0 } : Room)) (fun a U => a = #[(.ref o0), (.ref o1), (.ref o2)] ∧ Z.Warmed39 U.vm ∧ U.heap = h0) (fun _ _ _ _ _ => True) (fun _ U o U' => ∃ v L, o = .returned v ∧ Q8_0R_0 Z o0 o1 o2 an kan fan av kav fav ae kae fae tx us tl h0 n0 v U'.heap L ∧ FrameEnd U o U' L ({ frames := 0, cells := 0, slots := 0, locals := 0 } : Room).cells ({ frames := 0, cells := 0, slots := 0, locals := 0 } : Room).slots) := by
  refine MetFree.of_bodySF (plainFor_of_name pn_8) hisR ?_
  intro p e s m args below meth c s₁ Bd hml0 hP hK
  obtain ⟨rfl, hZ, hh⟩ := hP
  have hx := Bd.exec
  have hby := Bd.bytes
  have hml : c.maxLocals = 4 := hml0
  have hown : s.vm.findClass cA = some m.cls := findClass_of_methodNamed Bd.named
  have hnm := (name_of_methodNamed Bd.named Bd.method).1
  have hrt := Bd.returns
  have hlk := Bd.notSynchronized
  have X0 : Stand p l e ({ frames := 0, cells := 0, slots := 0, locals := 0 } : Room) s m #[(.ref o0), (.ref o1), (.ref o2)] below meth c s₁ [] 0 0 := Stand.of_body Bd
  have e0 : s₁.heap = h0 := by rw [← hh, Bd.state]; rfl
  have N0 := Fr.nil n0
  have lt_E_o0 : LT.lt (α := Nat) o0 h0.size := E_o0.lt
  have lt_B_an : LT.lt (α := Nat) an h0.size := B_an.lt
  have lt_B_av : LT.lt (α := Nat) av h0.size := B_av.lt
  have lt_B_ae : LT.lt (α := Nat) ae h0.size := B_ae.lt
  have lt_E_o1 : LT.lt (α := Nat) o1 h0.size := E_o1.lt
  have lt_E_o2 : LT.lt (α := Nat) o2 h0.size := E_o2.lt
  show Go p e below s 0 0 (Q8_0R_0 Z o0 o1 o2 an kan fan av kav fav ae kae fae tx us tl h0 n0) (s₁.setTop (entryFrame m #[(.ref o0), (.ref o1), (.ref o2)] 4))
  rw [ef_8_0R_0 m o0 o1 o2]
  refine Go.pre (st' := s₁.setTop (mkF m 1 #[sR o0, sR o1, sR o2, sU] [(.ref o0)])) (fun target kt => ?_) ?_
  · refine XS.aloadN X0.here hx rfl (hb hby d8_0) rfl rfl ?_
    exact kt
  obtain ⟨T1, X1, e1, st1⟩ := getF X0 hx hZ hown (host := "") (Or.inl (ow hw 57 rfl)) Via.refl e0 F_se (g := (mkF m 1 #[sR o0, sR o1, sR o2, sU] [(.ref o0)])) rfl rfl (hb hby d8_1)
  refine Go.pre st1 ?_
  refine Go.pre (st' := T1.setTop (mkF m 5 #[sR o0, sR o1, sR o2, sU] [(.ref o0), (.int z0)])) (fun target kt => ?_) ?_
  · refine XS.aloadN X1.here hx rfl (hb hby d8_4) rfl rfl ?_
    exact kt
  obtain ⟨T2, X2, e2, st2⟩ := getF X1 hx hZ hown (host := "") (Or.inl (ow hw 36 rfl)) Via.refl e1 Fan (g := (mkF m 5 #[sR o0, sR o1, sR o2, sU] [(.ref o0), (.int z0)])) rfl rfl (hb hby d8_5)
  refine Go.pre st2 ?_
  obtain ⟨cl3, Ar3, -, Sz3, Nn3, -⟩ := id B_an
  have st3 := X2.arraylength hx (by rw [e2]; exact Ar3.1) (State.isArrayOf_alike hZ.alike Ar3.2.1) (g := (mkF m 8 #[sR o0, sR o1, sR o2, sU] [(.ref an), (.int z0)])) rfl rfl (hb hby d8_8)
  rw [len_of Sz3 Nn3] at st3
  refine Go.pre st3 ?_
  refine Go.pre (st' := T2.setTop (mkF m 70 #[sR o0, sR o1, sR o2, sU] [(.ref o0)])) (fun target kt => ?_) ?_
  · refine XS.icmpYes X2.here hx rfl (pc0 := 9) (pc' := 69) rfl (hb hby d8_9) rfl (feq (by decide)).2 (by decide) (by decide) ?_
    refine XS.aloadN X2.here hx rfl (hb hby d8_69) rfl rfl ?_
    exact kt
  obtain ⟨T4, X4, e4, st4⟩ := getF X2 hx hZ hown (host := "") (Or.inl (ow hw 36 rfl)) Via.refl e2 Fan (g := (mkF m 70 #[sR o0, sR o1, sR o2, sU] [(.ref o0)])) rfl rfl (hb hby d8_70)
  refine Go.pre st4 ?_
  refine Go.pre (st' := T4.setTop (mkF m 74 #[sR o0, sR o1, sR o2, sU] [(.ref o0), (.ref an)])) (fun target kt => ?_) ?_
  · refine XS.aloadN X4.here hx rfl (hb hby d8_73) rfl rfl ?_
    exact kt
  obtain ⟨T5, X5, e5, st5⟩ := getF X4 hx hZ hown (host := "") (Or.inl (ow hw 57 rfl)) Via.refl e4 F_se (g := (mkF m 74 #[sR o0, sR o1, sR o2, sU] [(.ref o0), (.ref an)])) rfl rfl (hb hby d8_74)
  refine Go.pre st5 ?_
  refine Go.pre (st' := T5.setTop (mkF m 78 #[sR o0, sR o1, sR o2, sU] [(.ref o1), (.int z0), (.ref an)])) (fun target kt => ?_) ?_
  · refine XS.aloadN X5.here hx rfl (hb hby d8_77) rfl rfl ?_
    exact kt
  obtain ⟨cl6, Ar6, q6, Sz6, Nn6, Hs6⟩ := id B_an
  have in6 : ¬ (z0 < 0 ∨ cl6.slots.size ≤ (z0).toNatClampNeg) := by rw [Sz6]; exact (by decide)
  obtain ⟨T6, h6, X6, e6, W6, st6⟩ := stR X5 hx hZ e5 Ar6 (j := z0) in6 rfl (Sto.ofV Ar6 q6 O_an (Ins.self E_o1)) (g := (mkF m 78 #[sR o0, sR o1, sR o2, sU] [(.ref o1), (.int z0), (.ref an)])) rfl rfl (hb hby d8_78)
  have sz6 : h0.size ≤ h6.size := (Keep.of_wr W6).1
  have V6 : Arf Z h6 an kan (.object cB) z16 (own_upd fan z0 (.ref o1)) := Arf.set Ar6 q6 Sz6 Nn6 Hs6 rfl in6 W6
  have N6 := Fr.snoc X6 N0 (by omega)
  refine Go.pre st6 ?_
  refine Go.pre (st' := T6.setTop (mkF m 80 #[sR o0, sR o1, sR o2, sU] [(.ref o0)])) (fun target kt => ?_) ?_
  · refine XS.aloadN X6.here hx rfl (hb hby d8_79) rfl rfl ?_
    exact kt
  have Y7 := (Fav.other W6 (Or.inl n_o0_an))
  obtain ⟨T8, X8, e8, st8⟩ := getF X6 hx hZ hown (host := "") (Or.inl (ow hw 38 rfl)) Via.refl e6 Y7 (g := (mkF m 80 #[sR o0, sR o1, sR o2, sU] [(.ref o0)])) rfl rfl (hb hby d8_80)
  refine Go.pre st8 ?_
  refine Go.pre (st' := T8.setTop (mkF m 84 #[sR o0, sR o1, sR o2, sU] [(.ref o0), (.ref av)])) (fun target kt => ?_) ?_
  · refine XS.aloadN X8.here hx rfl (hb hby d8_83) rfl rfl ?_
    exact kt
  have Y9 := (F_se.other W6 (Or.inl n_o0_an))
  obtain ⟨T10, X10, e10, st10⟩ := getF X8 hx hZ hown (host := "") (Or.inl (ow hw 57 rfl)) Via.refl e8 Y9 (g := (mkF m 84 #[sR o0, sR o1, sR o2, sU] [(.ref o0), (.ref av)])) rfl rfl (hb hby d8_84)
  refine Go.pre st10 ?_
  refine Go.pre (st' := T10.setTop (mkF m 88 #[sR o0, sR o1, sR o2, sU] [(.ref o2), (.int z0), (.ref av)])) (fun target kt => ?_) ?_
  · refine XS.aloadN X10.here hx rfl (hb hby d8_87) rfl rfl ?_
    exact kt
  have Y11 := (B_av.other W6 (Ne.symm n_an_av))
  obtain ⟨cl12, Ar12, q12, Sz12, Nn12, Hs12⟩ := id Y11
  have in12 : ¬ (z0 < 0 ∨ cl12.slots.size ≤ (z0).toNatClampNeg) := by rw [Sz12]; exact (by decide)
  have Y13 := (E_o2.wr W6)
  obtain ⟨T12, h12, X12, e12, W12, st12⟩ := stR X10 hx hZ e10 Ar12 (j := z0) in12 rfl (Sto.ofV Ar12 q12 O_av (Ins.self Y13)) (g := (mkF m 88 #[sR o0, sR o1, sR o2, sU] [(.ref o2), (.int z0), (.ref av)])) rfl rfl (hb hby d8_88)
  have sz12 : h6.size ≤ h12.size := (Keep.of_wr W12).1
  have V12 : Arf Z h12 av kav (.object cB) z16 (own_upd fav z0 (.ref o2)) := Arf.set Ar12 q12 Sz12 Nn12 Hs12 rfl in12 W12
  have N12 := Fr.snoc X12 N6 (by omega)
  refine Go.pre st12 ?_
  refine Go.pre (st' := T12.setTop (mkF m 90 #[sR o0, sR o1, sR o2, sU] [(.ref o0)])) (fun target kt => ?_) ?_
  · refine XS.aloadN X12.here hx rfl (hb hby d8_89) rfl rfl ?_
    exact kt
  have Y14 := ((Fae.other W6 (Or.inl n_o0_an)).other W12 (Or.inl n_o0_av))
  obtain ⟨T15, X15, e15, st15⟩ := getF X12 hx hZ hown (host := "") (Or.inl (ow hw 41 rfl)) Via.refl e12 Y14 (g := (mkF m 90 #[sR o0, sR o1, sR o2, sU] [(.ref o0)])) rfl rfl (hb hby d8_90)
  refine Go.pre st15 ?_
  refine Go.pre (st' := T15.setTop (mkF m 94 #[sR o0, sR o1, sR o2, sU] [(.ref o0), (.ref ae)])) (fun target kt => ?_) ?_
  · refine XS.aloadN X15.here hx rfl (hb hby d8_93) rfl rfl ?_
    exact kt
  have Y16 := (Y9.other W12 (Or.inl n_o0_av))
  obtain ⟨T17, X17, e17, st17⟩ := getF X15 hx hZ hown (host := "") (Or.inl (ow hw 57 rfl)) Via.refl e15 Y16 (g := (mkF m 94 #[sR o0, sR o1, sR o2, sU] [(.ref o0), (.ref ae)])) rfl rfl (hb hby d8_94)
  refine Go.pre st17 ?_
  refine Go.pre (st' := T17.setTop (mkF m 98 #[sR o0, sR o1, sR o2, sU] [(.ref o0), (.int z0), (.ref ae)])) (fun target kt => ?_) ?_
  · refine XS.aloadN X17.here hx rfl (hb hby d8_97) rfl rfl ?_
    exact kt
  have Y18 := ((F_th.other W6 (Or.inl n_o0_an)).other W12 (Or.inl n_o0_av))
  obtain ⟨T19, X19, e19, st19⟩ := getF X17 hx hZ hown (host := "") (Or.inl (ow hw 59 rfl)) Via.refl e17 Y18 (g := (mkF m 98 #[sR o0, sR o1, sR o2, sU] [(.ref o0), (.int z0), (.ref ae)])) rfl rfl (hb hby d8_98)
  refine Go.pre st19 ?_
  have Y20 := ((B_ae.other W6 (Ne.symm n_an_ae)).other W12 (Ne.symm n_av_ae))
  obtain ⟨cl21, Ar21, q21, Sz21, Nn21, Hs21⟩ := id Y20
  have in21 : ¬ (z0 < 0 ∨ cl21.slots.size ≤ (z0).toNatClampNeg) := by rw [Sz21]; exact (by decide)
  obtain ⟨T21, h21, X21, e21, W21, st21⟩ := stI X19 hx hZ e19 Ar21 (j := z0) in21 (g := (mkF m 101 #[sR o0, sR o1, sR o2, sU] [(.int tl), (.int z0), (.ref ae)])) rfl rfl (hb hby d8_101)
  have sz21 : h12.size ≤ h21.size := (Keep.of_wr W21).1
  have V21 : Arf Z h21 ae kae .int z16 (own_upd fae z0 (.int tl)) := Arf.set Ar21 q21 Sz21 Nn21 Hs21 rfl in21 W21
  have N21 := Fr.snoc X21 N12 (by omega)
  refine Go.pre st21 ?_
  refine Go.pre (st' := T21.setTop (mkF m 104 #[sR o0, sR o1, sR o2, sU] [(.ref o0), (.ref o0)])) (fun target kt => ?_) ?_
  · refine XS.aloadN X21.here hx rfl (hb hby d8_102) rfl rfl ?_
    refine XS.dup X21.here hx rfl (hb hby d8_103) rfl rfl ?_
    exact kt
  have Y22 := (Y16.other W21 (Or.inl n_o0_ae))
  obtain ⟨T23, X23, e23, st23⟩ := getF X21 hx hZ hown (host := "") (Or.inl (ow hw 57 rfl)) Via.refl e21 Y22 (g := (mkF m 104 #[sR o0, sR o1, sR o2, sU] [(.ref o0), (.ref o0)])) rfl rfl (hb hby d8_104)
  refine Go.pre st23 ?_
  refine Go.pre (st' := T23.setTop (mkF m 109 #[sR o0, sR o1, sR o2, sU] [(.int z1), (.ref o0)])) (fun target kt => ?_) ?_
  · refine XS.iconst X23.here hx rfl (hb hby d8_107) ?_
    refine XS.iadd X23.here hx rfl (hb hby d8_108) rfl ?_
    exact kt
  have Y24 := (((E_o0.wr W6).wr W12).wr W21)
  obtain ⟨T25, h25, X25, e25, W25, st25⟩ := putF X23 hx hZ hown (host := "") (Or.inl (ow hw 57 rfl)) Via.refl e23 Y22 Y24 (Or.inl (ow hw 58 rfl)) (ow hw 28 rfl) (ty := .int) (by decide) rfl rfl (g := (mkF m 109 #[sR o0, sR o1, sR o2, sU] [(.int z1), (.ref o0)])) rfl rfl (hb hby d8_109)
  have sz25 : h21.size ≤ h25.size := (Keep.of_wr W25).1
  have Y26 : Fld Z h25 o0 cA "size" "I" (.int z1) := Y22.same W25
  have N25 := Fr.snoc X25 N21 (by omega)
  refine Go.pre st25 ?_
  refine Go.pre (st' := T25.setTop (mkF m 113 #[sR o0, sR o1, sR o2, sU] [(.ref o0)])) (fun target kt => ?_) ?_
  · refine XS.aloadN X25.here hx rfl (hb hby d8_112) rfl rfl ?_
    exact kt
  have Y27 := ((((F_ix.other W6 (Or.inl n_o0_an)).other W12 (Or.inl n_o0_av)).other W21 (Or.inl n_o0_ae)).other W25 (Or.inr (slot_ne (Or.inl (ow hw 62 rfl)) (Or.inl (ow hw 58 rfl)) (by decide) (t := (.object "java/util/Map")) (t' := .int) (by decide) (by decide))))
  obtain ⟨T28, X28, e28, st28⟩ := getF X25 hx hZ hown (host := "") (Or.inl (ow hw 61 rfl)) Via.refl e25 Y27 (g := (mkF m 113 #[sR o0, sR o1, sR o2, sU] [(.ref o0)])) rfl rfl (hb hby d8_113)
  refine Go.pre st28 ?_
  refine Go.pre (st' := T28.setTop (mkF m 120 #[sR o0, sR o1, sR o2, sU] [(.ref o0)])) (fun target kt => ?_) ?_
  · refine XS.ifnonnullNo X28.here hx rfl (hb hby d8_116) rfl ?_
    refine XS.aloadN X28.here hx rfl (hb hby d8_119) rfl rfl ?_
    exact kt
  obtain ⟨T29, X29, e29, st29⟩ := getF X28 hx hZ hown (host := "") (Or.inl (ow hw 57 rfl)) Via.refl e28 Y26 (g := (mkF m 120 #[sR o0, sR o1, sR o2, sU] [(.ref o0)])) rfl rfl (hb hby d8_120)
  refine Go.pre st29 ?_
  refine Go.pre (st' := T29.setTop (mkF m 179 #[sR o0, sR o1, sR o2, sU] [(.ref o0)])) (fun target kt => ?_) ?_
  · refine XS.bipush X29.here hx rfl (hb hby d8_123) ?_
    refine XS.icmpYes X29.here hx rfl (pc0 := 125) (pc' := 178) rfl (hb hby d8_125) rfl (tlt (by decide)).1 (by decide) (by decide) ?_
    refine XS.aloadN X29.here hx rfl (hb hby d8_178) rfl rfl ?_
    exact kt
  obtain ⟨T30, X30, e30, st30⟩ := getF X29 hx hZ hown (host := "") (Or.inl (ow hw 61 rfl)) Via.refl e29 Y27 (g := (mkF m 179 #[sR o0, sR o1, sR o2, sU] [(.ref o0)])) rfl rfl (hb hby d8_179)
  refine Go.pre st30 ?_
  refine Go.pre (st' := T30.setTop (mkF m 205 #[sR o0, sR o1, sR o2, sU] [])) (fun target kt => ?_) ?_
  · refine XS.ifnullYes X30.here hx rfl (pc0 := 182) (pc' := 205) rfl (hb hby d8_182) rfl (by decide) (by decide) ?_
    exact kt
  have Y31 := (((V6.other W12 n_an_av).other W21 n_an_ae).other W25 (Ne.symm n_o0_an))
  have Y32 := ((V12.other W21 n_av_ae).other W25 (Ne.symm n_o0_av))
  have Y33 := (V21.other W25 (Ne.symm n_o0_ae))
  have Y34 := ((((F_sd.other W6 (Or.inl n_o0_an)).other W12 (Or.inl n_o0_av)).other W21 (Or.inl n_o0_ae)).other W25 (Or.inr (slot_ne (Or.inl (ow hw 64 rfl)) (Or.inl (ow hw 58 rfl)) (by decide) (t := .int) (t' := .int) (by decide) (by decide))))
  have Y35 := ((Y18.other W21 (Or.inl n_o0_ae)).other W25 (Or.inr (slot_ne (Or.inl (ow hw 60 rfl)) (Or.inl (ow hw 58 rfl)) (by decide) (t := .int) (t' := .int) (by decide) (by decide))))
  have Y36 := ((((Fan.other W6 (Or.inl n_o0_an)).other W12 (Or.inl n_o0_av)).other W21 (Or.inl n_o0_ae)).other W25 (Or.inr (slot_ne (Or.inl (ow hw 37 rfl)) (Or.inl (ow hw 58 rfl)) (by decide) (t := (.array (.object cB))) (t' := .int) (by decide) (by decide))))
  have Y37 := (((Y7.other W12 (Or.inl n_o0_av)).other W21 (Or.inl n_o0_ae)).other W25 (Or.inr (slot_ne (Or.inl (ow hw 39 rfl)) (Or.inl (ow hw 58 rfl)) (by decide) (t := (.array (.object cB))) (t' := .int) (by decide) (by decide))))
  have Y38 := ((Y14.other W21 (Or.inl n_o0_ae)).other W25 (Or.inr (slot_ne (Or.inl (ow hw 42 rfl)) (Or.inl (ow hw 58 rfl)) (by decide) (t := (.array .int)) (t' := .int) (by decide) (by decide))))
  have Y39 := ((((Ftx.other W6 (Or.inl n_o0_an)).other W12 (Or.inl n_o0_av)).other W21 (Or.inl n_o0_ae)).other W25 (Or.inr (slot_ne (Or.inl (ow hw 44 rfl)) (Or.inl (ow hw 58 rfl)) (by decide) (t := (.array .char)) (t' := .int) (by decide) (by decide))))
  exact Go.ret0 X30 hx hlk hrt (hb hby d8_205) (by decide) (by decide) (by rw [e30]; exact ⟨rfl, N25, (((((Keep.refl h0 [an, av, ae, o0]).wr W6 (Or.inl (List.mem_of_getElem? (i := 0) rfl))).wr W12 (Or.inl (List.mem_of_getElem? (i := 1) rfl))).wr W21 (Or.inl (List.mem_of_getElem? (i := 2) rfl))).wr W25 (Or.inl (List.mem_of_getElem? (i := 3) rfl))), trivial, Y31, Y32, Y33, Y26, Y34, Y35, Y27, Y36, Y37, Y38, Y39⟩)
/-! Attributes.add (7) -/
theorem d7_0 : decode q30 0 = .ok (.aload_n 0, 1) := by decide +kernel
theorem d7_1 : decode q30 1 = .ok (.aload_n 1, 1) := by decide +kernel
theorem d7_2 : decode q30 2 = .ok (.aload_n 2, 1) := by decide +kernel
theorem d7_3 : decode q30 3 = .ok (.invokevirtual 67, 3) := by decide +kernel
theorem d7_6 : decode q30 6 = .ok (.aload_n 0, 1) := by decide +kernel
theorem d7_7 : decode q30 7 = .ok (.aload_n 0, 1) := by decide +kernel
theorem d7_8 : decode q30 8 = .ok (.getfield 26, 3) := by decide +kernel
theorem d7_11 : decode q30 11 = .ok (.putfield 30, 3) := by decide +kernel
theorem d7_14 : decode q30 14 = .ok (.return_, 1) := by decide +kernel
theorem pn_7 : plainName "com/example/satzung/satzung/parse/Attributes" = true := by first | (simp [plainName, overriddenIn]; done) | decide +kernel
theorem pd7_0 : parseMethodDescriptor "(Ljava/lang/String;Ljava/lang/String;)V" = some ⟨[(.object "java/lang/String"), (.object "java/lang/String")], none⟩ := by decide +kernel
theorem ef_7 (m : MethodId) (o0 : Addr) (o1 : Addr) (o2 : Addr) : entryFrame m #[(.ref o0), (.ref o1), (.ref o2)] 3 = (mkF m 0 #[.val (.ref o0), .val (.ref o1), .val (.ref o2)] []) := by first | (simp [entryFrame, mkF, argsToLocals, Value.category]; done) | rfl
def Q7 (Z : State) (o0 : Addr) (o1 : Addr) (o2 : Addr) (an : Addr) (kan : ClassId) (fan : Int32 → Value) (av : Addr) (kav : ClassId) (fav : Int32 → Value) (ae : Addr) (kae : ClassId) (fae : Int32 → Value) (tx : Addr) (us : Value) (tl : Int32) (h0 : Heap) (n0 : Nat) (v : Option Value) (h : Heap) (L : List Loc) : Prop := v = none ∧ Fr n0 L ∧ Keep h0 h [an, av, ae, o0] ∧ True ∧ Arf Z h an kan (.object cB) z16 (own_upd fan z0 (.ref o1)) ∧ Arf Z h av kav (.object cB) z16 (own_upd fav z0 (.ref o2)) ∧ Arf Z h ae kae .int z16 (own_upd fae z0 (.int tl)) ∧ Fld Z h o0 cA "size" "I" (.int z1) ∧ Fld Z h o0 cA "specified" "I" (.int z1) ∧ Fld Z h o0 cA "textLength" "I" (.int tl) ∧ Fld Z h o0 cA "index" "Ljava/util/Map;" .null ∧ Fld Z h o0 cA "names" cD (.ref an) ∧ Fld Z h o0 cA "values" cD (.ref av) ∧ Fld Z h o0 cA "ends" "[I" (.ref ae) ∧ Fld Z h o0 cA "text" "[C" (.ref tx)
theorem rm7 (l : Launch) (Z : State) (a0 : Array Value) (hw : ∀ d ∈ tables_1, d.before a0 Z = true) (ws : List Jvm.Cond) (o0 : Addr) (o1 : Addr) (o2 : Addr) (an : Addr) (kan : ClassId) (fan : Int32 → Value) (av : Addr) (kav : ClassId) (fav : Int32 → Value) (ae : Addr) (kae : ClassId) (fae : Int32 → Value) (tx : Addr) (us : Value) (tl : Int32) (h0 : Heap) (n0 : Nat) (Z0 : n0 ≤ h0.size) (E_o0 : Exa Z h0 o0 cA) (F_se : Fld Z h0 o0 cA "size" "I" (.int z0)) (F_sd : Fld Z h0 o0 cA "specified" "I" us) (F_th : Fld Z h0 o0 cA "textLength" "I" (.int tl)) (F_ix : Fld Z h0 o0 cA "index" "Ljava/util/Map;" .null) (Fan : Fld Z h0 o0 cA "names" cD (.ref an)) (B_an : Arf Z h0 an kan (.object cB) z16 fan) (Fav : Fld Z h0 o0 cA "values" cD (.ref av)) (B_av : Arf Z h0 av kav (.object cB) z16 fav) (Fae : Fld Z h0 o0 cA "ends" "[I" (.ref ae)) (B_ae : Arf Z h0 ae kae .int z16 fae) (Ftx : Fld Z h0 o0 cA "text" "[C" (.ref tx)) (O_an : Ovr Z kan cB) (O_av : Ovr Z kav cB) (n_o0_an : o0 ≠ an) (n_o0_av : o0 ≠ av) (n_o0_ae : o0 ≠ ae) (n_an_av : an ≠ av) (n_an_ae : an ≠ ae) (n_av_ae : av ≠ ae) (E_o1 : Exa Z h0 o1 cB) (E_o2 : Exa Z h0 o2 cB) (g_an : n0 ≤ an) (g_av : n0 ≤ av) (g_ae : n0 ≤ ae) (g_o0 : n0 ≤ o0) :
    MetFree l (⟨cA, "add", cC⟩ : MethodName) (head1 (Jvm.Cond.code (⟨cA, "add", cC⟩ : MethodName) prog_64_method_8_code 3 none :: ws) ({ frames := 1, cells := 0, slots := 0, locals := 15 } : Room)) (fun a U => a = #[(.ref o0), (.ref o1), (.ref o2)] ∧ Z.Warmed39 U.vm ∧ U.heap = h0) (fun _ _ _ _ _ => True) (fun _ U o U' => ∃ v L, o = .returned v ∧ Q7 Z o0 o1 o2 an kan fan av kav fav ae kae fae tx us tl h0 n0 v U'.heap L ∧ FrameEnd U o U' L ({ frames := 1, cells := 0, slots := 0, locals := 15 } : Room).cells ({ frames := 1, cells := 0, slots := 0, locals := 15 } : Room).slots) := by
  refine MetFree.of_bodySF (plainFor_of_name pn_7) hisR ?_
  intro p e s m args below meth c s₁ Bd hml0 hP hK
  obtain ⟨rfl, hZ, hh⟩ := hP
  have hx := Bd.exec
  have hby := Bd.bytes
  have hml : c.maxLocals = 3 := hml0
  have hown : s.vm.findClass cA = some m.cls := findClass_of_methodNamed Bd.named
  have hnm := (name_of_methodNamed Bd.named Bd.method).1
  have hrt := Bd.returns
  have hlk := Bd.notSynchronized
  have X0 : Stand p l e ({ frames := 1, cells := 0, slots := 0, locals := 15 } : Room) s m #[(.ref o0), (.ref o1), (.ref o2)] below meth c s₁ [] 0 0 := Stand.of_body Bd
  have e0 : s₁.heap = h0 := by rw [← hh, Bd.state]; rfl
  have N0 := Fr.nil n0
  have lt_E_o0 : LT.lt (α := Nat) o0 h0.size := E_o0.lt
  have lt_B_an : LT.lt (α := Nat) an h0.size := B_an.lt
  have lt_B_av : LT.lt (α := Nat) av h0.size := B_av.lt
  have lt_B_ae : LT.lt (α := Nat) ae h0.size := B_ae.lt
  have lt_E_o1 : LT.lt (α := Nat) o1 h0.size := E_o1.lt
  have lt_E_o2 : LT.lt (α := Nat) o2 h0.size := E_o2.lt
  show Go p e below s 0 0 (Q7 Z o0 o1 o2 an kan fan av kav fav ae kae fae tx us tl h0 n0) (s₁.setTop (entryFrame m #[(.ref o0), (.ref o1), (.ref o2)] 3))
  rw [ef_7 m o0 o1 o2]
  refine Go.pre (st' := s₁.setTop (mkF m 3 #[sR o0, sR o1, sR o2] [(.ref o2), (.ref o1), (.ref o0)])) (fun target kt => ?_) ?_
  · refine XS.aloadN X0.here hx rfl (hb hby d7_0) rfl rfl ?_
    refine XS.aloadN X0.here hx rfl (hb hby d7_1) rfl rfl ?_
    refine XS.aloadN X0.here hx rfl (hb hby d7_2) rfl rfl ?_
    exact kt
  obtain ⟨cq1, q1, q1'⟩ := E_o0.cell
  obtain ⟨_, _, ⟨T1, L1, k1, n1⟩, -, X1, ⟨Lc1, hQ1, l1, y1, z1⟩, st1⟩ := X0.privateBack hx (y := (⟨cA, "append", cC⟩ : MethodName)) hown (mvT hZ (ow hw 53 rfl)) (mvT hZ (ow hw 54 rfl)) (mvT hZ (selects_private (y := (⟨cA, "append", cC⟩ : MethodName)) (ow hw 28 rfl) (ow hw 55 rfl) (ow hw 54 rfl))) (Cond.privateMethod_at (mvP hZ (ow hw 55 rfl) (args := #[]))) (mvT hZ (ow hw 56 rfl)) (by decide) (backOf (W := 0) (rm8_0R_0 l Z a0 hw [] o0 o1 o2 an kan fan av kav fav ae kae fae tx us tl h0 n0 (by omega) E_o0 F_se F_sd F_th F_ix Fan B_an Fav B_av Fae B_ae Ftx O_an O_av n_o0_an n_o0_av n_o0_ae n_an_av n_an_ae n_av_ae E_o1 E_o2 (by omega) (by omega) (by omega) (by omega)) hZ (ow hw 56 rfl) (ow hw 29 rfl) (by decide) (by decide)) (g := (mkF m 3 #[sR o0, sR o1, sR o2] [(.ref o2), (.ref o1), (.ref o0)])) rfl (by rw [hml]; rfl) (Steps.refl _) (a := o0) (by rw [e0]; exact q1) q1' (argsL := [(.ref o1), (.ref o2)]) (rest := []) (lenOf pd7_0 rfl) rfl (le0 rfl) (hb hby d7_3) (fun vm₁ hvm => ⟨rfl, e0, (by decide : 0 + 0 ≤ _), (by decide : 0 + 0 ≤ _)⟩)
  dsimp only [Pt.U, Pt.locs, Pt.cells, Pt.slots] at X1 l1 y1 z1 st1 hQ1
  subst l1 y1 z1
  obtain ⟨rfl, N1q, K1, KF1, Y1_0, Y1_1, Y1_2, Y1_3, Y1_4, Y1_5, Y1_6, Y1_7, Y1_8, Y1_9, Y1_10⟩ := hQ1
  have sz1 : h0.size ≤ T1.heap.size := K1.1
  have N1 := Fr.app N0 N1q
  refine Go.trans st1 ?_
  refine Go.pre (st' := T1.setTop (mkF m 8 #[sR o0, sR o1, sR o2] [(.ref o0), (.ref o0)])) (fun target kt => ?_) ?_
  · refine XS.aloadN X1.here hx rfl (hb hby d7_6) rfl rfl ?_
    refine XS.aloadN X1.here hx rfl (hb hby d7_7) rfl rfl ?_
    exact kt
  obtain ⟨T2, X2, e2, st2⟩ := getF X1 hx hZ hown (host := "") (Or.inl (ow hw 57 rfl)) Via.refl rfl Y1_3 (g := (mkF m 8 #[sR o0, sR o1, sR o2] [(.ref o0), (.ref o0)])) rfl rfl (hb hby d7_8)
  refine Go.pre st2 ?_
  have Y3 := (E_o0.keep K1)
  obtain ⟨T4, h4, X4, e4, W4, st4⟩ := putF X2 hx hZ hown (host := "") (Or.inl (ow hw 63 rfl)) Via.refl e2 Y1_4 Y3 (Or.inl (ow hw 64 rfl)) (ow hw 28 rfl) (ty := .int) (by decide) rfl rfl (g := (mkF m 11 #[sR o0, sR o1, sR o2] [(.int z1), (.ref o0)])) rfl rfl (hb hby d7_11)
  have sz4 : T1.heap.size ≤ h4.size := (Keep.of_wr W4).1
  have Y5 : Fld Z h4 o0 cA "specified" "I" (.int z1) := Y1_4.same W4
  have N4 := Fr.snoc X4 N1 (by omega)
  refine Go.pre st4 ?_
  have Y6 := (Y1_0.other W4 (Ne.symm n_o0_an))
  have Y7 := (Y1_1.other W4 (Ne.symm n_o0_av))
  have Y8 := (Y1_2.other W4 (Ne.symm n_o0_ae))
  have Y9 := (Y1_3.other W4 (Or.inr (slot_ne (Or.inl (ow hw 58 rfl)) (Or.inl (ow hw 64 rfl)) (by decide) (t := .int) (t' := .int) (by decide) (by decide))))
  have Y10 := (Y1_5.other W4 (Or.inr (slot_ne (Or.inl (ow hw 60 rfl)) (Or.inl (ow hw 64 rfl)) (by decide) (t := .int) (t' := .int) (by decide) (by decide))))
  have Y11 := (Y1_6.other W4 (Or.inr (slot_ne (Or.inl (ow hw 62 rfl)) (Or.inl (ow hw 64 rfl)) (by decide) (t := (.object "java/util/Map")) (t' := .int) (by decide) (by decide))))
  have Y12 := (Y1_7.other W4 (Or.inr (slot_ne (Or.inl (ow hw 37 rfl)) (Or.inl (ow hw 64 rfl)) (by decide) (t := (.array (.object cB))) (t' := .int) (by decide) (by decide))))
  have Y13 := (Y1_8.other W4 (Or.inr (slot_ne (Or.inl (ow hw 39 rfl)) (Or.inl (ow hw 64 rfl)) (by decide) (t := (.array (.object cB))) (t' := .int) (by decide) (by decide))))
  have Y14 := (Y1_9.other W4 (Or.inr (slot_ne (Or.inl (ow hw 42 rfl)) (Or.inl (ow hw 64 rfl)) (by decide) (t := (.array .int)) (t' := .int) (by decide) (by decide))))
  have Y15 := (Y1_10.other W4 (Or.inr (slot_ne (Or.inl (ow hw 44 rfl)) (Or.inl (ow hw 64 rfl)) (by decide) (t := (.array .char)) (t' := .int) (by decide) (by decide))))
  exact Go.ret0 X4 hx hlk hrt (hb hby d7_14) (by decide) (by decide) (by rw [e4]; exact ⟨rfl, N4, (((Keep.refl h0 [an, av, ae, o0]).trans K1 (allS (Or.inl (List.mem_of_getElem? (i := 0) rfl)) (allS (Or.inl (List.mem_of_getElem? (i := 1) rfl)) (allS (Or.inl (List.mem_of_getElem? (i := 2) rfl)) (allS (Or.inl (List.mem_of_getElem? (i := 3) rfl)) all0))))).wr W4 (Or.inl (List.mem_of_getElem? (i := 3) rfl))), trivial, Y6, Y7, Y8, Y9, Y5, Y10, Y11, Y12, Y13, Y14, Y15⟩)
/-! Attributes.append (8_1R_0) -/
theorem ef_8_1R_0 (m : MethodId) (o0 : Addr) (o1 : Addr) (o2 : Addr) : entryFrame m #[(.ref o0), (.ref o1), (.ref o2)] 4 = (mkF m 0 #[.val (.ref o0), .val (.ref o1), .val (.ref o2), .unset] []) := by first | (simp [entryFrame, mkF, argsToLocals, Value.category]; done) | rfl
def Q8_1R_0 (Z : State) (o0 : Addr) (o1 : Addr) (o2 : Addr) (an : Addr) (kan : ClassId) (fan : Int32 → Value) (av : Addr) (kav : ClassId) (fav : Int32 → Value) (ae : Addr) (kae : ClassId) (fae : Int32 → Value) (tx : Addr) (us : Value) (tl : Int32) (h0 : Heap) (n0 : Nat) (v : Option Value) (h : Heap) (L : List Loc) : Prop := v = none ∧ Fr n0 L ∧ Keep h0 h [an, av, ae, o0] ∧ True ∧ Arf Z h an kan (.object cB) z16 (own_upd fan z1 (.ref o1)) ∧ Arf Z h av kav (.object cB) z16 (own_upd fav z1 (.ref o2)) ∧ Arf Z h ae kae .int z16 (own_upd fae z1 (.int tl)) ∧ Fld Z h o0 cA "size" "I" (.int z2) ∧ Fld Z h o0 cA "specified" "I" us ∧ Fld Z h o0 cA "textLength" "I" (.int tl) ∧ Fld Z h o0 cA "index" "Ljava/util/Map;" .null ∧ Fld Z h o0 cA "names" cD (.ref an) ∧ Fld Z h o0 cA "values" cD (.ref av) ∧ Fld Z h o0 cA "ends" "[I" (.ref ae) ∧ Fld Z h o0 cA "text" "[C" (.ref tx)
theorem rm8_1R_0 (l : Launch) (Z : State) (a0 : Array Value) (hw : ∀ d ∈ tables_1, d.before a0 Z = true) (ws : List Jvm.Cond) (o0 : Addr) (o1 : Addr) (o2 : Addr) (an : Addr) (kan : ClassId) (fan : Int32 → Value) (av : Addr) (kav : ClassId) (fav : Int32 → Value) (ae : Addr) (kae : ClassId) (fae : Int32 → Value) (tx : Addr) (us : Value) (tl : Int32) (h0 : Heap) (n0 : Nat) (Z0 : n0 ≤ h0.size) (E_o0 : Exa Z h0 o0 cA) (F_se : Fld Z h0 o0 cA "size" "I" (.int z1)) (F_sd : Fld Z h0 o0 cA "specified" "I" us) (F_th : Fld Z h0 o0 cA "textLength" "I" (.int tl)) (F_ix : Fld Z h0 o0 cA "index" "Ljava/util/Map;" .null) (Fan : Fld Z h0 o0 cA "names" cD (.ref an)) (B_an : Arf Z h0 an kan (.object cB) z16 fan) (Fav : Fld Z h0 o0 cA "values" cD (.ref av)) (B_av : Arf Z h0 av kav (.object cB) z16 fav) (Fae : Fld Z h0 o0 cA "ends" "[I" (.ref ae)) (B_ae : Arf Z h0 ae kae .int z16 fae) (Ftx : Fld Z h0 o0 cA "text" "[C" (.ref tx)) (O_an : Ovr Z kan cB) (O_av : Ovr Z kav cB) (n_o0_an : o0 ≠ an) (n_o0_av : o0 ≠ av) (n_o0_ae : o0 ≠ ae) (n_an_av : an ≠ av) (n_an_ae : an ≠ ae) (n_av_ae : av ≠ ae) (E_o1 : Exa Z h0 o1 cB) (E_o2 : Exa Z h0 o2 cB) (g_an : n0 ≤ an) (g_av : n0 ≤ av) (g_ae : n0 ≤ ae) (g_o0 : n0 ≤ o0) :
    MetFree l (⟨cA, "append", cC⟩ : MethodName) (head1 (Jvm.Cond.code (⟨cA, "append", cC⟩ : MethodName) prog_64_method_12_code 4 none :: ws) ({ frames := 0, cells := 0, slots := 0, locals := 0 } : Room)) (fun a U => a = #[(.ref o0), (.ref o1), (.ref o2)] ∧ Z.Warmed39 U.vm ∧ U.heap = h0) (fun _ _ _ _ _ => True) (fun _ U o U' => ∃ v L, o = .returned v ∧ Q8_1R_0 Z o0 o1 o2 an kan fan av kav fav ae kae fae tx us tl h0 n0 v U'.heap L ∧ FrameEnd U o U' L ({ frames := 0, cells := 0, slots := 0, locals := 0 } : Room).cells ({ frames := 0, cells := 0, slots := 0, locals := 0 } : Room).slots) := by
  refine MetFree.of_bodySF (plainFor_of_name pn_8) hisR ?_
  intro p e s m args below meth c s₁ Bd hml0 hP hK
  obtain ⟨rfl, hZ, hh⟩ := hP
  have hx := Bd.exec
  have hby := Bd.bytes
  have hml : c.maxLocals = 4 := hml0
  have hown : s.vm.findClass cA = some m.cls := findClass_of_methodNamed Bd.named
  have hnm := (name_of_methodNamed Bd.named Bd.method).1
  have hrt := Bd.returns
  have hlk := Bd.notSynchronized
  have X0 : Stand p l e ({ frames := 0, cells := 0, slots := 0, locals := 0 } : Room) s m #[(.ref o0), (.ref o1), (.ref o2)] below meth c s₁ [] 0 0 := Stand.of_body Bd
  have e0 : s₁.heap = h0 := by rw [← hh, Bd.state]; rfl
  have N0 := Fr.nil n0
  have lt_E_o0 : LT.lt (α := Nat) o0 h0.size := E_o0.lt
  have lt_B_an : LT.lt (α := Nat) an h0.size := B_an.lt
  have lt_B_av : LT.lt (α := Nat) av h0.size := B_av.lt
  have lt_B_ae : LT.lt (α := Nat) ae h0.size := B_ae.lt
  have lt_E_o1 : LT.lt (α := Nat) o1 h0.size := E_o1.lt
  have lt_E_o2 : LT.lt (α := Nat) o2 h0.size := E_o2.lt
  show Go p e below s 0 0 (Q8_1R_0 Z o0 o1 o2 an kan fan av kav fav ae kae fae tx us tl h0 n0) (s₁.setTop (entryFrame m #[(.ref o0), (.ref o1), (.ref o2)] 4))
  rw [ef_8_1R_0 m o0 o1 o2]
  refine Go.pre (st' := s₁.setTop (mkF m 1 #[sR o0, sR o1, sR o2, sU] [(.ref o0)])) (fun target kt => ?_) ?_
  · refine XS.aloadN X0.here hx rfl (hb hby d8_0) rfl rfl ?_
    exact kt
  obtain ⟨T1, X1, e1, st1⟩ := getF X0 hx hZ hown (host := "") (Or.inl (ow hw 57 rfl)) Via.refl e0 F_se (g := (mkF m 1 #[sR o0, sR o1, sR o2, sU] [(.ref o0)])) rfl rfl (hb hby d8_1)
  refine Go.pre st1 ?_
  refine Go.pre (st' := T1.setTop (mkF m 5 #[sR o0, sR o1, sR o2, sU] [(.ref o0), (.int z1)])) (fun target kt => ?_) ?_
  · refine XS.aloadN X1.here hx rfl (hb hby d8_4) rfl rfl ?_
    exact kt
  obtain ⟨T2, X2, e2, st2⟩ := getF X1 hx hZ hown (host := "") (Or.inl (ow hw 36 rfl)) Via.refl e1 Fan (g := (mkF m 5 #[sR o0, sR o1, sR o2, sU] [(.ref o0), (.int z1)])) rfl rfl (hb hby d8_5)
  refine Go.pre st2 ?_
  obtain ⟨cl3, Ar3, -, Sz3, Nn3, -⟩ := id B_an
  have st3 := X2.arraylength hx (by rw [e2]; exact Ar3.1) (State.isArrayOf_alike hZ.alike Ar3.2.1) (g := (mkF m 8 #[sR o0, sR o1, sR o2, sU] [(.ref an), (.int z1)])) rfl rfl (hb hby d8_8)
  rw [len_of Sz3 Nn3] at st3
  refine Go.pre st3 ?_
  refine Go.pre (st' := T2.setTop (mkF m 70 #[sR o0, sR o1, sR o2, sU] [(.ref o0)])) (fun target kt => ?_) ?_
  · refine XS.icmpYes X2.here hx rfl (pc0 := 9) (pc' := 69) rfl (hb hby d8_9) rfl (feq (by decide)).2 (by decide) (by decide) ?_
    refine XS.aloadN X2.here hx rfl (hb hby d8_69) rfl rfl ?_
    exact kt
  obtain ⟨T4, X4, e4, st4⟩ := getF X2 hx hZ hown (host := "") (Or.inl (ow hw 36 rfl)) Via.refl e2 Fan (g := (mkF m 70 #[sR o0, sR o1, sR o2, sU] [(.ref o0)])) rfl rfl (hb hby d8_70)
  refine Go.pre st4 ?_
  refine Go.pre (st' := T4.setTop (mkF m 74 #[sR o0, sR o1, sR o2, sU] [(.ref o0), (.ref an)])) (fun target kt => ?_) ?_
  · refine XS.aloadN X4.here hx rfl (hb hby d8_73) rfl rfl ?_
    exact kt
  obtain ⟨T5, X5, e5, st5⟩ := getF X4 hx hZ hown (host := "") (Or.inl (ow hw 57 rfl)) Via.refl e4 F_se (g := (mkF m 74 #[sR o0, sR o1, sR o2, sU] [(.ref o0), (.ref an)])) rfl rfl (hb hby d8_74)
  refine Go.pre st5 ?_
  refine Go.pre (st' := T5.setTop (mkF m 78 #[sR o0, sR o1, sR o2, sU] [(.ref o1), (.int z1), (.ref an)])) (fun target kt => ?_) ?_
  · refine XS.aloadN X5.here hx rfl (hb hby d8_77) rfl rfl ?_
    exact kt
  obtain ⟨cl6, Ar6, q6, Sz6, Nn6, Hs6⟩ := id B_an
  have in6 : ¬ (z1 < 0 ∨ cl6.slots.size ≤ (z1).toNatClampNeg) := by rw [Sz6]; exact (by decide)
  obtain ⟨T6, h6, X6, e6, W6, st6⟩ := stR X5 hx hZ e5 Ar6 (j := z1) in6 rfl (Sto.ofV Ar6 q6 O_an (Ins.self E_o1)) (g := (mkF m 78 #[sR o0, sR o1, sR o2, sU] [(.ref o1), (.int z1), (.ref an)])) rfl rfl (hb hby d8_78)
  have sz6 : h0.size ≤ h6.size := (Keep.of_wr W6).1
  have V6 : Arf Z h6 an kan (.object cB) z16 (own_upd fan z1 (.ref o1)) := Arf.set Ar6 q6 Sz6 Nn6 Hs6 rfl in6 W6
  have N6 := Fr.snoc X6 N0 (by omega)
  refine Go.pre st6 ?_
  refine Go.pre (st' := T6.setTop (mkF m 80 #[sR o0, sR o1, sR o2, sU] [(.ref o0)])) (fun target kt => ?_) ?_
  · refine XS.aloadN X6.here hx rfl (hb hby d8_79) rfl rfl ?_
    exact kt
  have Y7 := (Fav.other W6 (Or.inl n_o0_an))
  obtain ⟨T8, X8, e8, st8⟩ := getF X6 hx hZ hown (host := "") (Or.inl (ow hw 38 rfl)) Via.refl e6 Y7 (g := (mkF m 80 #[sR o0, sR o1, sR o2, sU] [(.ref o0)])) rfl rfl (hb hby d8_80)
  refine Go.pre st8 ?_
  refine Go.pre (st' := T8.setTop (mkF m 84 #[sR o0, sR o1, sR o2, sU] [(.ref o0), (.ref av)])) (fun target kt => ?_) ?_
  · refine XS.aloadN X8.here hx rfl (hb hby d8_83) rfl rfl ?_
    exact kt
  have Y9 := (F_se.other W6 (Or.inl n_o0_an))
  obtain ⟨T10, X10, e10, st10⟩ := getF X8 hx hZ hown (host := "") (Or.inl (ow hw 57 rfl)) Via.refl e8 Y9 (g := (mkF m 84 #[sR o0, sR o1, sR o2, sU] [(.ref o0), (.ref av)])) rfl rfl (hb hby d8_84)
  refine Go.pre st10 ?_
  refine Go.pre (st' := T10.setTop (mkF m 88 #[sR o0, sR o1, sR o2, sU] [(.ref o2), (.int z1), (.ref av)])) (fun target kt => ?_) ?_
  · refine XS.aloadN X10.here hx rfl (hb hby d8_87) rfl rfl ?_
    exact kt
  have Y11 := (B_av.other W6 (Ne.symm n_an_av))
  obtain ⟨cl12, Ar12, q12, Sz12, Nn12, Hs12⟩ := id Y11
  have in12 : ¬ (z1 < 0 ∨ cl12.slots.size ≤ (z1).toNatClampNeg) := by rw [Sz12]; exact (by decide)
  have Y13 := (E_o2.wr W6)
  obtain ⟨T12, h12, X12, e12, W12, st12⟩ := stR X10 hx hZ e10 Ar12 (j := z1) in12 rfl (Sto.ofV Ar12 q12 O_av (Ins.self Y13)) (g := (mkF m 88 #[sR o0, sR o1, sR o2, sU] [(.ref o2), (.int z1), (.ref av)])) rfl rfl (hb hby d8_88)
  have sz12 : h6.size ≤ h12.size := (Keep.of_wr W12).1
  have V12 : Arf Z h12 av kav (.object cB) z16 (own_upd fav z1 (.ref o2)) := Arf.set Ar12 q12 Sz12 Nn12 Hs12 rfl in12 W12
  have N12 := Fr.snoc X12 N6 (by omega)
  refine Go.pre st12 ?_
  refine Go.pre (st' := T12.setTop (mkF m 90 #[sR o0, sR o1, sR o2, sU] [(.ref o0)])) (fun target kt => ?_) ?_
  · refine XS.aloadN X12.here hx rfl (hb hby d8_89) rfl rfl ?_
    exact kt
  have Y14 := ((Fae.other W6 (Or.inl n_o0_an)).other W12 (Or.inl n_o0_av))
  obtain ⟨T15, X15, e15, st15⟩ := getF X12 hx hZ hown (host := "") (Or.inl (ow hw 41 rfl)) Via.refl e12 Y14 (g := (mkF m 90 #[sR o0, sR o1, sR o2, sU] [(.ref o0)])) rfl rfl (hb hby d8_90)
  refine Go.pre st15 ?_
  refine Go.pre (st' := T15.setTop (mkF m 94 #[sR o0, sR o1, sR o2, sU] [(.ref o0), (.ref ae)])) (fun target kt => ?_) ?_
  · refine XS.aloadN X15.here hx rfl (hb hby d8_93) rfl rfl ?_
    exact kt
  have Y16 := (Y9.other W12 (Or.inl n_o0_av))
  obtain ⟨T17, X17, e17, st17⟩ := getF X15 hx hZ hown (host := "") (Or.inl (ow hw 57 rfl)) Via.refl e15 Y16 (g := (mkF m 94 #[sR o0, sR o1, sR o2, sU] [(.ref o0), (.ref ae)])) rfl rfl (hb hby d8_94)
  refine Go.pre st17 ?_
  refine Go.pre (st' := T17.setTop (mkF m 98 #[sR o0, sR o1, sR o2, sU] [(.ref o0), (.int z1), (.ref ae)])) (fun target kt => ?_) ?_
  · refine XS.aloadN X17.here hx rfl (hb hby d8_97) rfl rfl ?_
    exact kt
  have Y18 := ((F_th.other W6 (Or.inl n_o0_an)).other W12 (Or.inl n_o0_av))
  obtain ⟨T19, X19, e19, st19⟩ := getF X17 hx hZ hown (host := "") (Or.inl (ow hw 59 rfl)) Via.refl e17 Y18 (g := (mkF m 98 #[sR o0, sR o1, sR o2, sU] [(.ref o0), (.int z1), (.ref ae)])) rfl rfl (hb hby d8_98)
  refine Go.pre st19 ?_
  have Y20 := ((B_ae.other W6 (Ne.symm n_an_ae)).other W12 (Ne.symm n_av_ae))
  obtain ⟨cl21, Ar21, q21, Sz21, Nn21, Hs21⟩ := id Y20
  have in21 : ¬ (z1 < 0 ∨ cl21.slots.size ≤ (z1).toNatClampNeg) := by rw [Sz21]; exact (by decide)
  obtain ⟨T21, h21, X21, e21, W21, st21⟩ := stI X19 hx hZ e19 Ar21 (j := z1) in21 (g := (mkF m 101 #[sR o0, sR o1, sR o2, sU] [(.int tl), (.int z1), (.ref ae)])) rfl rfl (hb hby d8_101)
  have sz21 : h12.size ≤ h21.size := (Keep.of_wr W21).1
  have V21 : Arf Z h21 ae kae .int z16 (own_upd fae z1 (.int tl)) := Arf.set Ar21 q21 Sz21 Nn21 Hs21 rfl in21 W21
  have N21 := Fr.snoc X21 N12 (by omega)
  refine Go.pre st21 ?_
  refine Go.pre (st' := T21.setTop (mkF m 104 #[sR o0, sR o1, sR o2, sU] [(.ref o0), (.ref o0)])) (fun target kt => ?_) ?_
  · refine XS.aloadN X21.here hx rfl (hb hby d8_102) rfl rfl ?_
    refine XS.dup X21.here hx rfl (hb hby d8_103) rfl rfl ?_
    exact kt
  have Y22 := (Y16.other W21 (Or.inl n_o0_ae))
  obtain ⟨T23, X23, e23, st23⟩ := getF X21 hx hZ hown (host := "") (Or.inl (ow hw 57 rfl)) Via.refl e21 Y22 (g := (mkF m 104 #[sR o0, sR o1, sR o2, sU] [(.ref o0), (.ref o0)])) rfl rfl (hb hby d8_104)
  refine Go.pre st23 ?_
  refine Go.pre (st' := T23.setTop (mkF m 109 #[sR o0, sR o1, sR o2, sU] [(.int z2), (.ref o0)])) (fun target kt => ?_) ?_
  · refine XS.iconst X23.here hx rfl (hb hby d8_107) ?_
    refine XS.iadd X23.here hx rfl (hb hby d8_108) rfl ?_
    exact kt
  have Y24 := (((E_o0.wr W6).wr W12).wr W21)
  obtain ⟨T25, h25, X25, e25, W25, st25⟩ := putF X23 hx hZ hown (host := "") (Or.inl (ow hw 57 rfl)) Via.refl e23 Y22 Y24 (Or.inl (ow hw 58 rfl)) (ow hw 28 rfl) (ty := .int) (by decide) rfl rfl (g := (mkF m 109 #[sR o0, sR o1, sR o2, sU] [(.int z2), (.ref o0)])) rfl rfl (hb hby d8_109)
  have sz25 : h21.size ≤ h25.size := (Keep.of_wr W25).1
  have Y26 : Fld Z h25 o0 cA "size" "I" (.int z2) := Y22.same W25
  have N25 := Fr.snoc X25 N21 (by omega)
  refine Go.pre st25 ?_
  refine Go.pre (st' := T25.setTop (mkF m 113 #[sR o0, sR o1, sR o2, sU] [(.ref o0)])) (fun target kt => ?_) ?_
  · refine XS.aloadN X25.here hx rfl (hb hby d8_112) rfl rfl ?_
    exact kt
  have Y27 := ((((F_ix.other W6 (Or.inl n_o0_an)).other W12 (Or.inl n_o0_av)).other W21 (Or.inl n_o0_ae)).other W25 (Or.inr (slot_ne (Or.inl (ow hw 62 rfl)) (Or.inl (ow hw 58 rfl)) (by decide) (t := (.object "java/util/Map")) (t' := .int) (by decide) (by decide))))
  obtain ⟨T28, X28, e28, st28⟩ := getF X25 hx hZ hown (host := "") (Or.inl (ow hw 61 rfl)) Via.refl e25 Y27 (g := (mkF m 113 #[sR o0, sR o1, sR o2, sU] [(.ref o0)])) rfl rfl (hb hby d8_113)
  refine Go.pre st28 ?_
  refine Go.pre (st' := T28.setTop (mkF m 120 #[sR o0, sR o1, sR o2, sU] [(.ref o0)])) (fun target kt => ?_) ?_
  · refine XS.ifnonnullNo X28.here hx rfl (hb hby d8_116) rfl ?_
    refine XS.aloadN X28.here hx rfl (hb hby d8_119) rfl rfl ?_
    exact kt
  obtain ⟨T29, X29, e29, st29⟩ := getF X28 hx hZ hown (host := "") (Or.inl (ow hw 57 rfl)) Via.refl e28 Y26 (g := (mkF m 120 #[sR o0, sR o1, sR o2, sU] [(.ref o0)])) rfl rfl (hb hby d8_120)
  refine Go.pre st29 ?_
  refine Go.pre (st' := T29.setTop (mkF m 179 #[sR o0, sR o1, sR o2, sU] [(.ref o0)])) (fun target kt => ?_) ?_
  · refine XS.bipush X29.here hx rfl (hb hby d8_123) ?_
    refine XS.icmpYes X29.here hx rfl (pc0 := 125) (pc' := 178) rfl (hb hby d8_125) rfl (tlt (by decide)).1 (by decide) (by decide) ?_
    refine XS.aloadN X29.here hx rfl (hb hby d8_178) rfl rfl ?_
    exact kt
  obtain ⟨T30, X30, e30, st30⟩ := getF X29 hx hZ hown (host := "") (Or.inl (ow hw 61 rfl)) Via.refl e29 Y27 (g := (mkF m 179 #[sR o0, sR o1, sR o2, sU] [(.ref o0)])) rfl rfl (hb hby d8_179)
  refine Go.pre st30 ?_
  refine Go.pre (st' := T30.setTop (mkF m 205 #[sR o0, sR o1, sR o2, sU] [])) (fun target kt => ?_) ?_
  · refine XS.ifnullYes X30.here hx rfl (pc0 := 182) (pc' := 205) rfl (hb hby d8_182) rfl (by decide) (by decide) ?_
    exact kt
  have Y31 := (((V6.other W12 n_an_av).other W21 n_an_ae).other W25 (Ne.symm n_o0_an))
  have Y32 := ((V12.other W21 n_av_ae).other W25 (Ne.symm n_o0_av))
  have Y33 := (V21.other W25 (Ne.symm n_o0_ae))
  have Y34 := ((((F_sd.other W6 (Or.inl n_o0_an)).other W12 (Or.inl n_o0_av)).other W21 (Or.inl n_o0_ae)).other W25 (Or.inr (slot_ne (Or.inl (ow hw 64 rfl)) (Or.inl (ow hw 58 rfl)) (by decide) (t := .int) (t' := .int) (by decide) (by decide))))
  have Y35 := ((Y18.other W21 (Or.inl n_o0_ae)).other W25 (Or.inr (slot_ne (Or.inl (ow hw 60 rfl)) (Or.inl (ow hw 58 rfl)) (by decide) (t := .int) (t' := .int) (by decide) (by decide))))
  have Y36 := ((((Fan.other W6 (Or.inl n_o0_an)).other W12 (Or.inl n_o0_av)).other W21 (Or.inl n_o0_ae)).other W25 (Or.inr (slot_ne (Or.inl (ow hw 37 rfl)) (Or.inl (ow hw 58 rfl)) (by decide) (t := (.array (.object cB))) (t' := .int) (by decide) (by decide))))
  have Y37 := (((Y7.other W12 (Or.inl n_o0_av)).other W21 (Or.inl n_o0_ae)).other W25 (Or.inr (slot_ne (Or.inl (ow hw 39 rfl)) (Or.inl (ow hw 58 rfl)) (by decide) (t := (.array (.object cB))) (t' := .int) (by decide) (by decide))))
  have Y38 := ((Y14.other W21 (Or.inl n_o0_ae)).other W25 (Or.inr (slot_ne (Or.inl (ow hw 42 rfl)) (Or.inl (ow hw 58 rfl)) (by decide) (t := (.array .int)) (t' := .int) (by decide) (by decide))))
  have Y39 := ((((Ftx.other W6 (Or.inl n_o0_an)).other W12 (Or.inl n_o0_av)).other W21 (Or.inl n_o0_ae)).other W25 (Or.inr (slot_ne (Or.inl (ow hw 44 rfl)) (Or.inl (ow hw 58 rfl)) (by decide) (t := (.array .char)) (t' := .int) (by decide) (by decide))))
  exact Go.ret0 X30 hx hlk hrt (hb hby d8_205) (by decide) (by decide) (by rw [e30]; exact ⟨rfl, N25, (((((Keep.refl h0 [an, av, ae, o0]).wr W6 (Or.inl (List.mem_of_getElem? (i := 0) rfl))).wr W12 (Or.inl (List.mem_of_getElem? (i := 1) rfl))).wr W21 (Or.inl (List.mem_of_getElem? (i := 2) rfl))).wr W25 (Or.inl (List.mem_of_getElem? (i := 3) rfl))), trivial, Y31, Y32, Y33, Y26, Y34, Y35, Y27, Y36, Y37, Y38, Y39⟩)
/-! Attributes.addDefault (9) -/
theorem d9_0 : decode q21 0 = .ok (.aload_n 0, 1) := by decide +kernel
theorem d9_1 : decode q21 1 = .ok (.aload_n 1, 1) := by decide +kernel
theorem d9_2 : decode q21 2 = .ok (.aload_n 2, 1) := by decide +kernel
theorem d9_3 : decode q21 3 = .ok (.invokevirtual 67, 3) := by decide +kernel
theorem d9_6 : decode q21 6 = .ok (.return_, 1) := by decide +kernel
theorem pn_9 : plainName "com/example/satzung/satzung/parse/Attributes" = true := by first | (simp [plainName, overriddenIn]; done) | decide +kernel
theorem pd9_0 : parseMethodDescriptor "(Ljava/lang/String;Ljava/lang/String;)V" = some ⟨[(.object "java/lang/String"), (.object "java/lang/String")], none⟩ := by decide +kernel
theorem ef_9 (m : MethodId) (o0 : Addr) (o1 : Addr) (o2 : Addr) : entryFrame m #[(.ref o0), (.ref o1), (.ref o2)] 3 = (mkF m 0 #[.val (.ref o0), .val (.ref o1), .val (.ref o2)] []) := by first | (simp [entryFrame, mkF, argsToLocals, Value.category]; done) | rfl
def Q9 (Z : State) (o0 : Addr) (o1 : Addr) (o2 : Addr) (an : Addr) (kan : ClassId) (fan : Int32 → Value) (av : Addr) (kav : ClassId) (fav : Int32 → Value) (ae : Addr) (kae : ClassId) (fae : Int32 → Value) (tx : Addr) (us : Value) (tl : Int32) (h0 : Heap) (n0 : Nat) (v : Option Value) (h : Heap) (L : List Loc) : Prop := v = none ∧ Fr n0 L ∧ Keep h0 h [an, av, ae, o0] ∧ True ∧ Arf Z h an kan (.object cB) z16 (own_upd fan z1 (.ref o1)) ∧ Arf Z h av kav (.object cB) z16 (own_upd fav z1 (.ref o2)) ∧ Arf Z h ae kae .int z16 (own_upd fae z1 (.int tl)) ∧ Fld Z h o0 cA "size" "I" (.int z2) ∧ Fld Z h o0 cA "specified" "I" us ∧ Fld Z h o0 cA "textLength" "I" (.int tl) ∧ Fld Z h o0 cA "index" "Ljava/util/Map;" .null ∧ Fld Z h o0 cA "names" cD (.ref an) ∧ Fld Z h o0 cA "values" cD (.ref av) ∧ Fld Z h o0 cA "ends" "[I" (.ref ae) ∧ Fld Z h o0 cA "text" "[C" (.ref tx)
theorem rm9 (l : Launch) (Z : State) (a0 : Array Value) (hw : ∀ d ∈ tables_1, d.before a0 Z = true) (ws : List Jvm.Cond) (o0 : Addr) (o1 : Addr) (o2 : Addr) (an : Addr) (kan : ClassId) (fan : Int32 → Value) (av : Addr) (kav : ClassId) (fav : Int32 → Value) (ae : Addr) (kae : ClassId) (fae : Int32 → Value) (tx : Addr) (us : Value) (tl : Int32) (h0 : Heap) (n0 : Nat) (Z0 : n0 ≤ h0.size) (E_o0 : Exa Z h0 o0 cA) (F_se : Fld Z h0 o0 cA "size" "I" (.int z1)) (F_sd : Fld Z h0 o0 cA "specified" "I" us) (F_th : Fld Z h0 o0 cA "textLength" "I" (.int tl)) (F_ix : Fld Z h0 o0 cA "index" "Ljava/util/Map;" .null) (Fan : Fld Z h0 o0 cA "names" cD (.ref an)) (B_an : Arf Z h0 an kan (.object cB) z16 fan) (Fav : Fld Z h0 o0 cA "values" cD (.ref av)) (B_av : Arf Z h0 av kav (.object cB) z16 fav) (Fae : Fld Z h0 o0 cA "ends" "[I" (.ref ae)) (B_ae : Arf Z h0 ae kae .int z16 fae) (Ftx : Fld Z h0 o0 cA "text" "[C" (.ref tx)) (O_an : Ovr Z kan cB) (O_av : Ovr Z kav cB) (n_o0_an : o0 ≠ an) (n_o0_av : o0 ≠ av) (n_o0_ae : o0 ≠ ae) (n_an_av : an ≠ av) (n_an_ae : an ≠ ae) (n_av_ae : av ≠ ae) (E_o1 : Exa Z h0 o1 cB) (E_o2 : Exa Z h0 o2 cB) (g_an : n0 ≤ an) (g_av : n0 ≤ av) (g_ae : n0 ≤ ae) (g_o0 : n0 ≤ o0) :
    MetFree l (⟨cA, "addDefault", cC⟩ : MethodName) (head1 (Jvm.Cond.code (⟨cA, "addDefault", cC⟩ : MethodName) prog_64_method_10_code 3 none :: ws) ({ frames := 1, cells := 0, slots := 0, locals := 15 } : Room)) (fun a U => a = #[(.ref o0), (.ref o1), (.ref o2)] ∧ Z.Warmed39 U.vm ∧ U.heap = h0) (fun _ _ _ _ _ => True) (fun _ U o U' => ∃ v L, o = .returned v ∧ Q9 Z o0 o1 o2 an kan fan av kav fav ae kae fae tx us tl h0 n0 v U'.heap L ∧ FrameEnd U o U' L ({ frames := 1, cells := 0, slots := 0, locals := 15 } : Room).cells ({ frames := 1, cells := 0, slots := 0, locals := 15 } : Room).slots) := by
  refine MetFree.of_bodySF (plainFor_of_name pn_9) hisR ?_
  intro p e s m args below meth c s₁ Bd hml0 hP hK
  obtain ⟨rfl, hZ, hh⟩ := hP
  have hx := Bd.exec
  have hby := Bd.bytes
  have hml : c.maxLocals = 3 := hml0
  have hown : s.vm.findClass cA = some m.cls := findClass_of_methodNamed Bd.named
  have hnm := (name_of_methodNamed Bd.named Bd.method).1
  have hrt := Bd.returns
  have hlk := Bd.notSynchronized
  have X0 : Stand p l e ({ frames := 1, cells := 0, slots := 0, locals := 15 } : Room) s m #[(.ref o0), (.ref o1), (.ref o2)] below meth c s₁ [] 0 0 := Stand.of_body Bd
  have e0 : s₁.heap = h0 := by rw [← hh, Bd.state]; rfl
  have N0 := Fr.nil n0
  have lt_E_o0 : LT.lt (α := Nat) o0 h0.size := E_o0.lt
  have lt_B_an : LT.lt (α := Nat) an h0.size := B_an.lt
  have lt_B_av : LT.lt (α := Nat) av h0.size := B_av.lt
  have lt_B_ae : LT.lt (α := Nat) ae h0.size := B_ae.lt
  have lt_E_o1 : LT.lt (α := Nat) o1 h0.size := E_o1.lt
  have lt_E_o2 : LT.lt (α := Nat) o2 h0.size := E_o2.lt
  show Go p e below s 0 0 (Q9 Z o0 o1 o2 an kan fan av kav fav ae kae fae tx us tl h0 n0) (s₁.setTop (entryFrame m #[(.ref o0), (.ref o1), (.ref o2)] 3))
  rw [ef_9 m o0 o1 o2]
  refine Go.pre (st' := s₁.setTop (mkF m 3 #[sR o0, sR o1, sR o2] [(.ref o2), (.ref o1), (.ref o0)])) (fun target kt => ?_) ?_
  · refine XS.aloadN X0.here hx rfl (hb hby d9_0) rfl rfl ?_
    refine XS.aloadN X0.here hx rfl (hb hby d9_1) rfl rfl ?_
    refine XS.aloadN X0.here hx rfl (hb hby d9_2) rfl rfl ?_
    exact kt
  obtain ⟨cq1, q1, q1'⟩ := E_o0.cell
  obtain ⟨_, _, ⟨T1, L1, k1, n1⟩, -, X1, ⟨Lc1, hQ1, l1, y1, z1⟩, st1⟩ := X0.privateBack hx (y := (⟨cA, "append", cC⟩ : MethodName)) hown (mvT hZ (ow hw 53 rfl)) (mvT hZ (ow hw 54 rfl)) (mvT hZ (selects_private (y := (⟨cA, "append", cC⟩ : MethodName)) (ow hw 28 rfl) (ow hw 55 rfl) (ow hw 54 rfl))) (Cond.privateMethod_at (mvP hZ (ow hw 55 rfl) (args := #[]))) (mvT hZ (ow hw 56 rfl)) (by decide) (backOf (W := 0) (rm8_1R_0 l Z a0 hw [] o0 o1 o2 an kan fan av kav fav ae kae fae tx us tl h0 n0 (by omega) E_o0 F_se F_sd F_th F_ix Fan B_an Fav B_av Fae B_ae Ftx O_an O_av n_o0_an n_o0_av n_o0_ae n_an_av n_an_ae n_av_ae E_o1 E_o2 (by omega) (by omega) (by omega) (by omega)) hZ (ow hw 56 rfl) (ow hw 29 rfl) (by decide) (by decide)) (g := (mkF m 3 #[sR o0, sR o1, sR o2] [(.ref o2), (.ref o1), (.ref o0)])) rfl (by rw [hml]; rfl) (Steps.refl _) (a := o0) (by rw [e0]; exact q1) q1' (argsL := [(.ref o1), (.ref o2)]) (rest := []) (lenOf pd9_0 rfl) rfl (le0 rfl) (hb hby d9_3) (fun vm₁ hvm => ⟨rfl, e0, (by decide : 0 + 0 ≤ _), (by decide : 0 + 0 ≤ _)⟩)
  dsimp only [Pt.U, Pt.locs, Pt.cells, Pt.slots] at X1 l1 y1 z1 st1 hQ1
  subst l1 y1 z1
  obtain ⟨rfl, N1q, K1, KF1, Y1_0, Y1_1, Y1_2, Y1_3, Y1_4, Y1_5, Y1_6, Y1_7, Y1_8, Y1_9, Y1_10⟩ := hQ1
  have sz1 : h0.size ≤ T1.heap.size := K1.1
  have N1 := Fr.app N0 N1q
  refine Go.trans st1 ?_
  exact Go.ret0 X1 hx hlk hrt (hb hby d9_6) (by decide) (by decide) (by exact ⟨rfl, N1, ((Keep.refl h0 [an, av, ae, o0]).trans K1 (allS (Or.inl (List.mem_of_getElem? (i := 0) rfl)) (allS (Or.inl (List.mem_of_getElem? (i := 1) rfl)) (allS (Or.inl (List.mem_of_getElem? (i := 2) rfl)) (allS (Or.inl (List.mem_of_getElem? (i := 3) rfl)) all0))))), trivial, Y1_0, Y1_1, Y1_2, Y1_3, Y1_4, Y1_5, Y1_6, Y1_7, Y1_8, Y1_9, Y1_10⟩)
/-! Attributes.clear (10_1024) -/
theorem d10_0 : decode q22 0 = .ok (.aload_n 0, 1) := by decide +kernel
theorem d10_1 : decode q22 1 = .ok (.getfield 11, 3) := by decide +kernel
theorem d10_4 : decode q22 4 = .ok (.arraylength, 1) := by decide +kernel
theorem d10_5 : decode q22 5 = .ok (.bipush 16, 2) := by decide +kernel
theorem d10_7 : decode q22 7 = .ok (.if_icmp .le 29, 3) := by decide +kernel
theorem d10_36 : decode q22 36 = .ok (.aload_n 0, 1) := by decide +kernel
theorem d10_37 : decode q22 37 = .ok (.getfield 22, 3) := by decide +kernel
theorem d10_40 : decode q22 40 = .ok (.arraylength, 1) := by decide +kernel
theorem d10_41 : decode q22 41 = .ok (.sipush 1024, 3) := by decide +kernel
theorem d10_44 : decode q22 44 = .ok (.if_icmp .le 12, 3) := by decide +kernel
theorem d10_56 : decode q22 56 = .ok (.aload_n 0, 1) := by decide +kernel
theorem d10_57 : decode q22 57 = .ok (.iconst 0, 1) := by decide +kernel
theorem d10_58 : decode q22 58 = .ok (.putfield 71, 3) := by decide +kernel
theorem d10_61 : decode q22 61 = .ok (.aload_n 0, 1) := by decide +kernel
theorem d10_62 : decode q22 62 = .ok (.iconst 0, 1) := by decide +kernel
theorem d10_63 : decode q22 63 = .ok (.putfield 26, 3) := by decide +kernel
theorem d10_66 : decode q22 66 = .ok (.aload_n 0, 1) := by decide +kernel
theorem d10_67 : decode q22 67 = .ok (.iconst 0, 1) := by decide +kernel
theorem d10_68 : decode q22 68 = .ok (.putfield 30, 3) := by decide +kernel
theorem d10_71 : decode q22 71 = .ok (.aload_n 0, 1) := by decide +kernel
theorem d10_72 : decode q22 72 = .ok (.aconst_null, 1) := by decide +kernel
theorem d10_73 : decode q22 73 = .ok (.putfield 40, 3) := by decide +kernel
theorem d10_76 : decode q22 76 = .ok (.return_, 1) := by decide +kernel
theorem pn_10 : plainName "com/example/satzung/satzung/parse/Attributes" = true := by first | (simp [plainName, overriddenIn]; done) | decide +kernel
theorem ef_10_1024 (m : MethodId) (o0 : Addr) : entryFrame m #[(.ref o0)] 1 = (mkF m 0 #[.val (.ref o0)] []) := by first | (simp [entryFrame, mkF, argsToLocals, Value.category]; done) | rfl
def Q10_1024 (Z : State) (o0 : Addr) (an : Addr) (kan : ClassId) (fan : Int32 → Value) (av : Addr) (kav : ClassId) (fav : Int32 → Value) (ae : Addr) (kae : ClassId) (fae : Int32 → Value) (tx : Addr) (ktx : ClassId) (ftx : Int32 → Value) (uz : Value) (us : Value) (ut : Value) (h0 : Heap) (n0 : Nat) (v : Option Value) (h : Heap) (L : List Loc) : Prop := v = none ∧ Fr n0 L ∧ Keep h0 h [o0] ∧ True ∧ Fld Z h o0 cA "size" "I" (.int z0) ∧ Fld Z h o0 cA "specified" "I" (.int z0) ∧ Fld Z h o0 cA "textLength" "I" (.int z0) ∧ Fld Z h o0 cA "index" "Ljava/util/Map;" .null ∧ Fld Z h o0 cA "names" cD (.ref an) ∧ Fld Z h o0 cA "values" cD (.ref av) ∧ Fld Z h o0 cA "ends" "[I" (.ref ae) ∧ Fld Z h o0 cA "text" "[C" (.ref tx)
theorem rm10_1024 (l : Launch) (Z : State) (a0 : Array Value) (hw : ∀ d ∈ tables_1, d.before a0 Z = true) (ws : List Jvm.Cond) (o0 : Addr) (an : Addr) (kan : ClassId) (fan : Int32 → Value) (av : Addr) (kav : ClassId) (fav : Int32 → Value) (ae : Addr) (kae : ClassId) (fae : Int32 → Value) (tx : Addr) (ktx : ClassId) (ftx : Int32 → Value) (uz : Value) (us : Value) (ut : Value) (h0 : Heap) (n0 : Nat) (Z0 : n0 ≤ h0.size) (E_o0 : Exa Z h0 o0 cA) (F_se : Fld Z h0 o0 cA "size" "I" uz) (F_sd : Fld Z h0 o0 cA "specified" "I" us) (F_th : Fld Z h0 o0 cA "textLength" "I" ut) (F_ix : Fld Z h0 o0 cA "index" "Ljava/util/Map;" .null) (Fan : Fld Z h0 o0 cA "names" cD (.ref an)) (B_an : Arf Z h0 an kan (.object cB) z16 fan) (Fav : Fld Z h0 o0 cA "values" cD (.ref av)) (B_av : Arf Z h0 av kav (.object cB) z16 fav) (Fae : Fld Z h0 o0 cA "ends" "[I" (.ref ae)) (B_ae : Arf Z h0 ae kae .int z16 fae) (Ftx : Fld Z h0 o0 cA "text" "[C" (.ref tx)) (B_tx : Arf Z h0 tx ktx .char z1024 ftx) (O_an : Ovr Z kan cB) (O_av : Ovr Z kav cB) (n_o0_an : o0 ≠ an) (n_o0_av : o0 ≠ av) (n_o0_ae : o0 ≠ ae) (n_o0_tx : o0 ≠ tx) (n_an_av : an ≠ av) (n_an_ae : an ≠ ae) (n_av_ae : av ≠ ae) (n_an_tx : an ≠ tx) (n_av_tx : av ≠ tx) (n_ae_tx : ae ≠ tx) (g_o0 : n0 ≤ o0) :
    MetFree l (⟨cA, "clear", "()V"⟩ : MethodName) (head1 (Jvm.Cond.code (⟨cA, "clear", "()V"⟩ : MethodName) prog_64_method_11_code 1 none :: ws) ({ frames := 0, cells := 0, slots := 0, locals := 0 } : Room)) (fun a U => a = #[(.ref o0)] ∧ Z.Warmed39 U.vm ∧ U.heap = h0) (fun _ _ _ _ _ => True) (fun _ U o U' => ∃ v L, o = .returned v ∧ Q10_1024 Z o0 an kan fan av kav fav ae kae fae tx ktx ftx uz us ut h0 n0 v U'.heap L ∧ FrameEnd U o U' L ({ frames := 0, cells := 0, slots := 0, locals := 0 } : Room).cells ({ frames := 0, cells := 0, slots := 0, locals := 0 } : Room).slots) := by
  refine MetFree.of_bodySF (plainFor_of_name pn_10) hisR ?_
  intro p e s m args below meth c s₁ Bd hml0 hP hK
  obtain ⟨rfl, hZ, hh⟩ := hP
  have hx := Bd.exec
  have hby := Bd.bytes
  have hml : c.maxLocals = 1 := hml0
  have hown : s.vm.findClass cA = some m.cls := findClass_of_methodNamed Bd.named
  have hnm := (name_of_methodNamed Bd.named Bd.method).1
  have hrt := Bd.returns
  have hlk := Bd.notSynchronized
  have X0 : Stand p l e ({ frames := 0, cells := 0, slots := 0, locals := 0 } : Room) s m #[(.ref o0)] below meth c s₁ [] 0 0 := Stand.of_body Bd
  have e0 : s₁.heap = h0 := by rw [← hh, Bd.state]; rfl
  have N0 := Fr.nil n0
  have lt_E_o0 : LT.lt (α := Nat) o0 h0.size := E_o0.lt
  have lt_B_an : LT.lt (α := Nat) an h0.size := B_an.lt
  have lt_B_av : LT.lt (α := Nat) av h0.size := B_av.lt
  have lt_B_ae : LT.lt (α := Nat) ae h0.size := B_ae.lt
  have lt_B_tx : LT.lt (α := Nat) tx h0.size := B_tx.lt
  show Go p e below s 0 0 (Q10_1024 Z o0 an kan fan av kav fav ae kae fae tx ktx ftx uz us ut h0 n0) (s₁.setTop (entryFrame m #[(.ref o0)] 1))
  rw [ef_10_1024 m o0]
  refine Go.pre (st' := s₁.setTop (mkF m 1 #[sR o0] [(.ref o0)])) (fun target kt => ?_) ?_
  · refine XS.aloadN X0.here hx rfl (hb hby d10_0) rfl rfl ?_
    exact kt
  obtain ⟨T1, X1, e1, st1⟩ := getF X0 hx hZ hown (host := "") (Or.inl (ow hw 36 rfl)) Via.refl e0 Fan (g := (mkF m 1 #[sR o0] [(.ref o0)])) rfl rfl (hb hby d10_1)
  refine Go.pre st1 ?_
  obtain ⟨cl2, Ar2, -, Sz2, Nn2, -⟩ := id B_an
  have st2 := X1.arraylength hx (by rw [e1]; exact Ar2.1) (State.isArrayOf_alike hZ.alike Ar2.2.1) (g := (mkF m 4 #[sR o0] [(.ref an)])) rfl rfl (hb hby d10_4)
  rw [len_of Sz2 Nn2] at st2
  refine Go.pre st2 ?_
  refine Go.pre (st' := T1.setTop (mkF m 37 #[sR o0] [(.ref o0)])) (fun target kt => ?_) ?_
  · refine XS.bipush X1.here hx rfl (hb hby d10_5) ?_
    refine XS.icmpYes X1.here hx rfl (pc0 := 7) (pc' := 36) rfl (hb hby d10_7) rfl (flt (by decide)).2.2.2 (by decide) (by decide) ?_
    refine XS.aloadN X1.here hx rfl (hb hby d10_36) rfl rfl ?_
    exact kt
  obtain ⟨T3, X3, e3, st3⟩ := getF X1 hx hZ hown (host := "") (Or.inl (ow hw 43 rfl)) Via.refl e1 Ftx (g := (mkF m 37 #[sR o0] [(.ref o0)])) rfl rfl (hb hby d10_37)
  refine Go.pre st3 ?_
  obtain ⟨cl4, Ar4, -, Sz4, Nn4, -⟩ := id B_tx
  have st4 := X3.arraylength hx (by rw [e3]; exact Ar4.1) (State.isArrayOf_alike hZ.alike Ar4.2.1) (g := (mkF m 40 #[sR o0] [(.ref tx)])) rfl rfl (hb hby d10_40)
  rw [len_of Sz4 Nn4] at st4
  refine Go.pre st4 ?_
  refine Go.pre (st' := T3.setTop (mkF m 58 #[sR o0] [(.int z0), (.ref o0)])) (fun target kt => ?_) ?_
  · refine XS.sipush X3.here hx rfl (hb hby d10_41) ?_
    refine XS.icmpYes X3.here hx rfl (pc0 := 44) (pc' := 56) rfl (hb hby d10_44) rfl (flt (by decide)).2.2.2 (by decide) (by decide) ?_
    refine XS.aloadN X3.here hx rfl (hb hby d10_56) rfl rfl ?_
    refine XS.iconst X3.here hx rfl (hb hby d10_57) ?_
    exact kt
  obtain ⟨T5, h5, X5, e5, W5, st5⟩ := putF X3 hx hZ hown (host := "") (Or.inl (ow hw 59 rfl)) Via.refl e3 F_th E_o0 (Or.inl (ow hw 60 rfl)) (ow hw 28 rfl) (ty := .int) (by decide) rfl rfl (g := (mkF m 58 #[sR o0] [(.int z0), (.ref o0)])) rfl rfl (hb hby d10_58)
  have sz5 : h0.size ≤ h5.size := (Keep.of_wr W5).1
  have Y6 : Fld Z h5 o0 cA "textLength" "I" (.int z0) := F_th.same W5
  have N5 := Fr.snoc X5 N0 (by omega)
  refine Go.pre st5 ?_
  refine Go.pre (st' := T5.setTop (mkF m 63 #[sR o0] [(.int z0), (.ref o0)])) (fun target kt => ?_) ?_
  · refine XS.aloadN X5.here hx rfl (hb hby d10_61) rfl rfl ?_
    refine XS.iconst X5.here hx rfl (hb hby d10_62) ?_
    exact kt
  have Y7 := (F_se.other W5 (Or.inr (slot_ne (Or.inl (ow hw 58 rfl)) (Or.inl (ow hw 60 rfl)) (by decide) (t := .int) (t' := .int) (by decide) (by decide))))
  have Y8 := (E_o0.wr W5)
  obtain ⟨T9, h9, X9, e9, W9, st9⟩ := putF X5 hx hZ hown (host := "") (Or.inl (ow hw 57 rfl)) Via.refl e5 Y7 Y8 (Or.inl (ow hw 58 rfl)) (ow hw 28 rfl) (ty := .int) (by decide) rfl rfl (g := (mkF m 63 #[sR o0] [(.int z0), (.ref o0)])) rfl rfl (hb hby d10_63)
  have sz9 : h5.size ≤ h9.size := (Keep.of_wr W9).1
  have Y10 : Fld Z h9 o0 cA "size" "I" (.int z0) := Y7.same W9
  have N9 := Fr.snoc X9 N5 (by omega)
  refine Go.pre st9 ?_
  refine Go.pre (st' := T9.setTop (mkF m 68 #[sR o0] [(.int z0), (.ref o0)])) (fun target kt => ?_) ?_
  · refine XS.aloadN X9.here hx rfl (hb hby d10_66) rfl rfl ?_
    refine XS.iconst X9.here hx rfl (hb hby d10_67) ?_
    exact kt
  have Y11 := ((F_sd.other W5 (Or.inr (slot_ne (Or.inl (ow hw 64 rfl)) (Or.inl (ow hw 60 rfl)) (by decide) (t := .int) (t' := .int) (by decide) (by decide)))).other W9 (Or.inr (slot_ne (Or.inl (ow hw 64 rfl)) (Or.inl (ow hw 58 rfl)) (by decide) (t := .int) (t' := .int) (by decide) (by decide))))
  have Y12 := (Y8.wr W9)
  obtain ⟨T13, h13, X13, e13, W13, st13⟩ := putF X9 hx hZ hown (host := "") (Or.inl (ow hw 63 rfl)) Via.refl e9 Y11 Y12 (Or.inl (ow hw 64 rfl)) (ow hw 28 rfl) (ty := .int) (by decide) rfl rfl (g := (mkF m 68 #[sR o0] [(.int z0), (.ref o0)])) rfl rfl (hb hby d10_68)
  have sz13 : h9.size ≤ h13.size := (Keep.of_wr W13).1
  have Y14 : Fld Z h13 o0 cA "specified" "I" (.int z0) := Y11.same W13
  have N13 := Fr.snoc X13 N9 (by omega)
  refine Go.pre st13 ?_
  refine Go.pre (st' := T13.setTop (mkF m 73 #[sR o0] [.null, (.ref o0)])) (fun target kt => ?_) ?_
  · refine XS.aloadN X13.here hx rfl (hb hby d10_71) rfl rfl ?_
    refine XS.aconstNull X13.here hx rfl (hb hby d10_72) ?_
    exact kt
  have Y15 := (((F_ix.other W5 (Or.inr (slot_ne (Or.inl (ow hw 62 rfl)) (Or.inl (ow hw 60 rfl)) (by decide) (t := (.object "java/util/Map")) (t' := .int) (by decide) (by decide)))).other W9 (Or.inr (slot_ne (Or.inl (ow hw 62 rfl)) (Or.inl (ow hw 58 rfl)) (by decide) (t := (.object "java/util/Map")) (t' := .int) (by decide) (by decide)))).other W13 (Or.inr (slot_ne (Or.inl (ow hw 62 rfl)) (Or.inl (ow hw 64 rfl)) (by decide) (t := (.object "java/util/Map")) (t' := .int) (by decide) (by decide))))
  have Y16 := (Y12.wr W13)
  obtain ⟨T17, h17, X17, e17, W17, st17⟩ := putF X13 hx hZ hown (host := "") (Or.inl (ow hw 61 rfl)) Via.refl e13 Y15 Y16 (Or.inl (ow hw 62 rfl)) (ow hw 28 rfl) (ty := (.object "java/util/Map")) (by decide) rfl rfl (g := (mkF m 73 #[sR o0] [.null, (.ref o0)])) rfl rfl (hb hby d10_73)
  have sz17 : h13.size ≤ h17.size := (Keep.of_wr W17).1
  have Y18 : Fld Z h17 o0 cA "index" "Ljava/util/Map;" .null := Y15.same W17
  have N17 := Fr.snoc X17 N13 (by omega)
  refine Go.pre st17 ?_
  have Y19 := ((Y10.other W13 (Or.inr (slot_ne (Or.inl (ow hw 58 rfl)) (Or.inl (ow hw 64 rfl)) (by decide) (t := .int) (t' := .int) (by decide) (by decide)))).other W17 (Or.inr (slot_ne (Or.inl (ow hw 58 rfl)) (Or.inl (ow hw 62 rfl)) (by decide) (t := .int) (t' := (.object "java/util/Map")) (by decide) (by decide))))
  have Y20 := (Y14.other W17 (Or.inr (slot_ne (Or.inl (ow hw 64 rfl)) (Or.inl (ow hw 62 rfl)) (by decide) (t := .int) (t' := (.object "java/util/Map")) (by decide) (by decide))))
  have Y21 := (((Y6.other W9 (Or.inr (slot_ne (Or.inl (ow hw 60 rfl)) (Or.inl (ow hw 58 rfl)) (by decide) (t := .int) (t' := .int) (by decide) (by decide)))).other W13 (Or.inr (slot_ne (Or.inl (ow hw 60 rfl)) (Or.inl (ow hw 64 rfl)) (by decide) (t := .int) (t' := .int) (by decide) (by decide)))).other W17 (Or.inr (slot_ne (Or.inl (ow hw 60 rfl)) (Or.inl (ow hw 62 rfl)) (by decide) (t := .int) (t' := (.object "java/util/Map")) (by decide) (by decide))))
  have Y22 := ((((Fan.other W5 (Or.inr (slot_ne (Or.inl (ow hw 37 rfl)) (Or.inl (ow hw 60 rfl)) (by decide) (t := (.array (.object cB))) (t' := .int) (by decide) (by decide)))).other W9 (Or.inr (slot_ne (Or.inl (ow hw 37 rfl)) (Or.inl (ow hw 58 rfl)) (by decide) (t := (.array (.object cB))) (t' := .int) (by decide) (by decide)))).other W13 (Or.inr (slot_ne (Or.inl (ow hw 37 rfl)) (Or.inl (ow hw 64 rfl)) (by decide) (t := (.array (.object cB))) (t' := .int) (by decide) (by decide)))).other W17 (Or.inr (slot_ne (Or.inl (ow hw 37 rfl)) (Or.inl (ow hw 62 rfl)) (by decide) (t := (.array (.object cB))) (t' := (.object "java/util/Map")) (by decide) (by decide))))
  have Y23 := ((((Fav.other W5 (Or.inr (slot_ne (Or.inl (ow hw 39 rfl)) (Or.inl (ow hw 60 rfl)) (by decide) (t := (.array (.object cB))) (t' := .int) (by decide) (by decide)))).other W9 (Or.inr (slot_ne (Or.inl (ow hw 39 rfl)) (Or.inl (ow hw 58 rfl)) (by decide) (t := (.array (.object cB))) (t' := .int) (by decide) (by decide)))).other W13 (Or.inr (slot_ne (Or.inl (ow hw 39 rfl)) (Or.inl (ow hw 64 rfl)) (by decide) (t := (.array (.object cB))) (t' := .int) (by decide) (by decide)))).other W17 (Or.inr (slot_ne (Or.inl (ow hw 39 rfl)) (Or.inl (ow hw 62 rfl)) (by decide) (t := (.array (.object cB))) (t' := (.object "java/util/Map")) (by decide) (by decide))))
  have Y24 := ((((Fae.other W5 (Or.inr (slot_ne (Or.inl (ow hw 42 rfl)) (Or.inl (ow hw 60 rfl)) (by decide) (t := (.array .int)) (t' := .int) (by decide) (by decide)))).other W9 (Or.inr (slot_ne (Or.inl (ow hw 42 rfl)) (Or.inl (ow hw 58 rfl)) (by decide) (t := (.array .int)) (t' := .int) (by decide) (by decide)))).other W13 (Or.inr (slot_ne (Or.inl (ow hw 42 rfl)) (Or.inl (ow hw 64 rfl)) (by decide) (t := (.array .int)) (t' := .int) (by decide) (by decide)))).other W17 (Or.inr (slot_ne (Or.inl (ow hw 42 rfl)) (Or.inl (ow hw 62 rfl)) (by decide) (t := (.array .int)) (t' := (.object "java/util/Map")) (by decide) (by decide))))
  have Y25 := ((((Ftx.other W5 (Or.inr (slot_ne (Or.inl (ow hw 44 rfl)) (Or.inl (ow hw 60 rfl)) (by decide) (t := (.array .char)) (t' := .int) (by decide) (by decide)))).other W9 (Or.inr (slot_ne (Or.inl (ow hw 44 rfl)) (Or.inl (ow hw 58 rfl)) (by decide) (t := (.array .char)) (t' := .int) (by decide) (by decide)))).other W13 (Or.inr (slot_ne (Or.inl (ow hw 44 rfl)) (Or.inl (ow hw 64 rfl)) (by decide) (t := (.array .char)) (t' := .int) (by decide) (by decide)))).other W17 (Or.inr (slot_ne (Or.inl (ow hw 44 rfl)) (Or.inl (ow hw 62 rfl)) (by decide) (t := (.array .char)) (t' := (.object "java/util/Map")) (by decide) (by decide))))
  exact Go.ret0 X17 hx hlk hrt (hb hby d10_76) (by decide) (by decide) (by rw [e17]; exact ⟨rfl, N17, (((((Keep.refl h0 [o0]).wr W5 (Or.inl (List.mem_of_getElem? (i := 0) rfl))).wr W9 (Or.inl (List.mem_of_getElem? (i := 0) rfl))).wr W13 (Or.inl (List.mem_of_getElem? (i := 0) rfl))).wr W17 (Or.inl (List.mem_of_getElem? (i := 0) rfl))), trivial, Y19, Y20, Y21, Y18, Y22, Y23, Y24, Y25⟩)
/-! Attributes.clear (10_2048) -/
theorem d10_47 : decode q22 47 = .ok (.aload_n 0, 1) := by decide +kernel
theorem d10_48 : decode q22 48 = .ok (.sipush 1024, 3) := by decide +kernel
theorem d10_51 : decode q22 51 = .ok (.newarray .char, 2) := by decide +kernel
theorem d10_53 : decode q22 53 = .ok (.putfield 22, 3) := by decide +kernel
theorem ef_10_2048 (m : MethodId) (o0 : Addr) : entryFrame m #[(.ref o0)] 1 = (mkF m 0 #[.val (.ref o0)] []) := by first | (simp [entryFrame, mkF, argsToLocals, Value.category]; done) | rfl
def Q10_2048 (Z : State) (o0 : Addr) (an : Addr) (kan : ClassId) (fan : Int32 → Value) (av : Addr) (kav : ClassId) (fav : Int32 → Value) (ae : Addr) (kae : ClassId) (fae : Int32 → Value) (tx : Addr) (ktx : ClassId) (ftx : Int32 → Value) (uz : Value) (us : Value) (ut : Value) (h0 : Heap) (n0 : Nat) (v : Option Value) (h : Heap) (L : List Loc) : Prop := ∃ b5 : Addr, ∃ k5 : ClassId, v = none ∧ Fr n0 L ∧ Keep h0 h [o0] ∧ True ∧ LE.le (α := Nat) h0.size b5 ∧ LT.lt (α := Nat) b5 h.size ∧ Fld Z h o0 cA "size" "I" (.int z0) ∧ Fld Z h o0 cA "specified" "I" (.int z0) ∧ Fld Z h o0 cA "textLength" "I" (.int z0) ∧ Fld Z h o0 cA "index" "Ljava/util/Map;" .null ∧ Fld Z h o0 cA "names" cD (.ref an) ∧ Fld Z h o0 cA "values" cD (.ref av) ∧ Fld Z h o0 cA "ends" "[I" (.ref ae) ∧ Fld Z h o0 cA "text" "[C" (.ref b5) ∧ Arf Z h b5 k5 .char z1024 (fun _ => (.int z0))
theorem rm10_2048 (l : Launch) (Z : State) (a0 : Array Value) (hw : ∀ d ∈ tables_1, d.before a0 Z = true) (ws : List Jvm.Cond) (o0 : Addr) (an : Addr) (kan : ClassId) (fan : Int32 → Value) (av : Addr) (kav : ClassId) (fav : Int32 → Value) (ae : Addr) (kae : ClassId) (fae : Int32 → Value) (tx : Addr) (ktx : ClassId) (ftx : Int32 → Value) (uz : Value) (us : Value) (ut : Value) (h0 : Heap) (n0 : Nat) (Z0 : n0 ≤ h0.size) (E_o0 : Exa Z h0 o0 cA) (F_se : Fld Z h0 o0 cA "size" "I" uz) (F_sd : Fld Z h0 o0 cA "specified" "I" us) (F_th : Fld Z h0 o0 cA "textLength" "I" ut) (F_ix : Fld Z h0 o0 cA "index" "Ljava/util/Map;" .null) (Fan : Fld Z h0 o0 cA "names" cD (.ref an)) (B_an : Arf Z h0 an kan (.object cB) z16 fan) (Fav : Fld Z h0 o0 cA "values" cD (.ref av)) (B_av : Arf Z h0 av kav (.object cB) z16 fav) (Fae : Fld Z h0 o0 cA "ends" "[I" (.ref ae)) (B_ae : Arf Z h0 ae kae .int z16 fae) (Ftx : Fld Z h0 o0 cA "text" "[C" (.ref tx)) (B_tx : Arf Z h0 tx ktx .char z2048 ftx) (O_an : Ovr Z kan cB) (O_av : Ovr Z kav cB) (n_o0_an : o0 ≠ an) (n_o0_av : o0 ≠ av) (n_o0_ae : o0 ≠ ae) (n_o0_tx : o0 ≠ tx) (n_an_av : an ≠ av) (n_an_ae : an ≠ ae) (n_av_ae : av ≠ ae) (n_an_tx : an ≠ tx) (n_av_tx : av ≠ tx) (n_ae_tx : ae ≠ tx) (g_o0 : n0 ≤ o0) :
    MetFree l (⟨cA, "clear", "()V"⟩ : MethodName) (head1 (Jvm.Cond.code (⟨cA, "clear", "()V"⟩ : MethodName) prog_64_method_11_code 1 none :: ws) ({ frames := 0, cells := 1, slots := 1024, locals := 0 } : Room)) (fun a U => a = #[(.ref o0)] ∧ Z.Warmed39 U.vm ∧ U.heap = h0) (fun _ _ _ _ _ => True) (fun _ U o U' => ∃ v L, o = .returned v ∧ Q10_2048 Z o0 an kan fan av kav fav ae kae fae tx ktx ftx uz us ut h0 n0 v U'.heap L ∧ FrameEnd U o U' L ({ frames := 0, cells := 1, slots := 1024, locals := 0 } : Room).cells ({ frames := 0, cells := 1, slots := 1024, locals := 0 } : Room).slots) := by
  refine MetFree.of_bodySF (plainFor_of_name pn_10) hisR ?_
  intro p e s m args below meth c s₁ Bd hml0 hP hK
  obtain ⟨rfl, hZ, hh⟩ := hP
  have hx := Bd.exec
  have hby := Bd.bytes
  have hml : c.maxLocals = 1 := hml0
  have hown : s.vm.findClass cA = some m.cls := findClass_of_methodNamed Bd.named
  have hnm := (name_of_methodNamed Bd.named Bd.method).1
  have hrt := Bd.returns
  have hlk := Bd.notSynchronized
  have X0 : Stand p l e ({ frames := 0, cells := 1, slots := 1024, locals := 0 } : Room) s m #[(.ref o0)] below meth c s₁ [] 0 0 := Stand.of_body Bd
  have e0 : s₁.heap = h0 := by rw [← hh, Bd.state]; rfl
  have N0 := Fr.nil n0
  have lt_E_o0 : LT.lt (α := Nat) o0 h0.size := E_o0.lt
  have lt_B_an : LT.lt (α := Nat) an h0.size := B_an.lt
  have lt_B_av : LT.lt (α := Nat) av h0.size := B_av.lt
  have lt_B_ae : LT.lt (α := Nat) ae h0.size := B_ae.lt
  have lt_B_tx : LT.lt (α := Nat) tx h0.size := B_tx.lt
  show Go p e below s 1 1024 (Q10_2048 Z o0 an kan fan av kav fav ae kae fae tx ktx ftx uz us ut h0 n0) (s₁.setTop (entryFrame m #[(.ref o0)] 1))
  rw [ef_10_2048 m o0]
  refine Go.pre (st' := s₁.setTop (mkF m 1 #[sR o0] [(.ref o0)])) (fun target kt => ?_) ?_
  · refine XS.aloadN X0.here hx rfl (hb hby d10_0) rfl rfl ?_
    exact kt
  obtain ⟨T1, X1, e1, st1⟩ := getF X0 hx hZ hown (host := "") (Or.inl (ow hw 36 rfl)) Via.refl e0 Fan (g := (mkF m 1 #[sR o0] [(.ref o0)])) rfl rfl (hb hby d10_1)
  refine Go.pre st1 ?_
  obtain ⟨cl2, Ar2, -, Sz2, Nn2, -⟩ := id B_an
  have st2 := X1.arraylength hx (by rw [e1]; exact Ar2.1) (State.isArrayOf_alike hZ.alike Ar2.2.1) (g := (mkF m 4 #[sR o0] [(.ref an)])) rfl rfl (hb hby d10_4)
  rw [len_of Sz2 Nn2] at st2
  refine Go.pre st2 ?_
  refine Go.pre (st' := T1.setTop (mkF m 37 #[sR o0] [(.ref o0)])) (fun target kt => ?_) ?_
  · refine XS.bipush X1.here hx rfl (hb hby d10_5) ?_
    refine XS.icmpYes X1.here hx rfl (pc0 := 7) (pc' := 36) rfl (hb hby d10_7) rfl (flt (by decide)).2.2.2 (by decide) (by decide) ?_
    refine XS.aloadN X1.here hx rfl (hb hby d10_36) rfl rfl ?_
    exact kt
  obtain ⟨T3, X3, e3, st3⟩ := getF X1 hx hZ hown (host := "") (Or.inl (ow hw 43 rfl)) Via.refl e1 Ftx (g := (mkF m 37 #[sR o0] [(.ref o0)])) rfl rfl (hb hby d10_37)
  refine Go.pre st3 ?_
  obtain ⟨cl4, Ar4, -, Sz4, Nn4, -⟩ := id B_tx
  have st4 := X3.arraylength hx (by rw [e3]; exact Ar4.1) (State.isArrayOf_alike hZ.alike Ar4.2.1) (g := (mkF m 40 #[sR o0] [(.ref tx)])) rfl rfl (hb hby d10_40)
  rw [len_of Sz4 Nn4] at st4
  refine Go.pre st4 ?_
  refine Go.pre (st' := T3.setTop (mkF m 51 #[sR o0] [(.int z1024), (.ref o0)])) (fun target kt => ?_) ?_
  · refine XS.sipush X3.here hx rfl (hb hby d10_41) ?_
    refine XS.icmpNo X3.here hx rfl (hb hby d10_44) rfl (tlt (by decide)).2.2.2 ?_
    refine XS.aloadN X3.here hx rfl (hb hby d10_47) rfl rfl ?_
    refine XS.sipush X3.here hx rfl (hb hby d10_48) ?_
    exact kt
  obtain ⟨T5, h5, k5, X5, e5, E5, A5, st5⟩ := newP X3 hx hZ (ow hw 26 rfl) e3 (g := (mkF m 51 #[sR o0] [(.int z1024), (.ref o0)])) rfl (hb hby d10_51) rfl (by decide) (cap := 1024) (by decide) (by decide) (by decide) (by decide)
  obtain ⟨b5, g5⟩ : ∃ z, z = h0.size := ⟨_, rfl⟩
  rw [← g5] at A5 st5
  have sz5 : h0.size ≤ h5.size := E5.1
  have V5 : Arv Z h5 b5 k5 .char z1024 [] (.int z0) := Arv.new A5 (by decide)
  have lt5 : b5 < h5.size := V5.lt
  have V5f : Arf Z h5 b5 k5 .char z1024 (fun _ => (.int z0)) := Arf.of_arv V5
  refine Go.pre st5 ?_
  have Y6 := (Ftx.ext E5)
  have Y7 := (E_o0.ext E5)
  obtain ⟨T8, h8, X8, e8, W8, st8⟩ := putF X5 hx hZ hown (host := "") (Or.inl (ow hw 43 rfl)) Via.refl e5 Y6 Y7 (Or.inl (ow hw 44 rfl)) (ow hw 28 rfl) (ty := (.array .char)) (by decide) rfl rfl (g := (mkF m 53 #[sR o0] [(.ref b5), (.ref o0)])) rfl rfl (hb hby d10_53)
  have sz8 : h5.size ≤ h8.size := (Keep.of_wr W8).1
  have Y9 : Fld Z h8 o0 cA "text" "[C" (.ref b5) := Y6.same W8
  have N8 := Fr.snoc X8 N0 (by omega)
  refine Go.pre st8 ?_
  refine Go.pre (st' := T8.setTop (mkF m 58 #[sR o0] [(.int z0), (.ref o0)])) (fun target kt => ?_) ?_
  · refine XS.aloadN X8.here hx rfl (hb hby d10_56) rfl rfl ?_
    refine XS.iconst X8.here hx rfl (hb hby d10_57) ?_
    exact kt
  have Y10 := ((F_th.ext E5).other W8 (Or.inr (slot_ne (Or.inl (ow hw 60 rfl)) (Or.inl (ow hw 44 rfl)) (by decide) (t := .int) (t' := (.array .char)) (by decide) (by decide))))
  have Y11 := (Y7.wr W8)
  obtain ⟨T12, h12, X12, e12, W12, st12⟩ := putF X8 hx hZ hown (host := "") (Or.inl (ow hw 59 rfl)) Via.refl e8 Y10 Y11 (Or.inl (ow hw 60 rfl)) (ow hw 28 rfl) (ty := .int) (by decide) rfl rfl (g := (mkF m 58 #[sR o0] [(.int z0), (.ref o0)])) rfl rfl (hb hby d10_58)
  have sz12 : h8.size ≤ h12.size := (Keep.of_wr W12).1
  have Y13 : Fld Z h12 o0 cA "textLength" "I" (.int z0) := Y10.same W12
  have N12 := Fr.snoc X12 N8 (by omega)
  refine Go.pre st12 ?_
  refine Go.pre (st' := T12.setTop (mkF m 63 #[sR o0] [(.int z0), (.ref o0)])) (fun target kt => ?_) ?_
  · refine XS.aloadN X12.here hx rfl (hb hby d10_61) rfl rfl ?_
    refine XS.iconst X12.here hx rfl (hb hby d10_62) ?_
    exact kt
  have Y14 := (((F_se.ext E5).other W8 (Or.inr (slot_ne (Or.inl (ow hw 58 rfl)) (Or.inl (ow hw 44 rfl)) (by decide) (t := .int) (t' := (.array .char)) (by decide) (by decide)))).other W12 (Or.inr (slot_ne (Or.inl (ow hw 58 rfl)) (Or.inl (ow hw 60 rfl)) (by decide) (t := .int) (t' := .int) (by decide) (by decide))))
  have Y15 := (Y11.wr W12)
  obtain ⟨T16, h16, X16, e16, W16, st16⟩ := putF X12 hx hZ hown (host := "") (Or.inl (ow hw 57 rfl)) Via.refl e12 Y14 Y15 (Or.inl (ow hw 58 rfl)) (ow hw 28 rfl) (ty := .int) (by decide) rfl rfl (g := (mkF m 63 #[sR o0] [(.int z0), (.ref o0)])) rfl rfl (hb hby d10_63)
  have sz16 : h12.size ≤ h16.size := (Keep.of_wr W16).1
  have Y17 : Fld Z h16 o0 cA "size" "I" (.int z0) := Y14.same W16
  have N16 := Fr.snoc X16 N12 (by omega)
  refine Go.pre st16 ?_
  refine Go.pre (st' := T16.setTop (mkF m 68 #[sR o0] [(.int z0), (.ref o0)])) (fun target kt => ?_) ?_
  · refine XS.aloadN X16.here hx rfl (hb hby d10_66) rfl rfl ?_
    refine XS.iconst X16.here hx rfl (hb hby d10_67) ?_
    exact kt
  have Y18 := ((((F_sd.ext E5).other W8 (Or.inr (slot_ne (Or.inl (ow hw 64 rfl)) (Or.inl (ow hw 44 rfl)) (by decide) (t := .int) (t' := (.array .char)) (by decide) (by decide)))).other W12 (Or.inr (slot_ne (Or.inl (ow hw 64 rfl)) (Or.inl (ow hw 60 rfl)) (by decide) (t := .int) (t' := .int) (by decide) (by decide)))).other W16 (Or.inr (slot_ne (Or.inl (ow hw 64 rfl)) (Or.inl (ow hw 58 rfl)) (by decide) (t := .int) (t' := .int) (by decide) (by decide))))
  have Y19 := (Y15.wr W16)
  obtain ⟨T20, h20, X20, e20, W20, st20⟩ := putF X16 hx hZ hown (host := "") (Or.inl (ow hw 63 rfl)) Via.refl e16 Y18 Y19 (Or.inl (ow hw 64 rfl)) (ow hw 28 rfl) (ty := .int) (by decide) rfl rfl (g := (mkF m 68 #[sR o0] [(.int z0), (.ref o0)])) rfl rfl (hb hby d10_68)
  have sz20 : h16.size ≤ h20.size := (Keep.of_wr W20).1
  have Y21 : Fld Z h20 o0 cA "specified" "I" (.int z0) := Y18.same W20
  have N20 := Fr.snoc X20 N16 (by omega)
  refine Go.pre st20 ?_
  refine Go.pre (st' := T20.setTop (mkF m 73 #[sR o0] [.null, (.ref o0)])) (fun target kt => ?_) ?_
  · refine XS.aloadN X20.here hx rfl (hb hby d10_71) rfl rfl ?_
    refine XS.aconstNull X20.here hx rfl (hb hby d10_72) ?_
    exact kt
  have Y22 := (((((F_ix.ext E5).other W8 (Or.inr (slot_ne (Or.inl (ow hw 62 rfl)) (Or.inl (ow hw 44 rfl)) (by decide) (t := (.object "java/util/Map")) (t' := (.array .char)) (by decide) (by decide)))).other W12 (Or.inr (slot_ne (Or.inl (ow hw 62 rfl)) (Or.inl (ow hw 60 rfl)) (by decide) (t := (.object "java/util/Map")) (t' := .int) (by decide) (by decide)))).other W16 (Or.inr (slot_ne (Or.inl (ow hw 62 rfl)) (Or.inl (ow hw 58 rfl)) (by decide) (t := (.object "java/util/Map")) (t' := .int) (by decide) (by decide)))).other W20 (Or.inr (slot_ne (Or.inl (ow hw 62 rfl)) (Or.inl (ow hw 64 rfl)) (by decide) (t := (.object "java/util/Map")) (t' := .int) (by decide) (by decide))))
  have Y23 := (Y19.wr W20)
  obtain ⟨T24, h24, X24, e24, W24, st24⟩ := putF X20 hx hZ hown (host := "") (Or.inl (ow hw 61 rfl)) Via.refl e20 Y22 Y23 (Or.inl (ow hw 62 rfl)) (ow hw 28 rfl) (ty := (.object "java/util/Map")) (by decide) rfl rfl (g := (mkF m 73 #[sR o0] [.null, (.ref o0)])) rfl rfl (hb hby d10_73)
  have sz24 : h20.size ≤ h24.size := (Keep.of_wr W24).1
  have Y25 : Fld Z h24 o0 cA "index" "Ljava/util/Map;" .null := Y22.same W24
  have N24 := Fr.snoc X24 N20 (by omega)
  refine Go.pre st24 ?_
  have Y26 := ((Y17.other W20 (Or.inr (slot_ne (Or.inl (ow hw 58 rfl)) (Or.inl (ow hw 64 rfl)) (by decide) (t := .int) (t' := .int) (by decide) (by decide)))).other W24 (Or.inr (slot_ne (Or.inl (ow hw 58 rfl)) (Or.inl (ow hw 62 rfl)) (by decide) (t := .int) (t' := (.object "java/util/Map")) (by decide) (by decide))))
  have Y27 := (Y21.other W24 (Or.inr (slot_ne (Or.inl (ow hw 64 rfl)) (Or.inl (ow hw 62 rfl)) (by decide) (t := .int) (t' := (.object "java/util/Map")) (by decide) (by decide))))
  have Y28 := (((Y13.other W16 (Or.inr (slot_ne (Or.inl (ow hw 60 rfl)) (Or.inl (ow hw 58 rfl)) (by decide) (t := .int) (t' := .int) (by decide) (by decide)))).other W20 (Or.inr (slot_ne (Or.inl (ow hw 60 rfl)) (Or.inl (ow hw 64 rfl)) (by decide) (t := .int) (t' := .int) (by decide) (by decide)))).other W24 (Or.inr (slot_ne (Or.inl (ow hw 60 rfl)) (Or.inl (ow hw 62 rfl)) (by decide) (t := .int) (t' := (.object "java/util/Map")) (by decide) (by decide))))
  have Y29 := ((((((Fan.ext E5).other W8 (Or.inr (slot_ne (Or.inl (ow hw 37 rfl)) (Or.inl (ow hw 44 rfl)) (by decide) (t := (.array (.object cB))) (t' := (.array .char)) (by decide) (by decide)))).other W12 (Or.inr (slot_ne (Or.inl (ow hw 37 rfl)) (Or.inl (ow hw 60 rfl)) (by decide) (t := (.array (.object cB))) (t' := .int) (by decide) (by decide)))).other W16 (Or.inr (slot_ne (Or.inl (ow hw 37 rfl)) (Or.inl (ow hw 58 rfl)) (by decide) (t := (.array (.object cB))) (t' := .int) (by decide) (by decide)))).other W20 (Or.inr (slot_ne (Or.inl (ow hw 37 rfl)) (Or.inl (ow hw 64 rfl)) (by decide) (t := (.array (.object cB))) (t' := .int) (by decide) (by decide)))).other W24 (Or.inr (slot_ne (Or.inl (ow hw 37 rfl)) (Or.inl (ow hw 62 rfl)) (by decide) (t := (.array (.object cB))) (t' := (.object "java/util/Map")) (by decide) (by decide))))
  have Y30 := ((((((Fav.ext E5).other W8 (Or.inr (slot_ne (Or.inl (ow hw 39 rfl)) (Or.inl (ow hw 44 rfl)) (by decide) (t := (.array (.object cB))) (t' := (.array .char)) (by decide) (by decide)))).other W12 (Or.inr (slot_ne (Or.inl (ow hw 39 rfl)) (Or.inl (ow hw 60 rfl)) (by decide) (t := (.array (.object cB))) (t' := .int) (by decide) (by decide)))).other W16 (Or.inr (slot_ne (Or.inl (ow hw 39 rfl)) (Or.inl (ow hw 58 rfl)) (by decide) (t := (.array (.object cB))) (t' := .int) (by decide) (by decide)))).other W20 (Or.inr (slot_ne (Or.inl (ow hw 39 rfl)) (Or.inl (ow hw 64 rfl)) (by decide) (t := (.array (.object cB))) (t' := .int) (by decide) (by decide)))).other W24 (Or.inr (slot_ne (Or.inl (ow hw 39 rfl)) (Or.inl (ow hw 62 rfl)) (by decide) (t := (.array (.object cB))) (t' := (.object "java/util/Map")) (by decide) (by decide))))
  have Y31 := ((((((Fae.ext E5).other W8 (Or.inr (slot_ne (Or.inl (ow hw 42 rfl)) (Or.inl (ow hw 44 rfl)) (by decide) (t := (.array .int)) (t' := (.array .char)) (by decide) (by decide)))).other W12 (Or.inr (slot_ne (Or.inl (ow hw 42 rfl)) (Or.inl (ow hw 60 rfl)) (by decide) (t := (.array .int)) (t' := .int) (by decide) (by decide)))).other W16 (Or.inr (slot_ne (Or.inl (ow hw 42 rfl)) (Or.inl (ow hw 58 rfl)) (by decide) (t := (.array .int)) (t' := .int) (by decide) (by decide)))).other W20 (Or.inr (slot_ne (Or.inl (ow hw 42 rfl)) (Or.inl (ow hw 64 rfl)) (by decide) (t := (.array .int)) (t' := .int) (by decide) (by decide)))).other W24 (Or.inr (slot_ne (Or.inl (ow hw 42 rfl)) (Or.inl (ow hw 62 rfl)) (by decide) (t := (.array .int)) (t' := (.object "java/util/Map")) (by decide) (by decide))))
  have Y32 := ((((Y9.other W12 (Or.inr (slot_ne (Or.inl (ow hw 44 rfl)) (Or.inl (ow hw 60 rfl)) (by decide) (t := (.array .char)) (t' := .int) (by decide) (by decide)))).other W16 (Or.inr (slot_ne (Or.inl (ow hw 44 rfl)) (Or.inl (ow hw 58 rfl)) (by decide) (t := (.array .char)) (t' := .int) (by decide) (by decide)))).other W20 (Or.inr (slot_ne (Or.inl (ow hw 44 rfl)) (Or.inl (ow hw 64 rfl)) (by decide) (t := (.array .char)) (t' := .int) (by decide) (by decide)))).other W24 (Or.inr (slot_ne (Or.inl (ow hw 44 rfl)) (Or.inl (ow hw 62 rfl)) (by decide) (t := (.array .char)) (t' := (.object "java/util/Map")) (by decide) (by decide))))
  have Y33 := (((((V5f.other W8 (neN (by omega))).other W12 (neN (by omega))).other W16 (neN (by omega))).other W20 (neN (by omega))).other W24 (neN (by omega)))
  exact Go.ret0 X24 hx hlk hrt (hb hby d10_76) (by decide) (by decide) (by rw [e24]; exact ⟨b5, k5, rfl, N24, (((((((Keep.refl h0 [o0]).ext E5).wr W8 (Or.inl (List.mem_of_getElem? (i := 0) rfl))).wr W12 (Or.inl (List.mem_of_getElem? (i := 0) rfl))).wr W16 (Or.inl (List.mem_of_getElem? (i := 0) rfl))).wr W20 (Or.inl (List.mem_of_getElem? (i := 0) rfl))).wr W24 (Or.inl (List.mem_of_getElem? (i := 0) rfl))), trivial, by omega, by omega, Y26, Y27, Y28, Y25, Y29, Y30, Y31, Y32, Y33⟩)
/-! Attributes.size (11) -/
theorem d11_0 : decode q26 0 = .ok (.aload_n 0, 1) := by decide +kernel
theorem d11_1 : decode q26 1 = .ok (.getfield 26, 3) := by decide +kernel
theorem d11_4 : decode q26 4 = .ok (.ireturn, 1) := by decide +kernel
theorem pn_11 : plainName "com/example/satzung/satzung/parse/Attributes" = true := by first | (simp [plainName, overriddenIn]; done) | decide +kernel
theorem ef_11 (m : MethodId) (o0 : Addr) : entryFrame m #[(.ref o0)] 1 = (mkF m 0 #[.val (.ref o0)] []) := by first | (simp [entryFrame, mkF, argsToLocals, Value.category]; done) | rfl
def Q11 (Z : State) (o0 : Addr) (w1 : Int32) (h0 : Heap) (n0 : Nat) (v : Option Value) (h : Heap) (L : List Loc) : Prop := v = some (.int w1) ∧ Fr n0 L ∧ h = h0
theorem rm11 (l : Launch) (Z : State) (a0 : Array Value) (hw : ∀ d ∈ tables_1, d.before a0 Z = true) (ws : List Jvm.Cond) (o0 : Addr) (w1 : Int32) (h0 : Heap) (n0 : Nat) (Z0 : n0 ≤ h0.size) (F_size_o0 : Fld Z h0 o0 cA "size" "I" (.int w1)) :
    MetFree l (⟨cA, "size", "()I"⟩ : MethodName) (head1 (Jvm.Cond.code (⟨cA, "size", "()I"⟩ : MethodName) prog_64_method_2_code 1 (some .int) :: ws) ({ frames := 0, cells := 0, slots := 0, locals := 0 } : Room)) (fun a U => a = #[(.ref o0)] ∧ Z.Warmed39 U.vm ∧ U.heap = h0) (fun _ _ _ _ _ => True) (fun _ U o U' => ∃ v L, o = .returned v ∧ Q11 Z o0 w1 h0 n0 v U'.heap L ∧ FrameEnd U o U' L ({ frames := 0, cells := 0, slots := 0, locals := 0 } : Room).cells ({ frames := 0, cells := 0, slots := 0, locals := 0 } : Room).slots) := by
  refine MetFree.of_bodySF (plainFor_of_name pn_11) hisR ?_
  intro p e s m args below meth c s₁ Bd hml0 hP hK
  obtain ⟨rfl, hZ, hh⟩ := hP
  have hx := Bd.exec
  have hby := Bd.bytes
  have hml : c.maxLocals = 1 := hml0
  have hown : s.vm.findClass cA = some m.cls := findClass_of_methodNamed Bd.named
  have hnm := (name_of_methodNamed Bd.named Bd.method).1
  have hrt := Bd.returns
  have hlk := Bd.notSynchronized
  have X0 : Stand p l e ({ frames := 0, cells := 0, slots := 0, locals := 0 } : Room) s m #[(.ref o0)] below meth c s₁ [] 0 0 := Stand.of_body Bd
  have e0 : s₁.heap = h0 := by rw [← hh, Bd.state]; rfl
  have N0 := Fr.nil n0
  have lt_F_size_o0 : LT.lt (α := Nat) o0 h0.size := F_size_o0.lt
  show Go p e below s 0 0 (Q11 Z o0 w1 h0 n0) (s₁.setTop (entryFrame m #[(.ref o0)] 1))
  rw [ef_11 m o0]
  refine Go.pre (st' := s₁.setTop (mkF m 1 #[sR o0] [(.ref o0)])) (fun target kt => ?_) ?_
  · refine XS.aloadN X0.here hx rfl (hb hby d11_0) rfl rfl ?_
    exact kt
  obtain ⟨T2, X2, e2, st2⟩ := getF X0 hx hZ hown (host := "") (Or.inl (ow hw 57 rfl)) Via.refl e0 F_size_o0 (g := (mkF m 1 #[sR o0] [(.ref o0)])) rfl rfl (hb hby d11_1)
  refine Go.pre st2 ?_
  exact Go.retV X2 hx hlk hrt rfl (Or.inl ⟨rfl, Or.inl rfl, _, rfl⟩) (hb hby d11_4) (by decide) (by decide) (by rw [e2]; exact ⟨rfl, N0, rfl⟩)
/-! Attributes.specified (12) -/
theorem d12_0 : decode q27 0 = .ok (.aload_n 0, 1) := by decide +kernel
theorem d12_1 : decode q27 1 = .ok (.getfield 30, 3) := by decide +kernel
theorem d12_4 : decode q27 4 = .ok (.ireturn, 1) := by decide +kernel
theorem pn_12 : plainName "com/example/satzung/satzung/parse/Attributes" = true := by first | (simp [plainName, overriddenIn]; done) | decide +kernel
theorem ef_12 (m : MethodId) (o0 : Addr) : entryFrame m #[(.ref o0)] 1 = (mkF m 0 #[.val (.ref o0)] []) := by first | (simp [entryFrame, mkF, argsToLocals, Value.category]; done) | rfl
def Q12 (Z : State) (o0 : Addr) (w1 : Int32) (h0 : Heap) (n0 : Nat) (v : Option Value) (h : Heap) (L : List Loc) : Prop := v = some (.int w1) ∧ Fr n0 L ∧ h = h0
theorem rm12 (l : Launch) (Z : State) (a0 : Array Value) (hw : ∀ d ∈ tables_1, d.before a0 Z = true) (ws : List Jvm.Cond) (o0 : Addr) (w1 : Int32) (h0 : Heap) (n0 : Nat) (Z0 : n0 ≤ h0.size) (F_specified_o0 : Fld Z h0 o0 cA "specified" "I" (.int w1)) :
    MetFree l (⟨cA, "specified", "()I"⟩ : MethodName) (head1 (Jvm.Cond.code (⟨cA, "specified", "()I"⟩ : MethodName) prog_64_method_3_code 1 (some .int) :: ws) ({ frames := 0, cells := 0, slots := 0, locals := 0 } : Room)) (fun a U => a = #[(.ref o0)] ∧ Z.Warmed39 U.vm ∧ U.heap = h0) (fun _ _ _ _ _ => True) (fun _ U o U' => ∃ v L, o = .returned v ∧ Q12 Z o0 w1 h0 n0 v U'.heap L ∧ FrameEnd U o U' L ({ frames := 0, cells := 0, slots := 0, locals := 0 } : Room).cells ({ frames := 0, cells := 0, slots := 0, locals := 0 } : Room).slots) := by
  refine MetFree.of_bodySF (plainFor_of_name pn_12) hisR ?_
  intro p e s m args below meth c s₁ Bd hml0 hP hK
  obtain ⟨rfl, hZ, hh⟩ := hP
  have hx := Bd.exec
  have hby := Bd.bytes
  have hml : c.maxLocals = 1 := hml0
  have hown : s.vm.findClass cA = some m.cls := findClass_of_methodNamed Bd.named
  have hnm := (name_of_methodNamed Bd.named Bd.method).1
  have hrt := Bd.returns
  have hlk := Bd.notSynchronized
  have X0 : Stand p l e ({ frames := 0, cells := 0, slots := 0, locals := 0 } : Room) s m #[(.ref o0)] below meth c s₁ [] 0 0 := Stand.of_body Bd
  have e0 : s₁.heap = h0 := by rw [← hh, Bd.state]; rfl
  have N0 := Fr.nil n0
  have lt_F_specified_o0 : LT.lt (α := Nat) o0 h0.size := F_specified_o0.lt
  show Go p e below s 0 0 (Q12 Z o0 w1 h0 n0) (s₁.setTop (entryFrame m #[(.ref o0)] 1))
  rw [ef_12 m o0]
  refine Go.pre (st' := s₁.setTop (mkF m 1 #[sR o0] [(.ref o0)])) (fun target kt => ?_) ?_
  · refine XS.aloadN X0.here hx rfl (hb hby d12_0) rfl rfl ?_
    exact kt
  obtain ⟨T2, X2, e2, st2⟩ := getF X0 hx hZ hown (host := "") (Or.inl (ow hw 63 rfl)) Via.refl e0 F_specified_o0 (g := (mkF m 1 #[sR o0] [(.ref o0)])) rfl rfl (hb hby d12_1)
  refine Go.pre st2 ?_
  exact Go.retV X2 hx hlk hrt rfl (Or.inl ⟨rfl, Or.inl rfl, _, rfl⟩) (hb hby d12_4) (by decide) (by decide) (by rw [e2]; exact ⟨rfl, N0, rfl⟩)
/-! Attributes.checked (17) -/
theorem d17_0 : decode q24 0 = .ok (.iload_n 1, 1) := by decide +kernel
theorem d17_1 : decode q24 1 = .ok (.ifCond .lt 11, 3) := by decide +kernel
theorem d17_4 : decode q24 4 = .ok (.iload_n 1, 1) := by decide +kernel
theorem d17_5 : decode q24 5 = .ok (.aload_n 0, 1) := by decide +kernel
theorem d17_6 : decode q24 6 = .ok (.getfield 26, 3) := by decide +kernel
theorem d17_9 : decode q24 9 = .ok (.if_icmp .lt 21, 3) := by decide +kernel
theorem d17_30 : decode q24 30 = .ok (.iload_n 1, 1) := by decide +kernel
theorem d17_31 : decode q24 31 = .ok (.ireturn, 1) := by decide +kernel
theorem pn_17 : plainName "com/example/satzung/satzung/parse/Attributes" = true := by first | (simp [plainName, overriddenIn]; done) | decide +kernel
theorem ef_17 (m : MethodId) (o0 : Addr) : entryFrame m #[(.ref o0), (.int (0 : Int32))] 2 = (mkF m 0 #[.val (.ref o0), .val (.int (0 : Int32))] []) := by first | (simp [entryFrame, mkF, argsToLocals, Value.category]; done) | rfl
def Q17 (Z : State) (o0 : Addr) (h0 : Heap) (n0 : Nat) (v : Option Value) (h : Heap) (L : List Loc) : Prop := v = some (.int z0) ∧ Fr n0 L ∧ h = h0
theorem rm17 (l : Launch) (Z : State) (a0 : Array Value) (hw : ∀ d ∈ tables_1, d.before a0 Z = true) (ws : List Jvm.Cond) (o0 : Addr) (h0 : Heap) (n0 : Nat) (Z0 : n0 ≤ h0.size) (F_size : Fld Z h0 o0 cA "size" "I" (.int z1)) :
    MetFree l (⟨cA, "checked", "(I)I"⟩ : MethodName) (head1 (Jvm.Cond.code (⟨cA, "checked", "(I)I"⟩ : MethodName) prog_64_method_13_code 2 (some .int) :: ws) ({ frames := 0, cells := 0, slots := 0, locals := 0 } : Room)) (fun a U => a = #[(.ref o0), (.int z0)] ∧ Z.Warmed39 U.vm ∧ U.heap = h0) (fun _ _ _ _ _ => True) (fun _ U o U' => ∃ v L, o = .returned v ∧ Q17 Z o0 h0 n0 v U'.heap L ∧ FrameEnd U o U' L ({ frames := 0, cells := 0, slots := 0, locals := 0 } : Room).cells ({ frames := 0, cells := 0, slots := 0, locals := 0 } : Room).slots) := by
  refine MetFree.of_bodySF (plainFor_of_name pn_17) hisR ?_
  intro p e s m args below meth c s₁ Bd hml0 hP hK
  obtain ⟨rfl, hZ, hh⟩ := hP
  have hx := Bd.exec
  have hby := Bd.bytes
  have hml : c.maxLocals = 2 := hml0
  have hown : s.vm.findClass cA = some m.cls := findClass_of_methodNamed Bd.named
  have hnm := (name_of_methodNamed Bd.named Bd.method).1
  have hrt := Bd.returns
  have hlk := Bd.notSynchronized
  have X0 : Stand p l e ({ frames := 0, cells := 0, slots := 0, locals := 0 } : Room) s m #[(.ref o0), (.int z0)] below meth c s₁ [] 0 0 := Stand.of_body Bd
  have e0 : s₁.heap = h0 := by rw [← hh, Bd.state]; rfl
  have N0 := Fr.nil n0
  have lt_F_size : LT.lt (α := Nat) o0 h0.size := F_size.lt
  show Go p e below s 0 0 (Q17 Z o0 h0 n0) (s₁.setTop (entryFrame m #[(.ref o0), (.int z0)] 2))
  rw [ef_17 m o0]
  refine Go.pre (st' := s₁.setTop (mkF m 6 #[sR o0, sI z0] [(.ref o0), (.int z0)])) (fun target kt => ?_) ?_
  · refine XS.iloadN X0.here hx rfl (hb hby d17_0) rfl ?_
    refine XS.ifNo X0.here hx rfl (hb hby d17_1) rfl ((if0 _ _).trans (flt (by decide)).1) ?_
    refine XS.iloadN X0.here hx rfl (hb hby d17_4) rfl ?_
    refine XS.aloadN X0.here hx rfl (hb hby d17_5) rfl rfl ?_
    exact kt
  obtain ⟨T1, X1, e1, st1⟩ := getF X0 hx hZ hown (host := "") (Or.inl (ow hw 57 rfl)) Via.refl e0 F_size (g := (mkF m 6 #[sR o0, sI z0] [(.ref o0), (.int z0)])) rfl rfl (hb hby d17_6)
  refine Go.pre st1 ?_
  refine Go.pre (st' := T1.setTop (mkF m 31 #[sR o0, sI z0] [(.int z0)])) (fun target kt => ?_) ?_
  · refine XS.icmpYes X1.here hx rfl (pc0 := 9) (pc' := 30) rfl (hb hby d17_9) rfl (tlt (by decide)).1 (by decide) (by decide) ?_
    refine XS.iloadN X1.here hx rfl (hb hby d17_30) rfl ?_
    exact kt
  exact Go.retV X1 hx hlk hrt rfl (Or.inl ⟨rfl, Or.inl rfl, _, rfl⟩) (hb hby d17_31) (by decide) (by decide) (by rw [e1]; exact ⟨rfl, N0, rfl⟩)
/-! Math.max (27) -/
theorem d27_0 : decode q0 0 = .ok (.iload_n 0, 1) := by decide +kernel
theorem d27_1 : decode q0 1 = .ok (.iload_n 1, 1) := by decide +kernel
theorem d27_2 : decode q0 2 = .ok (.if_icmp .lt 7, 3) := by decide +kernel
theorem d27_5 : decode q0 5 = .ok (.iload_n 0, 1) := by decide +kernel
theorem d27_6 : decode q0 6 = .ok (.goto 4, 3) := by decide +kernel
theorem d27_10 : decode q0 10 = .ok (.ireturn, 1) := by decide +kernel
theorem pn_27 : plainFor (⟨"java/lang/Math", "max", "(II)I"⟩ : MethodName) = true := Jvm.Free.JP.mathPlain rfl (by decide +kernel)
theorem ef_27 (m : MethodId) (p1 : Int32) : entryFrame m #[(.int (2048 : Int32)), (.int p1)] 2 = (mkF m 0 #[.val (.int (2048 : Int32)), .val (.int p1)] []) := by first | (simp [entryFrame, mkF, argsToLocals, Value.category]; done) | rfl
def Q27 (Z : State) (p1 : Int32) (h0 : Heap) (n0 : Nat) (v : Option Value) (h : Heap) (L : List Loc) : Prop := v = some (.int z2048) ∧ Fr n0 L ∧ h = h0
theorem rm27 (l : Launch) (Z : State) (a0 : Array Value) (hw : ∀ d ∈ tables_1, d.before a0 Z = true) (ws : List Jvm.Cond) (p1 : Int32) (h0 : Heap) (n0 : Nat) (Z0 : n0 ≤ h0.size) (hc2 : ¬ (z2048 < p1)) :
    MetFree l (⟨"java/lang/Math", "max", "(II)I"⟩ : MethodName) (head1 (Jvm.Cond.code (⟨"java/lang/Math", "max", "(II)I"⟩ : MethodName) jdk_29_method_65_code 2 (some .int) :: ws) ({ frames := 0, cells := 0, slots := 0, locals := 0 } : Room)) (fun a U => a = #[(.int z2048), (.int p1)] ∧ Z.Warmed39 U.vm ∧ U.heap = h0) (fun _ _ _ _ _ => True) (fun _ U o U' => ∃ v L, o = .returned v ∧ Q27 Z p1 h0 n0 v U'.heap L ∧ FrameEnd U o U' L ({ frames := 0, cells := 0, slots := 0, locals := 0 } : Room).cells ({ frames := 0, cells := 0, slots := 0, locals := 0 } : Room).slots) := by
  refine MetFree.of_bodySF pn_27 hisR ?_
  intro p e s m args below meth c s₁ Bd hml0 hP hK
  obtain ⟨rfl, hZ, hh⟩ := hP
  have hx := Bd.exec
  have hby := Bd.bytes
  have hml : c.maxLocals = 2 := hml0
  have hown : s.vm.findClass "java/lang/Math" = some m.cls := findClass_of_methodNamed Bd.named
  have hnm := (name_of_methodNamed Bd.named Bd.method).1
  have hrt := Bd.returns
  have hlk := Bd.notSynchronized
  have X0 : Stand p l e ({ frames := 0, cells := 0, slots := 0, locals := 0 } : Room) s m #[(.int z2048), (.int p1)] below meth c s₁ [] 0 0 := Stand.of_body Bd
  have e0 : s₁.heap = h0 := by rw [← hh, Bd.state]; rfl
  have N0 := Fr.nil n0
  show Go p e below s 0 0 (Q27 Z p1 h0 n0) (s₁.setTop (entryFrame m #[(.int z2048), (.int p1)] 2))
  rw [ef_27 m p1]
  refine Go.pre (st' := s₁.setTop (mkF m 10 #[sI z2048, sI p1] [(.int z2048)])) (fun target kt => ?_) ?_
  · refine XS.iloadN X0.here hx rfl (hb hby d27_0) rfl ?_
    refine XS.iloadN X0.here hx rfl (hb hby d27_1) rfl ?_
    refine XS.icmpNo X0.here hx rfl (hb hby d27_2) rfl (flt hc2).1 ?_
    refine XS.iloadN X0.here hx rfl (hb hby d27_5) rfl ?_
    refine XS.goto X0.here hx rfl (pc0 := 6) (pc' := 10) rfl (hb hby d27_6) (by decide) (by decide) ?_
    exact kt
  exact Go.retV X0 hx hlk hrt rfl (Or.inl ⟨rfl, Or.inl rfl, _, rfl⟩) (hb hby d27_10) (by decide) (by decide) (by rw [e0]; exact ⟨rfl, N0, rfl⟩)
/-! Math.min (29) -/
theorem d29_0 : decode q1 0 = .ok (.iload_n 0, 1) := by decide +kernel
theorem d29_1 : decode q1 1 = .ok (.iload_n 1, 1) := by decide +kernel
theorem d29_2 : decode q1 2 = .ok (.if_icmp .gt 7, 3) := by decide +kernel
theorem d29_5 : decode q1 5 = .ok (.iload_n 0, 1) := by decide +kernel
theorem d29_6 : decode q1 6 = .ok (.goto 4, 3) := by decide +kernel
theorem d29_10 : decode q1 10 = .ok (.ireturn, 1) := by decide +kernel
theorem pn_29 : plainFor (⟨"java/lang/Math", "min", "(II)I"⟩ : MethodName) = true := Jvm.Free.JP.mathPlain rfl (by decide +kernel)
theorem ef_29 (m : MethodId)  : entryFrame m #[(.int (1024 : Int32)), (.int (2048 : Int32))] 2 = (mkF m 0 #[.val (.int (1024 : Int32)), .val (.int (2048 : Int32))] []) := by first | (simp [entryFrame, mkF, argsToLocals, Value.category]; done) | rfl
def Q29 (Z : State)  (h0 : Heap) (n0 : Nat) (v : Option Value) (h : Heap) (L : List Loc) : Prop := v = some (.int z1024) ∧ Fr n0 L ∧ h = h0
theorem rm29 (l : Launch) (Z : State) (a0 : Array Value) (hw : ∀ d ∈ tables_1, d.before a0 Z = true) (ws : List Jvm.Cond)  (h0 : Heap) (n0 : Nat) (Z0 : n0 ≤ h0.size) :
    MetFree l (⟨"java/lang/Math", "min", "(II)I"⟩ : MethodName) (head1 (Jvm.Cond.code (⟨"java/lang/Math", "min", "(II)I"⟩ : MethodName) jdk_29_method_69_code 2 (some .int) :: ws) ({ frames := 0, cells := 0, slots := 0, locals := 0 } : Room)) (fun a U => a = #[(.int z1024), (.int z2048)] ∧ Z.Warmed39 U.vm ∧ U.heap = h0) (fun _ _ _ _ _ => True) (fun _ U o U' => ∃ v L, o = .returned v ∧ Q29 Z  h0 n0 v U'.heap L ∧ FrameEnd U o U' L ({ frames := 0, cells := 0, slots := 0, locals := 0 } : Room).cells ({ frames := 0, cells := 0, slots := 0, locals := 0 } : Room).slots) := by
  refine MetFree.of_bodySF pn_29 hisR ?_
  intro p e s m args below meth c s₁ Bd hml0 hP hK
  obtain ⟨rfl, hZ, hh⟩ := hP
  have hx := Bd.exec
  have hby := Bd.bytes
  have hml : c.maxLocals = 2 := hml0
  have hown : s.vm.findClass "java/lang/Math" = some m.cls := findClass_of_methodNamed Bd.named
  have hnm := (name_of_methodNamed Bd.named Bd.method).1
  have hrt := Bd.returns
  have hlk := Bd.notSynchronized
  have X0 : Stand p l e ({ frames := 0, cells := 0, slots := 0, locals := 0 } : Room) s m #[(.int z1024), (.int z2048)] below meth c s₁ [] 0 0 := Stand.of_body Bd
  have e0 : s₁.heap = h0 := by rw [← hh, Bd.state]; rfl
  have N0 := Fr.nil n0
  show Go p e below s 0 0 (Q29 Z  h0 n0) (s₁.setTop (entryFrame m #[(.int z1024), (.int z2048)] 2))
  rw [ef_29 m ]
  refine Go.pre (st' := s₁.setTop (mkF m 10 #[sI z1024, sI z2048] [(.int z1024)])) (fun target kt => ?_) ?_
  · refine XS.iloadN X0.here hx rfl (hb hby d29_0) rfl ?_
    refine XS.iloadN X0.here hx rfl (hb hby d29_1) rfl ?_
    refine XS.icmpNo X0.here hx rfl (hb hby d29_2) rfl (flt (by decide)).2.2.1 ?_
    refine XS.iloadN X0.here hx rfl (hb hby d29_5) rfl ?_
    refine XS.goto X0.here hx rfl (pc0 := 6) (pc' := 10) rfl (hb hby d29_6) (by decide) (by decide) ?_
    exact kt
  exact Go.retV X0 hx hlk hrt rfl (Or.inl ⟨rfl, Or.inl rfl, _, rfl⟩) (hb hby d29_10) (by decide) (by decide) (by rw [e0]; exact ⟨rfl, N0, rfl⟩)
/-! Arrays.copyOf (28) -/
theorem d28_0 : decode q20 0 = .ok (.iload_n 1, 1) := by decide +kernel
theorem d28_1 : decode q20 1 = .ok (.aload_n 0, 1) := by decide +kernel
theorem d28_2 : decode q20 2 = .ok (.arraylength, 1) := by decide +kernel
theorem d28_3 : decode q20 3 = .ok (.if_icmp .ne 11, 3) := by decide +kernel
theorem d28_14 : decode q20 14 = .ok (.iload_n 1, 1) := by decide +kernel
theorem d28_15 : decode q20 15 = .ok (.newarray .char, 2) := by decide +kernel
theorem d28_17 : decode q20 17 = .ok (.astore_n 2, 1) := by decide +kernel
theorem d28_18 : decode q20 18 = .ok (.aload_n 0, 1) := by decide +kernel
theorem d28_19 : decode q20 19 = .ok (.iconst 0, 1) := by decide +kernel
theorem d28_20 : decode q20 20 = .ok (.aload_n 2, 1) := by decide +kernel
theorem d28_21 : decode q20 21 = .ok (.iconst 0, 1) := by decide +kernel
theorem d28_22 : decode q20 22 = .ok (.aload_n 0, 1) := by decide +kernel
theorem d28_23 : decode q20 23 = .ok (.arraylength, 1) := by decide +kernel
theorem d28_24 : decode q20 24 = .ok (.iload_n 1, 1) := by decide +kernel
theorem d28_25 : decode q20 25 = .ok (.invokestatic 304, 3) := by decide +kernel
theorem d28_28 : decode q20 28 = .ok (.invokestatic 150, 3) := by decide +kernel
theorem d28_31 : decode q20 31 = .ok (.aload_n 2, 1) := by decide +kernel
theorem d28_32 : decode q20 32 = .ok (.areturn, 1) := by decide +kernel
theorem pn_28 : plainName "java/util/Arrays" = true := by first | (simp [plainName, overriddenIn]; done) | decide +kernel
theorem pd28_0 : parseMethodDescriptor "(II)I" = some ⟨[.int, .int], some .int⟩ := by decide +kernel
theorem ef_28 (m : MethodId) (o0 : Addr) : entryFrame m #[(.ref o0), (.int (2048 : Int32))] 3 = (mkF m 0 #[.val (.ref o0), .val (.int (2048 : Int32)), .unset] []) := by first | (simp [entryFrame, mkF, argsToLocals, Value.category]; done) | rfl
def Q28 (Z : State) (o0 : Addr) (kt : ClassId) (ft : Int32 → Value) (h0 : Heap) (n0 : Nat) (v : Option Value) (h : Heap) (L : List Loc) : Prop := ∃ b2 : Addr, ∃ k2 : ClassId, v = some (.ref b2) ∧ Fr n0 L ∧ Keep h0 h [] ∧ True ∧ LE.le (α := Nat) h0.size b2 ∧ LT.lt (α := Nat) b2 h.size ∧ Arf Z h b2 k2 .char z2048 (own_cp ft (fun _ => (.int z0)) z1024)
theorem rm28 (l : Launch) (Z : State) (a0 : Array Value) (hw : ∀ d ∈ tables_1, d.before a0 Z = true) (ws : List Jvm.Cond) (o0 : Addr) (kt : ClassId) (ft : Int32 → Value) (h0 : Heap) (n0 : Nat) (Z0 : n0 ≤ h0.size) (B_o : Arf Z h0 o0 kt .char z1024 ft) :
    MetFree l (⟨"java/util/Arrays", "copyOf", "([CI)[C"⟩ : MethodName) (head1 (Jvm.Cond.code (⟨"java/util/Arrays", "copyOf", "([CI)[C"⟩ : MethodName) jdk_65_method_125_code 3 (some (.array .char)) :: ws) ({ frames := 1, cells := 1, slots := 2048, locals := 60 } : Room)) (fun a U => a = #[(.ref o0), (.int z2048)] ∧ Z.Warmed39 U.vm ∧ U.heap = h0) (fun _ _ _ _ _ => True) (fun _ U o U' => ∃ v L, o = .returned v ∧ Q28 Z o0 kt ft h0 n0 v U'.heap L ∧ FrameEnd U o U' L ({ frames := 1, cells := 1, slots := 2048, locals := 60 } : Room).cells ({ frames := 1, cells := 1, slots := 2048, locals := 60 } : Room).slots) := by
  refine MetFree.of_bodySF (plainFor_of_name pn_28) hisR ?_
  intro p e s m args below meth c s₁ Bd hml0 hP hK
  obtain ⟨rfl, hZ, hh⟩ := hP
  have hx := Bd.exec
  have hby := Bd.bytes
  have hml : c.maxLocals = 3 := hml0
  have hown : s.vm.findClass "java/util/Arrays" = some m.cls := findClass_of_methodNamed Bd.named
  have hnm := (name_of_methodNamed Bd.named Bd.method).1
  have hrt := Bd.returns
  have hlk := Bd.notSynchronized
  have X0 : Stand p l e ({ frames := 1, cells := 1, slots := 2048, locals := 60 } : Room) s m #[(.ref o0), (.int z2048)] below meth c s₁ [] 0 0 := Stand.of_body Bd
  have e0 : s₁.heap = h0 := by rw [← hh, Bd.state]; rfl
  have N0 := Fr.nil n0
  have lt_B_o : LT.lt (α := Nat) o0 h0.size := B_o.lt
  show Go p e below s 1 2048 (Q28 Z o0 kt ft h0 n0) (s₁.setTop (entryFrame m #[(.ref o0), (.int z2048)] 3))
  rw [ef_28 m o0]
  refine Go.pre (st' := s₁.setTop (mkF m 2 #[sR o0, sI z2048, sU] [(.ref o0), (.int z2048)])) (fun target kt => ?_) ?_
  · refine XS.iloadN X0.here hx rfl (hb hby d28_0) rfl ?_
    refine XS.aloadN X0.here hx rfl (hb hby d28_1) rfl rfl ?_
    exact kt
  obtain ⟨cl1, Ar1, -, Sz1, Nn1, -⟩ := id B_o
  have st1 := X0.arraylength hx (by rw [e0]; exact Ar1.1) (State.isArrayOf_alike hZ.alike Ar1.2.1) (g := (mkF m 2 #[sR o0, sI z2048, sU] [(.ref o0), (.int z2048)])) rfl rfl (hb hby d28_2)
  rw [len_of Sz1 Nn1] at st1
  refine Go.pre st1 ?_
  refine Go.pre (st' := s₁.setTop (mkF m 15 #[sR o0, sI z2048, sU] [(.int z2048)])) (fun target kt => ?_) ?_
  · refine XS.icmpYes X0.here hx rfl (pc0 := 3) (pc' := 14) rfl (hb hby d28_3) rfl (feq (by decide)).2 (by decide) (by decide) ?_
    refine XS.iloadN X0.here hx rfl (hb hby d28_14) rfl ?_
    exact kt
  obtain ⟨T2, h2, k2, X2, e2, E2, A2, st2⟩ := newP X0 hx hZ (ow hw 26 rfl) e0 (g := (mkF m 15 #[sR o0, sI z2048, sU] [(.int z2048)])) rfl (hb hby d28_15) rfl (by decide) (cap := 2048) (by decide) (by decide) (by decide) (by decide)
  obtain ⟨b2, g2⟩ : ∃ z, z = h0.size := ⟨_, rfl⟩
  rw [← g2] at A2 st2
  have sz2 : h0.size ≤ h2.size := E2.1
  have V2 : Arv Z h2 b2 k2 .char z2048 [] (.int z0) := Arv.new A2 (by decide)
  have lt2 : b2 < h2.size := V2.lt
  have V2f : Arf Z h2 b2 k2 .char z2048 (fun _ => (.int z0)) := Arf.of_arv V2
  refine Go.pre st2 ?_
  refine Go.pre (st' := T2.setTop (mkF m 23 #[sR o0, sI z2048, sR b2] [(.ref o0), (.int z0), (.ref b2), (.int z0), (.ref o0)])) (fun target kt => ?_) ?_
  · refine XS.astoreN X2.here hx rfl (hb hby d28_17) rfl rfl (l' := #[.val (.ref o0), .val (.int z2048), .val (.ref b2)]) rfl ?_
    refine XS.aloadN X2.here hx rfl (hb hby d28_18) rfl rfl ?_
    refine XS.iconst X2.here hx rfl (hb hby d28_19) ?_
    refine XS.aloadN X2.here hx rfl (hb hby d28_20) rfl rfl ?_
    refine XS.iconst X2.here hx rfl (hb hby d28_21) ?_
    refine XS.aloadN X2.here hx rfl (hb hby d28_22) rfl rfl ?_
    exact kt
  have Y3 := (B_o.ext E2)
  obtain ⟨cl4, Ar4, -, Sz4, Nn4, -⟩ := id Y3
  have st4 := X2.arraylength hx (by rw [e2]; exact Ar4.1) (State.isArrayOf_alike hZ.alike Ar4.2.1) (g := (mkF m 23 #[sR o0, sI z2048, sR b2] [(.ref o0), (.int z0), (.ref b2), (.int z0), (.ref o0)])) rfl rfl (hb hby d28_23)
  rw [len_of Sz4 Nn4] at st4
  refine Go.pre st4 ?_
  refine Go.pre (st' := T2.setTop (mkF m 25 #[sR o0, sI z2048, sR b2] [(.int z2048), (.int z1024), (.int z0), (.ref b2), (.int z0), (.ref o0)])) (fun target kt => ?_) ?_
  · refine XS.iloadN X2.here hx rfl (hb hby d28_24) rfl ?_
    exact kt
  obtain ⟨_, _, ⟨T5, L5, k5, n5⟩, -, X5, ⟨Lc5, hQ5, l5, y5, z5⟩, st5⟩ := Jvm.LawKit.callS X2 hx (y := (⟨"java/lang/Math", "min", "(II)I"⟩ : MethodName)) hown (mvT hZ (ow hw 161 rfl)) (mvT hZ (ow hw 162 rfl)) (mvT hZ (ow hw 155 rfl)) (mvT hZ (ow hw 163 rfl)) (by decide) (backOf (W := 4) (rm29 l Z a0 hw []  h2 n0 (by omega) ) hZ (ow hw 163 rfl) (ow hw 155 rfl) (by decide) (by decide)) (g := (mkF m 25 #[sR o0, sI z2048, sR b2] [(.int z2048), (.int z1024), (.int z0), (.ref b2), (.int z0), (.ref o0)])) rfl (by rw [hml]; rfl) (argsL := [(.int z1024), (.int z2048)]) (rest := [(.int z0), (.ref b2), (.int z0), (.ref o0)]) (lenOf pd28_0 rfl) rfl (le0 rfl) (hb hby d28_25) (fun vm₁ hvm => ⟨rfl, e2, (by decide : 1 + 0 ≤ _), (by decide : 2048 + 0 ≤ _)⟩)
  dsimp only [Pt.U, Pt.locs, Pt.cells, Pt.slots] at X5 l5 y5 z5 st5 hQ5
  subst l5 y5 z5
  obtain ⟨rfl, N5q, e5⟩ := hQ5
  have N5 := Fr.app N0 N5q
  refine Go.pre st5 ?_
  obtain ⟨T6, h6, L6, X6, e6, N6, K6, V6, st6⟩ := cpF X5 hx hZ hown (ow hw 164 rfl) (ow hw 94 rfl) (ow hw 92 rfl) (ow hw 93 rfl) e5 Y3 V2f rfl (nn := z1024) (by decide) (by decide) (by decide) N5 (by omega) (g := (mkF m 28 #[sR o0, sI z2048, sR b2] [(.int z1024), (.int z0), (.ref b2), (.int z0), (.ref o0)])) rfl (by rw [hml]; rfl) rfl (hb hby d28_28) (by decide) (W := 0) (le0 rfl) (by decide)
  have sz6 : h2.size ≤ h6.size := K6.1
  refine Go.pre st6 ?_
  refine Go.pre (st' := T6.setTop (mkF m 32 #[sR o0, sI z2048, sR b2] [(.ref b2)])) (fun target kt => ?_) ?_
  · refine XS.aloadN X6.here hx rfl (hb hby d28_31) rfl rfl ?_
    exact kt
  exact Go.retV X6 hx hlk hrt rfl (Or.inr (Or.inr (Or.inr (Or.inr ⟨rfl, rfl, rfl⟩)))) (hb hby d28_32) (by decide) (by decide) (by rw [e6]; exact ⟨b2, k2, rfl, N6, (((Keep.refl h0 []).ext E2).trans K6 (allS (Or.inr (by omega)) all0)), trivial, by omega, by omega, V6⟩)
/-! Attributes.append (8_0N_0) -/
theorem ef_8_0N_0 (m : MethodId) (o0 : Addr) (o1 : Addr) : entryFrame m #[(.ref o0), (.ref o1), .null] 4 = (mkF m 0 #[.val (.ref o0), .val (.ref o1), .val .null, .unset] []) := by first | (simp [entryFrame, mkF, argsToLocals, Value.category]; done) | rfl
def Q8_0N_0 (Z : State) (o0 : Addr) (o1 : Addr) (an : Addr) (kan : ClassId) (fan : Int32 → Value) (av : Addr) (kav : ClassId) (fav : Int32 → Value) (ae : Addr) (kae : ClassId) (fae : Int32 → Value) (tx : Addr) (us : Value) (tl : Int32) (h0 : Heap) (n0 : Nat) (v : Option Value) (h : Heap) (L : List Loc) : Prop := v = none ∧ Fr n0 L ∧ Keep h0 h [an, av, ae, o0] ∧ True ∧ Arf Z h an kan (.object cB) z16 (own_upd fan z0 (.ref o1)) ∧ Arf Z h av kav (.object cB) z16 (own_upd fav z0 .null) ∧ Arf Z h ae kae .int z16 (own_upd fae z0 (.int tl)) ∧ Fld Z h o0 cA "size" "I" (.int z1) ∧ Fld Z h o0 cA "specified" "I" us ∧ Fld Z h o0 cA "textLength" "I" (.int tl) ∧ Fld Z h o0 cA "index" "Ljava/util/Map;" .null ∧ Fld Z h o0 cA "names" cD (.ref an) ∧ Fld Z h o0 cA "values" cD (.ref av) ∧ Fld Z h o0 cA "ends" "[I" (.ref ae) ∧ Fld Z h o0 cA "text" "[C" (.ref tx)
theorem rm8_0N_0 (l : Launch) (Z : State) (a0 : Array Value) (hw : ∀ d ∈ tables_1, d.before a0 Z = true) (ws : List Jvm.Cond) (o0 : Addr) (o1 : Addr) (an : Addr) (kan : ClassId) (fan : Int32 → Value) (av : Addr) (kav : ClassId) (fav : Int32 → Value) (ae : Addr) (kae : ClassId) (fae : Int32 → Value) (tx : Addr) (us : Value) (tl : Int32) (h0 : Heap) (n0 : Nat) (Z0 : n0 ≤ h0.size) (E_o0 : Exa Z h0 o0 cA) (F_se : Fld Z h0 o0 cA "size" "I" (.int z0)) (F_sd : Fld Z h0 o0 cA "specified" "I" us) (F_th : Fld Z h0 o0 cA "textLength" "I" (.int tl)) (F_ix : Fld Z h0 o0 cA "index" "Ljava/util/Map;" .null) (Fan : Fld Z h0 o0 cA "names" cD (.ref an)) (B_an : Arf Z h0 an kan (.object cB) z16 fan) (Fav : Fld Z h0 o0 cA "values" cD (.ref av)) (B_av : Arf Z h0 av kav (.object cB) z16 fav) (Fae : Fld Z h0 o0 cA "ends" "[I" (.ref ae)) (B_ae : Arf Z h0 ae kae .int z16 fae) (Ftx : Fld Z h0 o0 cA "text" "[C" (.ref tx)) (O_an : Ovr Z kan cB) (O_av : Ovr Z kav cB) (n_o0_an : o0 ≠ an) (n_o0_av : o0 ≠ av) (n_o0_ae : o0 ≠ ae) (n_an_av : an ≠ av) (n_an_ae : an ≠ ae) (n_av_ae : av ≠ ae) (E_o1 : Exa Z h0 o1 cB) (g_an : n0 ≤ an) (g_av : n0 ≤ av) (g_ae : n0 ≤ ae) (g_o0 : n0 ≤ o0) :
    MetFree l (⟨cA, "append", cC⟩ : MethodName) (head1 (Jvm.Cond.code (⟨cA, "append", cC⟩ : MethodName) prog_64_method_12_code 4 none :: ws) ({ frames := 0, cells := 0, slots := 0, locals := 0 } : Room)) (fun a U => a = #[(.ref o0), (.ref o1), .null] ∧ Z.Warmed39 U.vm ∧ U.heap = h0) (fun _ _ _ _ _ => True) (fun _ U o U' => ∃ v L, o = .returned v ∧ Q8_0N_0 Z o0 o1 an kan fan av kav fav ae kae fae tx us tl h0 n0 v U'.heap L ∧ FrameEnd U o U' L ({ frames := 0, cells := 0, slots := 0, locals := 0 } : Room).cells ({ frames := 0, cells := 0, slots := 0, locals := 0 } : Room).slots) := by
  refine MetFree.of_bodySF (plainFor_of_name pn_8) hisR ?_
  intro p e s m args below meth c s₁ Bd hml0 hP hK
  obtain ⟨rfl, hZ, hh⟩ := hP
  have hx := Bd.exec
  have hby := Bd.bytes
  have hml : c.maxLocals = 4 := hml0
  have hown : s.vm.findClass cA = some m.cls := findClass_of_methodNamed Bd.named
  have hnm := (name_of_methodNamed Bd.named Bd.method).1
  have hrt := Bd.returns
  have hlk := Bd.notSynchronized
  have X0 : Stand p l e ({ frames := 0, cells := 0, slots := 0, locals := 0 } : Room) s m #[(.ref o0), (.ref o1), .null] below meth c s₁ [] 0 0 := Stand.of_body Bd
  have e0 : s₁.heap = h0 := by rw [← hh, Bd.state]; rfl
  have N0 := Fr.nil n0
  have lt_E_o0 : LT.lt (α := Nat) o0 h0.size := E_o0.lt
  have lt_B_an : LT.lt (α := Nat) an h0.size := B_an.lt
  have lt_B_av : LT.lt (α := Nat) av h0.size := B_av.lt
  have lt_B_ae : LT.lt (α := Nat) ae h0.size := B_ae.lt
  have lt_E_o1 : LT.lt (α := Nat) o1 h0.size := E_o1.lt
  show Go p e below s 0 0 (Q8_0N_0 Z o0 o1 an kan fan av kav fav ae kae fae tx us tl h0 n0) (s₁.setTop (entryFrame m #[(.ref o0), (.ref o1), .null] 4))
  rw [ef_8_0N_0 m o0 o1]
  refine Go.pre (st' := s₁.setTop (mkF m 1 #[sR o0, sR o1, sN, sU] [(.ref o0)])) (fun target kt => ?_) ?_
  · refine XS.aloadN X0.here hx rfl (hb hby d8_0) rfl rfl ?_
    exact kt
  obtain ⟨T1, X1, e1, st1⟩ := getF X0 hx hZ hown (host := "") (Or.inl (ow hw 57 rfl)) Via.refl e0 F_se (g := (mkF m 1 #[sR o0, sR o1, sN, sU] [(.ref o0)])) rfl rfl (hb hby d8_1)
  refine Go.pre st1 ?_
  refine Go.pre (st' := T1.setTop (mkF m 5 #[sR o0, sR o1, sN, sU] [(.ref o0), (.int z0)])) (fun target kt => ?_) ?_
  · refine XS.aloadN X1.here hx rfl (hb hby d8_4) rfl rfl ?_
    exact kt
  obtain ⟨T2, X2, e2, st2⟩ := getF X1 hx hZ hown (host := "") (Or.inl (ow hw 36 rfl)) Via.refl e1 Fan (g := (mkF m 5 #[sR o0, sR o1, sN, sU] [(.ref o0), (.int z0)])) rfl rfl (hb hby d8_5)
  refine Go.pre st2 ?_
  obtain ⟨cl3, Ar3, -, Sz3, Nn3, -⟩ := id B_an
  have st3 := X2.arraylength hx (by rw [e2]; exact Ar3.1) (State.isArrayOf_alike hZ.alike Ar3.2.1) (g := (mkF m 8 #[sR o0, sR o1, sN, sU] [(.ref an), (.int z0)])) rfl rfl (hb hby d8_8)
  rw [len_of Sz3 Nn3] at st3
  refine Go.pre st3 ?_
  refine Go.pre (st' := T2.setTop (mkF m 70 #[sR o0, sR o1, sN, sU] [(.ref o0)])) (fun target kt => ?_) ?_
  · refine XS.icmpYes X2.here hx rfl (pc0 := 9) (pc' := 69) rfl (hb hby d8_9) rfl (feq (by decide)).2 (by decide) (by decide) ?_
    refine XS.aloadN X2.here hx rfl (hb hby d8_69) rfl rfl ?_
    exact kt
  obtain ⟨T4, X4, e4, st4⟩ := getF X2 hx hZ hown (host := "") (Or.inl (ow hw 36 rfl)) Via.refl e2 Fan (g := (mkF m 70 #[sR o0, sR o1, sN, sU] [(.ref o0)])) rfl rfl (hb hby d8_70)
  refine Go.pre st4 ?_
  refine Go.pre (st' := T4.setTop (mkF m 74 #[sR o0, sR o1, sN, sU] [(.ref o0), (.ref an)])) (fun target kt => ?_) ?_
  · refine XS.aloadN X4.here hx rfl (hb hby d8_73) rfl rfl ?_
    exact kt
  obtain ⟨T5, X5, e5, st5⟩ := getF X4 hx hZ hown (host := "") (Or.inl (ow hw 57 rfl)) Via.refl e4 F_se (g := (mkF m 74 #[sR o0, sR o1, sN, sU] [(.ref o0), (.ref an)])) rfl rfl (hb hby d8_74)
  refine Go.pre st5 ?_
  refine Go.pre (st' := T5.setTop (mkF m 78 #[sR o0, sR o1, sN, sU] [(.ref o1), (.int z0), (.ref an)])) (fun target kt => ?_) ?_
  · refine XS.aloadN X5.here hx rfl (hb hby d8_77) rfl rfl ?_
    exact kt
  obtain ⟨cl6, Ar6, q6, Sz6, Nn6, Hs6⟩ := id B_an
  have in6 : ¬ (z0 < 0 ∨ cl6.slots.size ≤ (z0).toNatClampNeg) := by rw [Sz6]; exact (by decide)
  obtain ⟨T6, h6, X6, e6, W6, st6⟩ := stR X5 hx hZ e5 Ar6 (j := z0) in6 rfl (Sto.ofV Ar6 q6 O_an (Ins.self E_o1)) (g := (mkF m 78 #[sR o0, sR o1, sN, sU] [(.ref o1), (.int z0), (.ref an)])) rfl rfl (hb hby d8_78)
  have sz6 : h0.size ≤ h6.size := (Keep.of_wr W6).1
  have V6 : Arf Z h6 an kan (.object cB) z16 (own_upd fan z0 (.ref o1)) := Arf.set Ar6 q6 Sz6 Nn6 Hs6 rfl in6 W6
  have N6 := Fr.snoc X6 N0 (by omega)
  refine Go.pre st6 ?_
  refine Go.pre (st' := T6.setTop (mkF m 80 #[sR o0, sR o1, sN, sU] [(.ref o0)])) (fun target kt => ?_) ?_
  · refine XS.aloadN X6.here hx rfl (hb hby d8_79) rfl rfl ?_
    exact kt
  have Y7 := (Fav.other W6 (Or.inl n_o0_an))
  obtain ⟨T8, X8, e8, st8⟩ := getF X6 hx hZ hown (host := "") (Or.inl (ow hw 38 rfl)) Via.refl e6 Y7 (g := (mkF m 80 #[sR o0, sR o1, sN, sU] [(.ref o0)])) rfl rfl (hb hby d8_80)
  refine Go.pre st8 ?_
  refine Go.pre (st' := T8.setTop (mkF m 84 #[sR o0, sR o1, sN, sU] [(.ref o0), (.ref av)])) (fun target kt => ?_) ?_
  · refine XS.aloadN X8.here hx rfl (hb hby d8_83) rfl rfl ?_
    exact kt
  have Y9 := (F_se.other W6 (Or.inl n_o0_an))
  obtain ⟨T10, X10, e10, st10⟩ := getF X8 hx hZ hown (host := "") (Or.inl (ow hw 57 rfl)) Via.refl e8 Y9 (g := (mkF m 84 #[sR o0, sR o1, sN, sU] [(.ref o0), (.ref av)])) rfl rfl (hb hby d8_84)
  refine Go.pre st10 ?_
  refine Go.pre (st' := T10.setTop (mkF m 88 #[sR o0, sR o1, sN, sU] [.null, (.int z0), (.ref av)])) (fun target kt => ?_) ?_
  · refine XS.aloadN X10.here hx rfl (hb hby d8_87) rfl rfl ?_
    exact kt
  have Y11 := (B_av.other W6 (Ne.symm n_an_av))
  obtain ⟨cl12, Ar12, q12, Sz12, Nn12, Hs12⟩ := id Y11
  have in12 : ¬ (z0 < 0 ∨ cl12.slots.size ≤ (z0).toNatClampNeg) := by rw [Sz12]; exact (by decide)
  obtain ⟨T12, h12, X12, e12, W12, st12⟩ := stR X10 hx hZ e10 Ar12 (j := z0) in12 rfl (Or.inl rfl) (g := (mkF m 88 #[sR o0, sR o1, sN, sU] [.null, (.int z0), (.ref av)])) rfl rfl (hb hby d8_88)
  have sz12 : h6.size ≤ h12.size := (Keep.of_wr W12).1
  have V12 : Arf Z h12 av kav (.object cB) z16 (own_upd fav z0 .null) := Arf.set Ar12 q12 Sz12 Nn12 Hs12 rfl in12 W12
  have N12 := Fr.snoc X12 N6 (by omega)
  refine Go.pre st12 ?_
  refine Go.pre (st' := T12.setTop (mkF m 90 #[sR o0, sR o1, sN, sU] [(.ref o0)])) (fun target kt => ?_) ?_
  · refine XS.aloadN X12.here hx rfl (hb hby d8_89) rfl rfl ?_
    exact kt
  have Y13 := ((Fae.other W6 (Or.inl n_o0_an)).other W12 (Or.inl n_o0_av))
  obtain ⟨T14, X14, e14, st14⟩ := getF X12 hx hZ hown (host := "") (Or.inl (ow hw 41 rfl)) Via.refl e12 Y13 (g := (mkF m 90 #[sR o0, sR o1, sN, sU] [(.ref o0)])) rfl rfl (hb hby d8_90)
  refine Go.pre st14 ?_
  refine Go.pre (st' := T14.setTop (mkF m 94 #[sR o0, sR o1, sN, sU] [(.ref o0), (.ref ae)])) (fun target kt => ?_) ?_
  · refine XS.aloadN X14.here hx rfl (hb hby d8_93) rfl rfl ?_
    exact kt
  have Y15 := (Y9.other W12 (Or.inl n_o0_av))
  obtain ⟨T16, X16, e16, st16⟩ := getF X14 hx hZ hown (host := "") (Or.inl (ow hw 57 rfl)) Via.refl e14 Y15 (g := (mkF m 94 #[sR o0, sR o1, sN, sU] [(.ref o0), (.ref ae)])) rfl rfl (hb hby d8_94)
  refine Go.pre st16 ?_
  refine Go.pre (st' := T16.setTop (mkF m 98 #[sR o0, sR o1, sN, sU] [(.ref o0), (.int z0), (.ref ae)])) (fun target kt => ?_) ?_
  · refine XS.aloadN X16.here hx rfl (hb hby d8_97) rfl rfl ?_
    exact kt
  have Y17 := ((F_th.other W6 (Or.inl n_o0_an)).other W12 (Or.inl n_o0_av))
  obtain ⟨T18, X18, e18, st18⟩ := getF X16 hx hZ hown (host := "") (Or.inl (ow hw 59 rfl)) Via.refl e16 Y17 (g := (mkF m 98 #[sR o0, sR o1, sN, sU] [(.ref o0), (.int z0), (.ref ae)])) rfl rfl (hb hby d8_98)
  refine Go.pre st18 ?_
  have Y19 := ((B_ae.other W6 (Ne.symm n_an_ae)).other W12 (Ne.symm n_av_ae))
  obtain ⟨cl20, Ar20, q20, Sz20, Nn20, Hs20⟩ := id Y19
  have in20 : ¬ (z0 < 0 ∨ cl20.slots.size ≤ (z0).toNatClampNeg) := by rw [Sz20]; exact (by decide)
  obtain ⟨T20, h20, X20, e20, W20, st20⟩ := stI X18 hx hZ e18 Ar20 (j := z0) in20 (g := (mkF m 101 #[sR o0, sR o1, sN, sU] [(.int tl), (.int z0), (.ref ae)])) rfl rfl (hb hby d8_101)
  have sz20 : h12.size ≤ h20.size := (Keep.of_wr W20).1
  have V20 : Arf Z h20 ae kae .int z16 (own_upd fae z0 (.int tl)) := Arf.set Ar20 q20 Sz20 Nn20 Hs20 rfl in20 W20
  have N20 := Fr.snoc X20 N12 (by omega)
  refine Go.pre st20 ?_
  refine Go.pre (st' := T20.setTop (mkF m 104 #[sR o0, sR o1, sN, sU] [(.ref o0), (.ref o0)])) (fun target kt => ?_) ?_
  · refine XS.aloadN X20.here hx rfl (hb hby d8_102) rfl rfl ?_
    refine XS.dup X20.here hx rfl (hb hby d8_103) rfl rfl ?_
    exact kt
  have Y21 := (Y15.other W20 (Or.inl n_o0_ae))
  obtain ⟨T22, X22, e22, st22⟩ := getF X20 hx hZ hown (host := "") (Or.inl (ow hw 57 rfl)) Via.refl e20 Y21 (g := (mkF m 104 #[sR o0, sR o1, sN, sU] [(.ref o0), (.ref o0)])) rfl rfl (hb hby d8_104)
  refine Go.pre st22 ?_
  refine Go.pre (st' := T22.setTop (mkF m 109 #[sR o0, sR o1, sN, sU] [(.int z1), (.ref o0)])) (fun target kt => ?_) ?_
  · refine XS.iconst X22.here hx rfl (hb hby d8_107) ?_
    refine XS.iadd X22.here hx rfl (hb hby d8_108) rfl ?_
    exact kt
  have Y23 := (((E_o0.wr W6).wr W12).wr W20)
  obtain ⟨T24, h24, X24, e24, W24, st24⟩ := putF X22 hx hZ hown (host := "") (Or.inl (ow hw 57 rfl)) Via.refl e22 Y21 Y23 (Or.inl (ow hw 58 rfl)) (ow hw 28 rfl) (ty := .int) (by decide) rfl rfl (g := (mkF m 109 #[sR o0, sR o1, sN, sU] [(.int z1), (.ref o0)])) rfl rfl (hb hby d8_109)
  have sz24 : h20.size ≤ h24.size := (Keep.of_wr W24).1
  have Y25 : Fld Z h24 o0 cA "size" "I" (.int z1) := Y21.same W24
  have N24 := Fr.snoc X24 N20 (by omega)
  refine Go.pre st24 ?_
  refine Go.pre (st' := T24.setTop (mkF m 113 #[sR o0, sR o1, sN, sU] [(.ref o0)])) (fun target kt => ?_) ?_
  · refine XS.aloadN X24.here hx rfl (hb hby d8_112) rfl rfl ?_
    exact kt
  have Y26 := ((((F_ix.other W6 (Or.inl n_o0_an)).other W12 (Or.inl n_o0_av)).other W20 (Or.inl n_o0_ae)).other W24 (Or.inr (slot_ne (Or.inl (ow hw 62 rfl)) (Or.inl (ow hw 58 rfl)) (by decide) (t := (.object "java/util/Map")) (t' := .int) (by decide) (by decide))))
  obtain ⟨T27, X27, e27, st27⟩ := getF X24 hx hZ hown (host := "") (Or.inl (ow hw 61 rfl)) Via.refl e24 Y26 (g := (mkF m 113 #[sR o0, sR o1, sN, sU] [(.ref o0)])) rfl rfl (hb hby d8_113)
  refine Go.pre st27 ?_
  refine Go.pre (st' := T27.setTop (mkF m 120 #[sR o0, sR o1, sN, sU] [(.ref o0)])) (fun target kt => ?_) ?_
  · refine XS.ifnonnullNo X27.here hx rfl (hb hby d8_116) rfl ?_
    refine XS.aloadN X27.here hx rfl (hb hby d8_119) rfl rfl ?_
    exact kt
  obtain ⟨T28, X28, e28, st28⟩ := getF X27 hx hZ hown (host := "") (Or.inl (ow hw 57 rfl)) Via.refl e27 Y25 (g := (mkF m 120 #[sR o0, sR o1, sN, sU] [(.ref o0)])) rfl rfl (hb hby d8_120)
  refine Go.pre st28 ?_
  refine Go.pre (st' := T28.setTop (mkF m 179 #[sR o0, sR o1, sN, sU] [(.ref o0)])) (fun target kt => ?_) ?_
  · refine XS.bipush X28.here hx rfl (hb hby d8_123) ?_
    refine XS.icmpYes X28.here hx rfl (pc0 := 125) (pc' := 178) rfl (hb hby d8_125) rfl (tlt (by decide)).1 (by decide) (by decide) ?_
    refine XS.aloadN X28.here hx rfl (hb hby d8_178) rfl rfl ?_
    exact kt
  obtain ⟨T29, X29, e29, st29⟩ := getF X28 hx hZ hown (host := "") (Or.inl (ow hw 61 rfl)) Via.refl e28 Y26 (g := (mkF m 179 #[sR o0, sR o1, sN, sU] [(.ref o0)])) rfl rfl (hb hby d8_179)
  refine Go.pre st29 ?_
  refine Go.pre (st' := T29.setTop (mkF m 205 #[sR o0, sR o1, sN, sU] [])) (fun target kt => ?_) ?_
  · refine XS.ifnullYes X29.here hx rfl (pc0 := 182) (pc' := 205) rfl (hb hby d8_182) rfl (by decide) (by decide) ?_
    exact kt
  have Y30 := (((V6.other W12 n_an_av).other W20 n_an_ae).other W24 (Ne.symm n_o0_an))
  have Y31 := ((V12.other W20 n_av_ae).other W24 (Ne.symm n_o0_av))
  have Y32 := (V20.other W24 (Ne.symm n_o0_ae))
  have Y33 := ((((F_sd.other W6 (Or.inl n_o0_an)).other W12 (Or.inl n_o0_av)).other W20 (Or.inl n_o0_ae)).other W24 (Or.inr (slot_ne (Or.inl (ow hw 64 rfl)) (Or.inl (ow hw 58 rfl)) (by decide) (t := .int) (t' := .int) (by decide) (by decide))))
  have Y34 := ((Y17.other W20 (Or.inl n_o0_ae)).other W24 (Or.inr (slot_ne (Or.inl (ow hw 60 rfl)) (Or.inl (ow hw 58 rfl)) (by decide) (t := .int) (t' := .int) (by decide) (by decide))))
  have Y35 := ((((Fan.other W6 (Or.inl n_o0_an)).other W12 (Or.inl n_o0_av)).other W20 (Or.inl n_o0_ae)).other W24 (Or.inr (slot_ne (Or.inl (ow hw 37 rfl)) (Or.inl (ow hw 58 rfl)) (by decide) (t := (.array (.object cB))) (t' := .int) (by decide) (by decide))))
  have Y36 := (((Y7.other W12 (Or.inl n_o0_av)).other W20 (Or.inl n_o0_ae)).other W24 (Or.inr (slot_ne (Or.inl (ow hw 39 rfl)) (Or.inl (ow hw 58 rfl)) (by decide) (t := (.array (.object cB))) (t' := .int) (by decide) (by decide))))
  have Y37 := ((Y13.other W20 (Or.inl n_o0_ae)).other W24 (Or.inr (slot_ne (Or.inl (ow hw 42 rfl)) (Or.inl (ow hw 58 rfl)) (by decide) (t := (.array .int)) (t' := .int) (by decide) (by decide))))
  have Y38 := ((((Ftx.other W6 (Or.inl n_o0_an)).other W12 (Or.inl n_o0_av)).other W20 (Or.inl n_o0_ae)).other W24 (Or.inr (slot_ne (Or.inl (ow hw 44 rfl)) (Or.inl (ow hw 58 rfl)) (by decide) (t := (.array .char)) (t' := .int) (by decide) (by decide))))
  exact Go.ret0 X29 hx hlk hrt (hb hby d8_205) (by decide) (by decide) (by rw [e29]; exact ⟨rfl, N24, (((((Keep.refl h0 [an, av, ae, o0]).wr W6 (Or.inl (List.mem_of_getElem? (i := 0) rfl))).wr W12 (Or.inl (List.mem_of_getElem? (i := 1) rfl))).wr W20 (Or.inl (List.mem_of_getElem? (i := 2) rfl))).wr W24 (Or.inl (List.mem_of_getElem? (i := 3) rfl))), trivial, Y30, Y31, Y32, Y25, Y33, Y34, Y26, Y35, Y36, Y37, Y38⟩)
/-! Attributes.add (13a) -/
theorem d13_0 : decode q31 0 = .ok (.aload_n 0, 1) := by decide +kernel
theorem d13_1 : decode q31 1 = .ok (.getfield 71, 3) := by decide +kernel
theorem d13_4 : decode q31 4 = .ok (.iload 4, 2) := by decide +kernel
theorem d13_6 : decode q31 6 = .ok (.iadd, 1) := by decide +kernel
theorem d13_7 : decode q31 7 = .ok (.aload_n 0, 1) := by decide +kernel
theorem d13_8 : decode q31 8 = .ok (.getfield 22, 3) := by decide +kernel
theorem d13_11 : decode q31 11 = .ok (.arraylength, 1) := by decide +kernel
theorem d13_12 : decode q31 12 = .ok (.if_icmp .le 31, 3) := by decide +kernel
theorem d13_43 : decode q31 43 = .ok (.aload_n 2, 1) := by decide +kernel
theorem d13_44 : decode q31 44 = .ok (.iload_n 3, 1) := by decide +kernel
theorem d13_45 : decode q31 45 = .ok (.aload_n 0, 1) := by decide +kernel
theorem d13_46 : decode q31 46 = .ok (.getfield 22, 3) := by decide +kernel
theorem d13_49 : decode q31 49 = .ok (.aload_n 0, 1) := by decide +kernel
theorem d13_50 : decode q31 50 = .ok (.getfield 71, 3) := by decide +kernel
theorem d13_53 : decode q31 53 = .ok (.iload 4, 2) := by decide +kernel
theorem d13_55 : decode q31 55 = .ok (.invokestatic 86, 3) := by decide +kernel
theorem d13_58 : decode q31 58 = .ok (.aload_n 0, 1) := by decide +kernel
theorem d13_59 : decode q31 59 = .ok (.dup, 1) := by decide +kernel
theorem d13_60 : decode q31 60 = .ok (.getfield 71, 3) := by decide +kernel
theorem d13_63 : decode q31 63 = .ok (.iload 4, 2) := by decide +kernel
theorem d13_65 : decode q31 65 = .ok (.iadd, 1) := by decide +kernel
theorem d13_66 : decode q31 66 = .ok (.putfield 71, 3) := by decide +kernel
theorem d13_69 : decode q31 69 = .ok (.aload_n 0, 1) := by decide +kernel
theorem d13_70 : decode q31 70 = .ok (.aload_n 1, 1) := by decide +kernel
theorem d13_71 : decode q31 71 = .ok (.aconst_null, 1) := by decide +kernel
theorem d13_72 : decode q31 72 = .ok (.invokevirtual 67, 3) := by decide +kernel
theorem d13_75 : decode q31 75 = .ok (.aload_n 0, 1) := by decide +kernel
theorem d13_76 : decode q31 76 = .ok (.aload_n 0, 1) := by decide +kernel
theorem d13_77 : decode q31 77 = .ok (.getfield 26, 3) := by decide +kernel
theorem d13_80 : decode q31 80 = .ok (.putfield 30, 3) := by decide +kernel
theorem d13_83 : decode q31 83 = .ok (.return_, 1) := by decide +kernel
theorem pn_13 : plainName "com/example/satzung/satzung/parse/Attributes" = true := by first | (simp [plainName, overriddenIn]; done) | decide +kernel
theorem pd13a_0 : parseMethodDescriptor "(Ljava/lang/String;Ljava/lang/String;)V" = some ⟨[(.object "java/lang/String"), (.object "java/lang/String")], none⟩ := by decide +kernel
theorem ef_13a (m : MethodId) (o0 : Addr) (o1 : Addr) (o2 : Addr) (p4 : Int32) : entryFrame m #[(.ref o0), (.ref o1), (.ref o2), (.int (0 : Int32)), (.int p4)] 5 = (mkF m 0 #[.val (.ref o0), .val (.ref o1), .val (.ref o2), .val (.int (0 : Int32)), .val (.int p4)] []) := by first | (simp [entryFrame, mkF, argsToLocals, Value.category]; done) | rfl
def Q13a (Z : State) (o0 : Addr) (o1 : Addr) (o2 : Addr) (p4 : Int32) (an : Addr) (kan : ClassId) (fan : Int32 → Value) (av : Addr) (kav : ClassId) (fav : Int32 → Value) (ae : Addr) (kae : ClassId) (fae : Int32 → Value) (tx : Addr) (ktx : ClassId) (ftx : Int32 → Value) (us : Value) (kg : ClassId) (fg : Int32 → Value) (h0 : Heap) (n0 : Nat) (v : Option Value) (h : Heap) (L : List Loc) : Prop := v = none ∧ Fr n0 L ∧ Keep h0 h [tx, o0, an, av, ae] ∧ True ∧ Arf Z h tx ktx .char z1024 (own_cp fg ftx p4) ∧ Fld Z h o0 cA "size" "I" (.int z1) ∧ Fld Z h o0 cA "specified" "I" (.int z1) ∧ Fld Z h o0 cA "textLength" "I" (.int (z0 + p4)) ∧ Fld Z h o0 cA "index" "Ljava/util/Map;" .null ∧ Fld Z h o0 cA "names" cD (.ref an) ∧ Fld Z h o0 cA "values" cD (.ref av) ∧ Fld Z h o0 cA "ends" "[I" (.ref ae) ∧ Fld Z h o0 cA "text" "[C" (.ref tx) ∧ Arf Z h an kan (.object cB) z16 (own_upd fan z0 (.ref o1)) ∧ Arf Z h av kav (.object cB) z16 (own_upd fav z0 .null) ∧ Arf Z h ae kae .int z16 (own_upd fae z0 (.int (z0 + p4)))
theorem rm13a (l : Launch) (Z : State) (a0 : Array Value) (hw : ∀ d ∈ tables_1, d.before a0 Z = true) (ws : List Jvm.Cond) (o0 : Addr) (o1 : Addr) (o2 : Addr) (p4 : Int32) (an : Addr) (kan : ClassId) (fan : Int32 → Value) (av : Addr) (kav : ClassId) (fav : Int32 → Value) (ae : Addr) (kae : ClassId) (fae : Int32 → Value) (tx : Addr) (ktx : ClassId) (ftx : Int32 → Value) (us : Value) (kg : ClassId) (fg : Int32 → Value) (h0 : Heap) (n0 : Nat) (Z0 : n0 ≤ h0.size) (E_o0 : Exa Z h0 o0 cA) (F_se : Fld Z h0 o0 cA "size" "I" (.int z0)) (F_sd : Fld Z h0 o0 cA "specified" "I" us) (F_th : Fld Z h0 o0 cA "textLength" "I" (.int z0)) (F_ix : Fld Z h0 o0 cA "index" "Ljava/util/Map;" .null) (Fan : Fld Z h0 o0 cA "names" cD (.ref an)) (B_an : Arf Z h0 an kan (.object cB) z16 fan) (Fav : Fld Z h0 o0 cA "values" cD (.ref av)) (B_av : Arf Z h0 av kav (.object cB) z16 fav) (Fae : Fld Z h0 o0 cA "ends" "[I" (.ref ae)) (B_ae : Arf Z h0 ae kae .int z16 fae) (Ftx : Fld Z h0 o0 cA "text" "[C" (.ref tx)) (B_tx : Arf Z h0 tx ktx .char z1024 ftx) (O_an : Ovr Z kan cB) (O_av : Ovr Z kav cB) (n_o0_an : o0 ≠ an) (n_o0_av : o0 ≠ av) (n_o0_ae : o0 ≠ ae) (n_o0_tx : o0 ≠ tx) (n_an_av : an ≠ av) (n_an_ae : an ≠ ae) (n_av_ae : av ≠ ae) (n_an_tx : an ≠ tx) (n_av_tx : av ≠ tx) (n_ae_tx : ae ≠ tx) (B_o2 : Arf Z h0 o2 kg .char z2048 fg) (E_o1 : Exa Z h0 o1 cB) (n_o2_an : o2 ≠ an) (n_o2_av : o2 ≠ av) (n_o2_ae : o2 ≠ ae) (n_o2_tx : o2 ≠ tx) (n_o0_o2 : o0 ≠ o2) (g_tx : n0 ≤ tx) (g_o0 : n0 ≤ o0) (g_an : n0 ≤ an) (g_av : n0 ≤ av) (g_ae : n0 ≤ ae) (hp0 : ¬ p4 < 0) (hp1 : p4.toNatClampNeg ≤ z2048.toNatClampNeg) (hp2 : p4.toNatClampNeg ≤ z1024.toNatClampNeg) (hc12 : ¬ (z1024 < (z0 + p4))) :
    MetFree l (⟨cA, "add", "(Ljava/lang/String;[CII)V"⟩ : MethodName) (head1 (Jvm.Cond.code (⟨cA, "add", "(Ljava/lang/String;[CII)V"⟩ : MethodName) prog_64_method_9_code 5 none :: ws) ({ frames := 1, cells := 0, slots := 0, locals := 60 } : Room)) (fun a U => a = #[(.ref o0), (.ref o1), (.ref o2), (.int z0), (.int p4)] ∧ Z.Warmed39 U.vm ∧ U.heap = h0) (fun _ _ _ _ _ => True) (fun _ U o U' => ∃ v L, o = .returned v ∧ Q13a Z o0 o1 o2 p4 an kan fan av kav fav ae kae fae tx ktx ftx us kg fg h0 n0 v U'.heap L ∧ FrameEnd U o U' L ({ frames := 1, cells := 0, slots := 0, locals := 60 } : Room).cells ({ frames := 1, cells := 0, slots := 0, locals := 60 } : Room).slots) := by
  refine MetFree.of_bodySF (plainFor_of_name pn_13) hisR ?_
  intro p e s m args below meth c s₁ Bd hml0 hP hK
  obtain ⟨rfl, hZ, hh⟩ := hP
  have hx := Bd.exec
  have hby := Bd.bytes
  have hml : c.maxLocals = 5 := hml0
  have hown : s.vm.findClass cA = some m.cls := findClass_of_methodNamed Bd.named
  have hnm := (name_of_methodNamed Bd.named Bd.method).1
  have hrt := Bd.returns
  have hlk := Bd.notSynchronized
  have X0 : Stand p l e ({ frames := 1, cells := 0, slots := 0, locals := 60 } : Room) s m #[(.ref o0), (.ref o1), (.ref o2), (.int z0), (.int p4)] below meth c s₁ [] 0 0 := Stand.of_body Bd
  have e0 : s₁.heap = h0 := by rw [← hh, Bd.state]; rfl
  have N0 := Fr.nil n0
  have lt_E_o0 : LT.lt (α := Nat) o0 h0.size := E_o0.lt
  have lt_B_an : LT.lt (α := Nat) an h0.size := B_an.lt
  have lt_B_av : LT.lt (α := Nat) av h0.size := B_av.lt
  have lt_B_ae : LT.lt (α := Nat) ae h0.size := B_ae.lt
  have lt_B_tx : LT.lt (α := Nat) tx h0.size := B_tx.lt
  have lt_B_o2 : LT.lt (α := Nat) o2 h0.size := B_o2.lt
  have lt_E_o1 : LT.lt (α := Nat) o1 h0.size := E_o1.lt
  show Go p e below s 0 0 (Q13a Z o0 o1 o2 p4 an kan fan av kav fav ae kae fae tx ktx ftx us kg fg h0 n0) (s₁.setTop (entryFrame m #[(.ref o0), (.ref o1), (.ref o2), (.int z0), (.int p4)] 5))
  rw [ef_13a m o0 o1 o2 p4]
  refine Go.pre (st' := s₁.setTop (mkF m 1 #[sR o0, sR o1, sR o2, sI z0, sI p4] [(.ref o0)])) (fun target kt => ?_) ?_
  · refine XS.aloadN X0.here hx rfl (hb hby d13_0) rfl rfl ?_
    exact kt
  obtain ⟨T1, X1, e1, st1⟩ := getF X0 hx hZ hown (host := "") (Or.inl (ow hw 59 rfl)) Via.refl e0 F_th (g := (mkF m 1 #[sR o0, sR o1, sR o2, sI z0, sI p4] [(.ref o0)])) rfl rfl (hb hby d13_1)
  refine Go.pre st1 ?_
  refine Go.pre (st' := T1.setTop (mkF m 8 #[sR o0, sR o1, sR o2, sI z0, sI p4] [(.ref o0), (.int (z0 + p4))])) (fun target kt => ?_) ?_
  · refine XS.iload X1.here hx rfl (hb hby d13_4) rfl ?_
    refine XS.iadd X1.here hx rfl (hb hby d13_6) rfl ?_
    refine XS.aloadN X1.here hx rfl (hb hby d13_7) rfl rfl ?_
    exact kt
  obtain ⟨T2, X2, e2, st2⟩ := getF X1 hx hZ hown (host := "") (Or.inl (ow hw 43 rfl)) Via.refl e1 Ftx (g := (mkF m 8 #[sR o0, sR o1, sR o2, sI z0, sI p4] [(.ref o0), (.int (z0 + p4))])) rfl rfl (hb hby d13_8)
  refine Go.pre st2 ?_
  obtain ⟨cl3, Ar3, -, Sz3, Nn3, -⟩ := id B_tx
  have st3 := X2.arraylength hx (by rw [e2]; exact Ar3.1) (State.isArrayOf_alike hZ.alike Ar3.2.1) (g := (mkF m 11 #[sR o0, sR o1, sR o2, sI z0, sI p4] [(.ref tx), (.int (z0 + p4))])) rfl rfl (hb hby d13_11)
  rw [len_of Sz3 Nn3] at st3
  refine Go.pre st3 ?_
  refine Go.pre (st' := T2.setTop (mkF m 46 #[sR o0, sR o1, sR o2, sI z0, sI p4] [(.ref o0), (.int z0), (.ref o2)])) (fun target kt => ?_) ?_
  · refine XS.icmpYes X2.here hx rfl (pc0 := 12) (pc' := 43) rfl (hb hby d13_12) rfl (flt hc12).2.2.2 (by decide) (by decide) ?_
    refine XS.aloadN X2.here hx rfl (hb hby d13_43) rfl rfl ?_
    refine XS.iloadN X2.here hx rfl (hb hby d13_44) rfl ?_
    refine XS.aloadN X2.here hx rfl (hb hby d13_45) rfl rfl ?_
    exact kt
  obtain ⟨T4, X4, e4, st4⟩ := getF X2 hx hZ hown (host := "") (Or.inl (ow hw 43 rfl)) Via.refl e2 Ftx (g := (mkF m 46 #[sR o0, sR o1, sR o2, sI z0, sI p4] [(.ref o0), (.int z0), (.ref o2)])) rfl rfl (hb hby d13_46)
  refine Go.pre st4 ?_
  refine Go.pre (st' := T4.setTop (mkF m 50 #[sR o0, sR o1, sR o2, sI z0, sI p4] [(.ref o0), (.ref tx), (.int z0), (.ref o2)])) (fun target kt => ?_) ?_
  · refine XS.aloadN X4.here hx rfl (hb hby d13_49) rfl rfl ?_
    exact kt
  obtain ⟨T5, X5, e5, st5⟩ := getF X4 hx hZ hown (host := "") (Or.inl (ow hw 59 rfl)) Via.refl e4 F_th (g := (mkF m 50 #[sR o0, sR o1, sR o2, sI z0, sI p4] [(.ref o0), (.ref tx), (.int z0), (.ref o2)])) rfl rfl (hb hby d13_50)
  refine Go.pre st5 ?_
  refine Go.pre (st' := T5.setTop (mkF m 55 #[sR o0, sR o1, sR o2, sI z0, sI p4] [(.int p4), (.int z0), (.ref tx), (.int z0), (.ref o2)])) (fun target kt => ?_) ?_
  · refine XS.iload X5.here hx rfl (hb hby d13_53) rfl ?_
    exact kt
  obtain ⟨T6, h6, L6, X6, e6, N6, K6, V6, st6⟩ := cpF X5 hx hZ hown (ow hw 91 rfl) (ow hw 94 rfl) (ow hw 92 rfl) (ow hw 93 rfl) e5 B_o2 B_tx rfl (nn := p4) hp0 hp1 hp2 N0 (by omega) (g := (mkF m 55 #[sR o0, sR o1, sR o2, sI z0, sI p4] [(.int p4), (.int z0), (.ref tx), (.int z0), (.ref o2)])) rfl (by rw [hml]; rfl) rfl (hb hby d13_55) (by decide) (W := 0) (le0 rfl) (by decide)
  have sz6 : h0.size ≤ h6.size := K6.1
  refine Go.pre st6 ?_
  refine Go.pre (st' := T6.setTop (mkF m 60 #[sR o0, sR o1, sR o2, sI z0, sI p4] [(.ref o0), (.ref o0)])) (fun target kt => ?_) ?_
  · refine XS.aloadN X6.here hx rfl (hb hby d13_58) rfl rfl ?_
    refine XS.dup X6.here hx rfl (hb hby d13_59) rfl rfl ?_
    exact kt
  have Y7 := (F_th.keep K6 (ninS n_o0_tx nin0))
  obtain ⟨T8, X8, e8, st8⟩ := getF X6 hx hZ hown (host := "") (Or.inl (ow hw 59 rfl)) Via.refl e6 Y7 (g := (mkF m 60 #[sR o0, sR o1, sR o2, sI z0, sI p4] [(.ref o0), (.ref o0)])) rfl rfl (hb hby d13_60)
  refine Go.pre st8 ?_
  refine Go.pre (st' := T8.setTop (mkF m 66 #[sR o0, sR o1, sR o2, sI z0, sI p4] [(.int (z0 + p4)), (.ref o0)])) (fun target kt => ?_) ?_
  · refine XS.iload X8.here hx rfl (hb hby d13_63) rfl ?_
    refine XS.iadd X8.here hx rfl (hb hby d13_65) rfl ?_
    exact kt
  have Y9 := (E_o0.keep K6)
  obtain ⟨T10, h10, X10, e10, W10, st10⟩ := putF X8 hx hZ hown (host := "") (Or.inl (ow hw 59 rfl)) Via.refl e8 Y7 Y9 (Or.inl (ow hw 60 rfl)) (ow hw 28 rfl) (ty := .int) (by decide) rfl rfl (g := (mkF m 66 #[sR o0, sR o1, sR o2, sI z0, sI p4] [(.int (z0 + p4)), (.ref o0)])) rfl rfl (hb hby d13_66)
  have sz10 : h6.size ≤ h10.size := (Keep.of_wr W10).1
  have Y11 : Fld Z h10 o0 cA "textLength" "I" (.int (z0 + p4)) := Y7.same W10
  have N10 := Fr.snoc X10 N6 (by omega)
  refine Go.pre st10 ?_
  refine Go.pre (st' := T10.setTop (mkF m 72 #[sR o0, sR o1, sR o2, sI z0, sI p4] [.null, (.ref o1), (.ref o0)])) (fun target kt => ?_) ?_
  · refine XS.aloadN X10.here hx rfl (hb hby d13_69) rfl rfl ?_
    refine XS.aloadN X10.here hx rfl (hb hby d13_70) rfl rfl ?_
    refine XS.aconstNull X10.here hx rfl (hb hby d13_71) ?_
    exact kt
  have Y13 := (Y9.wr W10)
  have Y14 := ((F_se.keep K6 (ninS n_o0_tx nin0)).other W10 (Or.inr (slot_ne (Or.inl (ow hw 58 rfl)) (Or.inl (ow hw 60 rfl)) (by decide) (t := .int) (t' := .int) (by decide) (by decide))))
  have Y15 := ((F_sd.keep K6 (ninS n_o0_tx nin0)).other W10 (Or.inr (slot_ne (Or.inl (ow hw 64 rfl)) (Or.inl (ow hw 60 rfl)) (by decide) (t := .int) (t' := .int) (by decide) (by decide))))
  have Y16 := ((F_ix.keep K6 (ninS n_o0_tx nin0)).other W10 (Or.inr (slot_ne (Or.inl (ow hw 62 rfl)) (Or.inl (ow hw 60 rfl)) (by decide) (t := (.object "java/util/Map")) (t' := .int) (by decide) (by decide))))
  have Y17 := ((Fan.keep K6 (ninS n_o0_tx nin0)).other W10 (Or.inr (slot_ne (Or.inl (ow hw 37 rfl)) (Or.inl (ow hw 60 rfl)) (by decide) (t := (.array (.object cB))) (t' := .int) (by decide) (by decide))))
  have Y18 := ((B_an.keep K6 (ninS n_an_tx nin0)).other W10 (Ne.symm n_o0_an))
  have Y19 := ((Fav.keep K6 (ninS n_o0_tx nin0)).other W10 (Or.inr (slot_ne (Or.inl (ow hw 39 rfl)) (Or.inl (ow hw 60 rfl)) (by decide) (t := (.array (.object cB))) (t' := .int) (by decide) (by decide))))
  have Y20 := ((B_av.keep K6 (ninS n_av_tx nin0)).other W10 (Ne.symm n_o0_av))
  have Y21 := ((Fae.keep K6 (ninS n_o0_tx nin0)).other W10 (Or.inr (slot_ne (Or.inl (ow hw 42 rfl)) (Or.inl (ow hw 60 rfl)) (by decide) (t := (.array .int)) (t' := .int) (by decide) (by decide))))
  have Y22 := ((B_ae.keep K6 (ninS n_ae_tx nin0)).other W10 (Ne.symm n_o0_ae))
  have Y23 := ((Ftx.keep K6 (ninS n_o0_tx nin0)).other W10 (Or.inr (slot_ne (Or.inl (ow hw 44 rfl)) (Or.inl (ow hw 60 rfl)) (by decide) (t := (.array .char)) (t' := .int) (by decide) (by decide))))
  have Y24 := ((E_o1.keep K6).wr W10)
  obtain ⟨cq12, q12, q12'⟩ := Y13.cell
  obtain ⟨_, _, ⟨T12, L12, k12, n12⟩, -, X12, ⟨Lc12, hQ12, l12, y12, z12⟩, st12⟩ := X10.privateBack hx (y := (⟨cA, "append", cC⟩ : MethodName)) hown (mvT hZ (ow hw 53 rfl)) (mvT hZ (ow hw 54 rfl)) (mvT hZ (selects_private (y := (⟨cA, "append", cC⟩ : MethodName)) (ow hw 28 rfl) (ow hw 55 rfl) (ow hw 54 rfl))) (Cond.privateMethod_at (mvP hZ (ow hw 55 rfl) (args := #[]))) (mvT hZ (ow hw 56 rfl)) (by decide) (backOf (W := 0) (rm8_0N_0 l Z a0 hw [] o0 o1 an kan fan av kav fav ae kae fae tx us (z0 + p4) h10 n0 (by omega) Y13 Y14 Y15 Y11 Y16 Y17 Y18 Y19 Y20 Y21 Y22 Y23 O_an O_av n_o0_an n_o0_av n_o0_ae n_an_av n_an_ae n_av_ae Y24 (by omega) (by omega) (by omega) (by omega)) hZ (ow hw 56 rfl) (ow hw 29 rfl) (by decide) (by decide)) (g := (mkF m 72 #[sR o0, sR o1, sR o2, sI z0, sI p4] [.null, (.ref o1), (.ref o0)])) rfl (by rw [hml]; rfl) (Steps.refl _) (a := o0) (by rw [e10]; exact q12) q12' (argsL := [(.ref o1), .null]) (rest := []) (lenOf pd13a_0 rfl) rfl (le0 rfl) (hb hby d13_72) (fun vm₁ hvm => ⟨rfl, e10, (by decide : 0 + 0 ≤ _), (by decide : 0 + 0 ≤ _)⟩)
  dsimp only [Pt.U, Pt.locs, Pt.cells, Pt.slots] at X12 l12 y12 z12 st12 hQ12
  subst l12 y12 z12
  obtain ⟨rfl, N12q, K12, KF12, Y12_0, Y12_1, Y12_2, Y12_3, Y12_4, Y12_5, Y12_6, Y12_7, Y12_8, Y12_9, Y12_10⟩ := hQ12
  have sz12 : h10.size ≤ T12.heap.size := K12.1
  have N12 := Fr.app N10 N12q
  refine Go.trans st12 ?_
  refine Go.pre (st' := T12.setTop (mkF m 77 #[sR o0, sR o1, sR o2, sI z0, sI p4] [(.ref o0), (.ref o0)])) (fun target kt => ?_) ?_
  · refine XS.aloadN X12.here hx rfl (hb hby d13_75) rfl rfl ?_
    refine XS.aloadN X12.here hx rfl (hb hby d13_76) rfl rfl ?_
    exact kt
  obtain ⟨T25, X25, e25, st25⟩ := getF X12 hx hZ hown (host := "") (Or.inl (ow hw 57 rfl)) Via.refl rfl Y12_3 (g := (mkF m 77 #[sR o0, sR o1, sR o2, sI z0, sI p4] [(.ref o0), (.ref o0)])) rfl rfl (hb hby d13_77)
  refine Go.pre st25 ?_
  have Y26 := (Y13.keep K12)
  obtain ⟨T27, h27, X27, e27, W27, st27⟩ := putF X25 hx hZ hown (host := "") (Or.inl (ow hw 63 rfl)) Via.refl e25 Y12_4 Y26 (Or.inl (ow hw 64 rfl)) (ow hw 28 rfl) (ty := .int) (by decide) rfl rfl (g := (mkF m 80 #[sR o0, sR o1, sR o2, sI z0, sI p4] [(.int z1), (.ref o0)])) rfl rfl (hb hby d13_80)
  have sz27 : T12.heap.size ≤ h27.size := (Keep.of_wr W27).1
  have Y28 : Fld Z h27 o0 cA "specified" "I" (.int z1) := Y12_4.same W27
  have N27 := Fr.snoc X27 N12 (by omega)
  refine Go.pre st27 ?_
  have Y29 := (((V6.other W10 (Ne.symm n_o0_tx)).keep K12 (ninS (Ne.symm n_an_tx) (ninS (Ne.symm n_av_tx) (ninS (Ne.symm n_ae_tx) (ninS (Ne.symm n_o0_tx) nin0))))).other W27 (Ne.symm n_o0_tx))
  have Y30 := (Y12_3.other W27 (Or.inr (slot_ne (Or.inl (ow hw 58 rfl)) (Or.inl (ow hw 64 rfl)) (by decide) (t := .int) (t' := .int) (by decide) (by decide))))
  have Y31 := (Y12_5.other W27 (Or.inr (slot_ne (Or.inl (ow hw 60 rfl)) (Or.inl (ow hw 64 rfl)) (by decide) (t := .int) (t' := .int) (by decide) (by decide))))
  have Y32 := (Y12_6.other W27 (Or.inr (slot_ne (Or.inl (ow hw 62 rfl)) (Or.inl (ow hw 64 rfl)) (by decide) (t := (.object "java/util/Map")) (t' := .int) (by decide) (by decide))))
  have Y33 := (Y12_7.other W27 (Or.inr (slot_ne (Or.inl (ow hw 37 rfl)) (Or.inl (ow hw 64 rfl)) (by decide) (t := (.array (.object cB))) (t' := .int) (by decide) (by decide))))
  have Y34 := (Y12_8.other W27 (Or.inr (slot_ne (Or.inl (ow hw 39 rfl)) (Or.inl (ow hw 64 rfl)) (by decide) (t := (.array (.object cB))) (t' := .int) (by decide) (by decide))))
  have Y35 := (Y12_9.other W27 (Or.inr (slot_ne (Or.inl (ow hw 42 rfl)) (Or.inl (ow hw 64 rfl)) (by decide) (t := (.array .int)) (t' := .int) (by decide) (by decide))))
  have Y36 := (Y12_10.other W27 (Or.inr (slot_ne (Or.inl (ow hw 44 rfl)) (Or.inl (ow hw 64 rfl)) (by decide) (t := (.array .char)) (t' := .int) (by decide) (by decide))))
  have Y37 := (Y12_0.other W27 (Ne.symm n_o0_an))
  have Y38 := (Y12_1.other W27 (Ne.symm n_o0_av))
  have Y39 := (Y12_2.other W27 (Ne.symm n_o0_ae))
  exact Go.ret0 X27 hx hlk hrt (hb hby d13_83) (by decide) (by decide) (by rw [e27]; exact ⟨rfl, N27, (((((Keep.refl h0 [tx, o0, an, av, ae]).trans K6 (allS (Or.inl (List.mem_of_getElem? (i := 0) rfl)) all0)).wr W10 (Or.inl (List.mem_of_getElem? (i := 1) rfl))).trans K12 (allS (Or.inl (List.mem_of_getElem? (i := 2) rfl)) (allS (Or.inl (List.mem_of_getElem? (i := 3) rfl)) (allS (Or.inl (List.mem_of_getElem? (i := 4) rfl)) (allS (Or.inl (List.mem_of_getElem? (i := 1) rfl)) all0))))).wr W27 (Or.inl (List.mem_of_getElem? (i := 1) rfl))), trivial, Y29, Y30, Y28, Y31, Y32, Y33, Y34, Y35, Y36, Y37, Y38, Y39⟩)
/-! Attributes.add (13b) -/
theorem d13_15 : decode q31 15 = .ok (.aload_n 0, 1) := by decide +kernel
theorem d13_16 : decode q31 16 = .ok (.aload_n 0, 1) := by decide +kernel
theorem d13_17 : decode q31 17 = .ok (.getfield 22, 3) := by decide +kernel
theorem d13_20 : decode q31 20 = .ok (.aload_n 0, 1) := by decide +kernel
theorem d13_21 : decode q31 21 = .ok (.getfield 22, 3) := by decide +kernel
theorem d13_24 : decode q31 24 = .ok (.arraylength, 1) := by decide +kernel
theorem d13_25 : decode q31 25 = .ok (.iconst 2, 1) := by decide +kernel
theorem d13_26 : decode q31 26 = .ok (.imul, 1) := by decide +kernel
theorem d13_27 : decode q31 27 = .ok (.aload_n 0, 1) := by decide +kernel
theorem d13_28 : decode q31 28 = .ok (.getfield 71, 3) := by decide +kernel
theorem d13_31 : decode q31 31 = .ok (.iload 4, 2) := by decide +kernel
theorem d13_33 : decode q31 33 = .ok (.iadd, 1) := by decide +kernel
theorem d13_34 : decode q31 34 = .ok (.invokestatic 74, 3) := by decide +kernel
theorem d13_37 : decode q31 37 = .ok (.invokestatic 80, 3) := by decide +kernel
theorem d13_40 : decode q31 40 = .ok (.putfield 22, 3) := by decide +kernel
theorem pd13b_0 : parseMethodDescriptor "(II)I" = some ⟨[.int, .int], some .int⟩ := by decide +kernel
theorem pd13b_1 : parseMethodDescriptor "([CI)[C" = some ⟨[(.array .char), .int], some (.array .char)⟩ := by decide +kernel
theorem pd13b_2 : parseMethodDescriptor "(Ljava/lang/String;Ljava/lang/String;)V" = some ⟨[(.object "java/lang/String"), (.object "java/lang/String")], none⟩ := by decide +kernel
theorem ef_13b (m : MethodId) (o0 : Addr) (o1 : Addr) (o2 : Addr) (p4 : Int32) : entryFrame m #[(.ref o0), (.ref o1), (.ref o2), (.int (0 : Int32)), (.int p4)] 5 = (mkF m 0 #[.val (.ref o0), .val (.ref o1), .val (.ref o2), .val (.int (0 : Int32)), .val (.int p4)] []) := by first | (simp [entryFrame, mkF, argsToLocals, Value.category]; done) | rfl
def Q13b (Z : State) (o0 : Addr) (o1 : Addr) (o2 : Addr) (p4 : Int32) (an : Addr) (kan : ClassId) (fan : Int32 → Value) (av : Addr) (kav : ClassId) (fav : Int32 → Value) (ae : Addr) (kae : ClassId) (fae : Int32 → Value) (tx : Addr) (ktx : ClassId) (ftx : Int32 → Value) (us : Value) (kg : ClassId) (fg : Int32 → Value) (h0 : Heap) (n0 : Nat) (v : Option Value) (h : Heap) (L : List Loc) : Prop := ∃ b9_0 : Addr, ∃ k9_0 : ClassId, v = none ∧ Fr n0 L ∧ Keep h0 h [o0, an, av, ae] ∧ True ∧ LE.le (α := Nat) h0.size b9_0 ∧ LT.lt (α := Nat) b9_0 h.size ∧ Fld Z h o0 cA "size" "I" (.int z1) ∧ Fld Z h o0 cA "specified" "I" (.int z1) ∧ Fld Z h o0 cA "textLength" "I" (.int (z0 + p4)) ∧ Fld Z h o0 cA "index" "Ljava/util/Map;" .null ∧ Fld Z h o0 cA "names" cD (.ref an) ∧ Fld Z h o0 cA "values" cD (.ref av) ∧ Fld Z h o0 cA "ends" "[I" (.ref ae) ∧ Fld Z h o0 cA "text" "[C" (.ref b9_0) ∧ Arf Z h an kan (.object cB) z16 (own_upd fan z0 (.ref o1)) ∧ Arf Z h av kav (.object cB) z16 (own_upd fav z0 .null) ∧ Arf Z h ae kae .int z16 (own_upd fae z0 (.int (z0 + p4))) ∧ Arf Z h b9_0 k9_0 .char z2048 (own_cp fg (own_cp ftx (fun _ => (.int z0)) z1024) p4)
theorem rm13b (l : Launch) (Z : State) (a0 : Array Value) (hw : ∀ d ∈ tables_1, d.before a0 Z = true) (ws : List Jvm.Cond) (o0 : Addr) (o1 : Addr) (o2 : Addr) (p4 : Int32) (an : Addr) (kan : ClassId) (fan : Int32 → Value) (av : Addr) (kav : ClassId) (fav : Int32 → Value) (ae : Addr) (kae : ClassId) (fae : Int32 → Value) (tx : Addr) (ktx : ClassId) (ftx : Int32 → Value) (us : Value) (kg : ClassId) (fg : Int32 → Value) (h0 : Heap) (n0 : Nat) (Z0 : n0 ≤ h0.size) (E_o0 : Exa Z h0 o0 cA) (F_se : Fld Z h0 o0 cA "size" "I" (.int z0)) (F_sd : Fld Z h0 o0 cA "specified" "I" us) (F_th : Fld Z h0 o0 cA "textLength" "I" (.int z0)) (F_ix : Fld Z h0 o0 cA "index" "Ljava/util/Map;" .null) (Fan : Fld Z h0 o0 cA "names" cD (.ref an)) (B_an : Arf Z h0 an kan (.object cB) z16 fan) (Fav : Fld Z h0 o0 cA "values" cD (.ref av)) (B_av : Arf Z h0 av kav (.object cB) z16 fav) (Fae : Fld Z h0 o0 cA "ends" "[I" (.ref ae)) (B_ae : Arf Z h0 ae kae .int z16 fae) (Ftx : Fld Z h0 o0 cA "text" "[C" (.ref tx)) (B_tx : Arf Z h0 tx ktx .char z1024 ftx) (O_an : Ovr Z kan cB) (O_av : Ovr Z kav cB) (n_o0_an : o0 ≠ an) (n_o0_av : o0 ≠ av) (n_o0_ae : o0 ≠ ae) (n_o0_tx : o0 ≠ tx) (n_an_av : an ≠ av) (n_an_ae : an ≠ ae) (n_av_ae : av ≠ ae) (n_an_tx : an ≠ tx) (n_av_tx : av ≠ tx) (n_ae_tx : ae ≠ tx) (B_o2 : Arf Z h0 o2 kg .char z2048 fg) (E_o1 : Exa Z h0 o1 cB) (n_o2_an : o2 ≠ an) (n_o2_av : o2 ≠ av) (n_o2_ae : o2 ≠ ae) (n_o2_tx : o2 ≠ tx) (n_o0_o2 : o0 ≠ o2) (g_o0 : n0 ≤ o0) (g_an : n0 ≤ an) (g_av : n0 ≤ av) (g_ae : n0 ≤ ae) (hp0 : ¬ p4 < 0) (hp1 : p4.toNatClampNeg ≤ z2048.toNatClampNeg) (hp2 : p4.toNatClampNeg ≤ z2048.toNatClampNeg) (hp3 : ¬ (z2048 < (z0 + p4))) (hc12 : z1024 < (z0 + p4)) :
    MetFree l (⟨cA, "add", "(Ljava/lang/String;[CII)V"⟩ : MethodName) (head1 (Jvm.Cond.code (⟨cA, "add", "(Ljava/lang/String;[CII)V"⟩ : MethodName) prog_64_method_9_code 5 none :: ws) ({ frames := 2, cells := 1, slots := 2048, locals := 75 } : Room)) (fun a U => a = #[(.ref o0), (.ref o1), (.ref o2), (.int z0), (.int p4)] ∧ Z.Warmed39 U.vm ∧ U.heap = h0) (fun _ _ _ _ _ => True) (fun _ U o U' => ∃ v L, o = .returned v ∧ Q13b Z o0 o1 o2 p4 an kan fan av kav fav ae kae fae tx ktx ftx us kg fg h0 n0 v U'.heap L ∧ FrameEnd U o U' L ({ frames := 2, cells := 1, slots := 2048, locals := 75 } : Room).cells ({ frames := 2, cells := 1, slots := 2048, locals := 75 } : Room).slots) := by
  refine MetFree.of_bodySF (plainFor_of_name pn_13) hisR ?_
  intro p e s m args below meth c s₁ Bd hml0 hP hK
  obtain ⟨rfl, hZ, hh⟩ := hP
  have hx := Bd.exec
  have hby := Bd.bytes
  have hml : c.maxLocals = 5 := hml0
  have hown : s.vm.findClass cA = some m.cls := findClass_of_methodNamed Bd.named
  have hnm := (name_of_methodNamed Bd.named Bd.method).1
  have hrt := Bd.returns
  have hlk := Bd.notSynchronized
  have X0 : Stand p l e ({ frames := 2, cells := 1, slots := 2048, locals := 75 } : Room) s m #[(.ref o0), (.ref o1), (.ref o2), (.int z0), (.int p4)] below meth c s₁ [] 0 0 := Stand.of_body Bd
  have e0 : s₁.heap = h0 := by rw [← hh, Bd.state]; rfl
  have N0 := Fr.nil n0
  have lt_E_o0 : LT.lt (α := Nat) o0 h0.size := E_o0.lt
  have lt_B_an : LT.lt (α := Nat) an h0.size := B_an.lt
  have lt_B_av : LT.lt (α := Nat) av h0.size := B_av.lt
  have lt_B_ae : LT.lt (α := Nat) ae h0.size := B_ae.lt
  have lt_B_tx : LT.lt (α := Nat) tx h0.size := B_tx.lt
  have lt_B_o2 : LT.lt (α := Nat) o2 h0.size := B_o2.lt
  have lt_E_o1 : LT.lt (α := Nat) o1 h0.size := E_o1.lt
  show Go p e below s 1 2048 (Q13b Z o0 o1 o2 p4 an kan fan av kav fav ae kae fae tx ktx ftx us kg fg h0 n0) (s₁.setTop (entryFrame m #[(.ref o0), (.ref o1), (.ref o2), (.int z0), (.int p4)] 5))
  rw [ef_13b m o0 o1 o2 p4]
  refine Go.pre (st' := s₁.setTop (mkF m 1 #[sR o0, sR o1, sR o2, sI z0, sI p4] [(.ref o0)])) (fun target kt => ?_) ?_
  · refine XS.aloadN X0.here hx rfl (hb hby d13_0) rfl rfl ?_
    exact kt
  obtain ⟨T1, X1, e1, st1⟩ := getF X0 hx hZ hown (host := "") (Or.inl (ow hw 59 rfl)) Via.refl e0 F_th (g := (mkF m 1 #[sR o0, sR o1, sR o2, sI z0, sI p4] [(.ref o0)])) rfl rfl (hb hby d13_1)
  refine Go.pre st1 ?_
  refine Go.pre (st' := T1.setTop (mkF m 8 #[sR o0, sR o1, sR o2, sI z0, sI p4] [(.ref o0), (.int (z0 + p4))])) (fun target kt => ?_) ?_
  · refine XS.iload X1.here hx rfl (hb hby d13_4) rfl ?_
    refine XS.iadd X1.here hx rfl (hb hby d13_6) rfl ?_
    refine XS.aloadN X1.here hx rfl (hb hby d13_7) rfl rfl ?_
    exact kt
  obtain ⟨T2, X2, e2, st2⟩ := getF X1 hx hZ hown (host := "") (Or.inl (ow hw 43 rfl)) Via.refl e1 Ftx (g := (mkF m 8 #[sR o0, sR o1, sR o2, sI z0, sI p4] [(.ref o0), (.int (z0 + p4))])) rfl rfl (hb hby d13_8)
  refine Go.pre st2 ?_
  obtain ⟨cl3, Ar3, -, Sz3, Nn3, -⟩ := id B_tx
  have st3 := X2.arraylength hx (by rw [e2]; exact Ar3.1) (State.isArrayOf_alike hZ.alike Ar3.2.1) (g := (mkF m 11 #[sR o0, sR o1, sR o2, sI z0, sI p4] [(.ref tx), (.int (z0 + p4))])) rfl rfl (hb hby d13_11)
  rw [len_of Sz3 Nn3] at st3
  refine Go.pre st3 ?_
  refine Go.pre (st' := T2.setTop (mkF m 17 #[sR o0, sR o1, sR o2, sI z0, sI p4] [(.ref o0), (.ref o0)])) (fun target kt => ?_) ?_
  · refine XS.icmpNo X2.here hx rfl (hb hby d13_12) rfl (tlt hc12).2.2.2 ?_
    refine XS.aloadN X2.here hx rfl (hb hby d13_15) rfl rfl ?_
    refine XS.aloadN X2.here hx rfl (hb hby d13_16) rfl rfl ?_
    exact kt
  obtain ⟨T4, X4, e4, st4⟩ := getF X2 hx hZ hown (host := "") (Or.inl (ow hw 43 rfl)) Via.refl e2 Ftx (g := (mkF m 17 #[sR o0, sR o1, sR o2, sI z0, sI p4] [(.ref o0), (.ref o0)])) rfl rfl (hb hby d13_17)
  refine Go.pre st4 ?_
  refine Go.pre (st' := T4.setTop (mkF m 21 #[sR o0, sR o1, sR o2, sI z0, sI p4] [(.ref o0), (.ref tx), (.ref o0)])) (fun target kt => ?_) ?_
  · refine XS.aloadN X4.here hx rfl (hb hby d13_20) rfl rfl ?_
    exact kt
  obtain ⟨T5, X5, e5, st5⟩ := getF X4 hx hZ hown (host := "") (Or.inl (ow hw 43 rfl)) Via.refl e4 Ftx (g := (mkF m 21 #[sR o0, sR o1, sR o2, sI z0, sI p4] [(.ref o0), (.ref tx), (.ref o0)])) rfl rfl (hb hby d13_21)
  refine Go.pre st5 ?_
  obtain ⟨cl6, Ar6, -, Sz6, Nn6, -⟩ := id B_tx
  have st6 := X5.arraylength hx (by rw [e5]; exact Ar6.1) (State.isArrayOf_alike hZ.alike Ar6.2.1) (g := (mkF m 24 #[sR o0, sR o1, sR o2, sI z0, sI p4] [(.ref tx), (.ref tx), (.ref o0)])) rfl rfl (hb hby d13_24)
  rw [len_of Sz6 Nn6] at st6
  refine Go.pre st6 ?_
  refine Go.pre (st' := T5.setTop (mkF m 28 #[sR o0, sR o1, sR o2, sI z0, sI p4] [(.ref o0), (.int z2048), (.ref tx), (.ref o0)])) (fun target kt => ?_) ?_
  · refine XS.iconst X5.here hx rfl (hb hby d13_25) ?_
    refine XS.imul X5.here hx rfl (hb hby d13_26) rfl ?_
    refine XS.aloadN X5.here hx rfl (hb hby d13_27) rfl rfl ?_
    exact kt
  obtain ⟨T7, X7, e7, st7⟩ := getF X5 hx hZ hown (host := "") (Or.inl (ow hw 59 rfl)) Via.refl e5 F_th (g := (mkF m 28 #[sR o0, sR o1, sR o2, sI z0, sI p4] [(.ref o0), (.int z2048), (.ref tx), (.ref o0)])) rfl rfl (hb hby d13_28)
  refine Go.pre st7 ?_
  refine Go.pre (st' := T7.setTop (mkF m 34 #[sR o0, sR o1, sR o2, sI z0, sI p4] [(.int (z0 + p4)), (.int z2048), (.ref tx), (.ref o0)])) (fun target kt => ?_) ?_
  · refine XS.iload X7.here hx rfl (hb hby d13_31) rfl ?_
    refine XS.iadd X7.here hx rfl (hb hby d13_33) rfl ?_
    exact kt
  obtain ⟨_, _, ⟨T8, L8, k8, n8⟩, -, X8, ⟨Lc8, hQ8, l8, y8, z8⟩, st8⟩ := Jvm.LawKit.callS X7 hx (y := (⟨"java/lang/Math", "max", "(II)I"⟩ : MethodName)) hown (mvT hZ (ow hw 153 rfl)) (mvT hZ (ow hw 154 rfl)) (mvT hZ (ow hw 155 rfl)) (mvT hZ (ow hw 156 rfl)) (by decide) (backOf (W := 2) (rm27 l Z a0 hw [] (z0 + p4) h0 n0 (by omega) (by first | assumption | decide)) hZ (ow hw 156 rfl) (ow hw 155 rfl) (by decide) (by decide)) (g := (mkF m 34 #[sR o0, sR o1, sR o2, sI z0, sI p4] [(.int (z0 + p4)), (.int z2048), (.ref tx), (.ref o0)])) rfl (by rw [hml]; rfl) (argsL := [(.int z2048), (.int (z0 + p4))]) (rest := [(.ref tx), (.ref o0)]) (lenOf pd13b_0 rfl) rfl (le0 rfl) (hb hby d13_34) (fun vm₁ hvm => ⟨rfl, e7, (by decide : 0 + 0 ≤ _), (by decide : 0 + 0 ≤ _)⟩)
  dsimp only [Pt.U, Pt.locs, Pt.cells, Pt.slots] at X8 l8 y8 z8 st8 hQ8
  subst l8 y8 z8
  obtain ⟨rfl, N8q, e8⟩ := hQ8
  have N8 := Fr.app N0 N8q
  refine Go.pre st8 ?_
  obtain ⟨_, _, ⟨T9, L9, k9, n9⟩, -, X9, ⟨Lc9, hQ9, l9, y9, z9⟩, st9⟩ := Jvm.LawKit.callS X8 hx (y := (⟨"java/util/Arrays", "copyOf", "([CI)[C"⟩ : MethodName)) hown (mvT hZ (ow hw 157 rfl)) (mvT hZ (ow hw 158 rfl)) (mvT hZ (ow hw 159 rfl)) (mvT hZ (ow hw 160 rfl)) (by decide) (backOf (W := 1) (rm28 l Z a0 hw [] tx ktx ftx h0 n0 (by omega) B_tx) hZ (ow hw 160 rfl) (ow hw 159 rfl) (by decide) (by decide)) (g := (mkF m 37 #[sR o0, sR o1, sR o2, sI z0, sI p4] [(.int z2048), (.ref tx), (.ref o0)])) rfl (by rw [hml]; rfl) (argsL := [(.ref tx), (.int z2048)]) (rest := [(.ref o0)]) (lenOf pd13b_1 rfl) rfl (le0 rfl) (hb hby d13_37) (fun vm₁ hvm => ⟨rfl, e8, (by decide : 0 + 1 ≤ _), (by decide : 0 + 2048 ≤ _)⟩)
  dsimp only [Pt.U, Pt.locs, Pt.cells, Pt.slots] at X9 l9 y9 z9 st9 hQ9
  subst l9 y9 z9
  obtain ⟨b9_0, k9_0, rfl, N9q, K9, KF9, gb9_0, ltb9_0, Y9_0⟩ := hQ9
  have sz9 : h0.size ≤ T9.heap.size := K9.1
  have N9 := Fr.app N8 N9q
  refine Go.pre st9 ?_
  have Y10 := (Ftx.keep K9 nin0)
  have Y11 := (E_o0.keep K9)
  obtain ⟨T12, h12, X12, e12, W12, st12⟩ := putF X9 hx hZ hown (host := "") (Or.inl (ow hw 43 rfl)) Via.refl rfl Y10 Y11 (Or.inl (ow hw 44 rfl)) (ow hw 28 rfl) (ty := (.array .char)) (by decide) rfl rfl (g := (mkF m 40 #[sR o0, sR o1, sR o2, sI z0, sI p4] [(.ref b9_0), (.ref o0)])) rfl rfl (hb hby d13_40)
  have sz12 : T9.heap.size ≤ h12.size := (Keep.of_wr W12).1
  have Y13 : Fld Z h12 o0 cA "text" "[C" (.ref b9_0) := Y10.same W12
  have N12 := Fr.snoc X12 N9 (by omega)
  refine Go.pre st12 ?_
  refine Go.pre (st' := T12.setTop (mkF m 46 #[sR o0, sR o1, sR o2, sI z0, sI p4] [(.ref o0), (.int z0), (.ref o2)])) (fun target kt => ?_) ?_
  · refine XS.aloadN X12.here hx rfl (hb hby d13_43) rfl rfl ?_
    refine XS.iloadN X12.here hx rfl (hb hby d13_44) rfl ?_
    refine XS.aloadN X12.here hx rfl (hb hby d13_45) rfl rfl ?_
    exact kt
  obtain ⟨T14, X14, e14, st14⟩ := getF X12 hx hZ hown (host := "") (Or.inl (ow hw 43 rfl)) Via.refl e12 Y13 (g := (mkF m 46 #[sR o0, sR o1, sR o2, sI z0, sI p4] [(.ref o0), (.int z0), (.ref o2)])) rfl rfl (hb hby d13_46)
  refine Go.pre st14 ?_
  refine Go.pre (st' := T14.setTop (mkF m 50 #[sR o0, sR o1, sR o2, sI z0, sI p4] [(.ref o0), (.ref b9_0), (.int z0), (.ref o2)])) (fun target kt => ?_) ?_
  · refine XS.aloadN X14.here hx rfl (hb hby d13_49) rfl rfl ?_
    exact kt
  have Y15 := ((F_th.keep K9 nin0).other W12 (Or.inr (slot_ne (Or.inl (ow hw 60 rfl)) (Or.inl (ow hw 44 rfl)) (by decide) (t := .int) (t' := (.array .char)) (by decide) (by decide))))
  obtain ⟨T16, X16, e16, st16⟩ := getF X14 hx hZ hown (host := "") (Or.inl (ow hw 59 rfl)) Via.refl e14 Y15 (g := (mkF m 50 #[sR o0, sR o1, sR o2, sI z0, sI p4] [(.ref o0), (.ref b9_0), (.int z0), (.ref o2)])) rfl rfl (hb hby d13_50)
  refine Go.pre st16 ?_
  refine Go.pre (st' := T16.setTop (mkF m 55 #[sR o0, sR o1, sR o2, sI z0, sI p4] [(.int p4), (.int z0), (.ref b9_0), (.int z0), (.ref o2)])) (fun target kt => ?_) ?_
  · refine XS.iload X16.here hx rfl (hb hby d13_53) rfl ?_
    exact kt
  have Y18 := ((B_o2.keep K9 nin0).other W12 (Ne.symm n_o0_o2))
  have Y19 := (Y9_0.other W12 (neN (by omega)))
  obtain ⟨T17, h17, L17, X17, e17, N17, K17, V17, st17⟩ := cpF X16 hx hZ hown (ow hw 91 rfl) (ow hw 94 rfl) (ow hw 92 rfl) (ow hw 93 rfl) e16 Y18 Y19 rfl (nn := p4) hp0 hp1 hp2 N12 (by omega) (g := (mkF m 55 #[sR o0, sR o1, sR o2, sI z0, sI p4] [(.int p4), (.int z0), (.ref b9_0), (.int z0), (.ref o2)])) rfl (by rw [hml]; rfl) rfl (hb hby d13_55) (by decide) (W := 0) (le0 rfl) (by decide)
  have sz17 : h12.size ≤ h17.size := K17.1
  refine Go.pre st17 ?_
  refine Go.pre (st' := T17.setTop (mkF m 60 #[sR o0, sR o1, sR o2, sI z0, sI p4] [(.ref o0), (.ref o0)])) (fun target kt => ?_) ?_
  · refine XS.aloadN X17.here hx rfl (hb hby d13_58) rfl rfl ?_
    refine XS.dup X17.here hx rfl (hb hby d13_59) rfl rfl ?_
    exact kt
  have Y20 := (Y15.keep K17 (ninS (neN (by omega)) nin0))
  obtain ⟨T21, X21, e21, st21⟩ := getF X17 hx hZ hown (host := "") (Or.inl (ow hw 59 rfl)) Via.refl e17 Y20 (g := (mkF m 60 #[sR o0, sR o1, sR o2, sI z0, sI p4] [(.ref o0), (.ref o0)])) rfl rfl (hb hby d13_60)
  refine Go.pre st21 ?_
  refine Go.pre (st' := T21.setTop (mkF m 66 #[sR o0, sR o1, sR o2, sI z0, sI p4] [(.int (z0 + p4)), (.ref o0)])) (fun target kt => ?_) ?_
  · refine XS.iload X21.here hx rfl (hb hby d13_63) rfl ?_
    refine XS.iadd X21.here hx rfl (hb hby d13_65) rfl ?_
    exact kt
  have Y22 := ((Y11.wr W12).keep K17)
  obtain ⟨T23, h23, X23, e23, W23, st23⟩ := putF X21 hx hZ hown (host := "") (Or.inl (ow hw 59 rfl)) Via.refl e21 Y20 Y22 (Or.inl (ow hw 60 rfl)) (ow hw 28 rfl) (ty := .int) (by decide) rfl rfl (g := (mkF m 66 #[sR o0, sR o1, sR o2, sI z0, sI p4] [(.int (z0 + p4)), (.ref o0)])) rfl rfl (hb hby d13_66)
  have sz23 : h17.size ≤ h23.size := (Keep.of_wr W23).1
  have Y24 : Fld Z h23 o0 cA "textLength" "I" (.int (z0 + p4)) := Y20.same W23
  have N23 := Fr.snoc X23 N17 (by omega)
  refine Go.pre st23 ?_
  refine Go.pre (st' := T23.setTop (mkF m 72 #[sR o0, sR o1, sR o2, sI z0, sI p4] [.null, (.ref o1), (.ref o0)])) (fun target kt => ?_) ?_
  · refine XS.aloadN X23.here hx rfl (hb hby d13_69) rfl rfl ?_
    refine XS.aloadN X23.here hx rfl (hb hby d13_70) rfl rfl ?_
    refine XS.aconstNull X23.here hx rfl (hb hby d13_71) ?_
    exact kt
  have Y26 := (Y22.wr W23)
  have Y27 := ((((F_se.keep K9 nin0).other W12 (Or.inr (slot_ne (Or.inl (ow hw 58 rfl)) (Or.inl (ow hw 44 rfl)) (by decide) (t := .int) (t' := (.array .char)) (by decide) (by decide)))).keep K17 (ninS (neN (by omega)) nin0)).other W23 (Or.inr (slot_ne (Or.inl (ow hw 58 rfl)) (Or.inl (ow hw 60 rfl)) (by decide) (t := .int) (t' := .int) (by decide) (by decide))))
  have Y28 := ((((F_sd.keep K9 nin0).other W12 (Or.inr (slot_ne (Or.inl (ow hw 64 rfl)) (Or.inl (ow hw 44 rfl)) (by decide) (t := .int) (t' := (.array .char)) (by decide) (by decide)))).keep K17 (ninS (neN (by omega)) nin0)).other W23 (Or.inr (slot_ne (Or.inl (ow hw 64 rfl)) (Or.inl (ow hw 60 rfl)) (by decide) (t := .int) (t' := .int) (by decide) (by decide))))
  have Y29 := ((((F_ix.keep K9 nin0).other W12 (Or.inr (slot_ne (Or.inl (ow hw 62 rfl)) (Or.inl (ow hw 44 rfl)) (by decide) (t := (.object "java/util/Map")) (t' := (.array .char)) (by decide) (by decide)))).keep K17 (ninS (neN (by omega)) nin0)).other W23 (Or.inr (slot_ne (Or.inl (ow hw 62 rfl)) (Or.inl (ow hw 60 rfl)) (by decide) (t := (.object "java/util/Map")) (t' := .int) (by decide) (by decide))))
  have Y30 := ((((Fan.keep K9 nin0).other W12 (Or.inr (slot_ne (Or.inl (ow hw 37 rfl)) (Or.inl (ow hw 44 rfl)) (by decide) (t := (.array (.object cB))) (t' := (.array .char)) (by decide) (by decide)))).keep K17 (ninS (neN (by omega)) nin0)).other W23 (Or.inr (slot_ne (Or.inl (ow hw 37 rfl)) (Or.inl (ow hw 60 rfl)) (by decide) (t := (.array (.object cB))) (t' := .int) (by decide) (by decide))))
  have Y31 := ((((B_an.keep K9 nin0).other W12 (Ne.symm n_o0_an)).keep K17 (ninS (neN (by omega)) nin0)).other W23 (Ne.symm n_o0_an))
  have Y32 := ((((Fav.keep K9 nin0).other W12 (Or.inr (slot_ne (Or.inl (ow hw 39 rfl)) (Or.inl (ow hw 44 rfl)) (by decide) (t := (.array (.object cB))) (t' := (.array .char)) (by decide) (by decide)))).keep K17 (ninS (neN (by omega)) nin0)).other W23 (Or.inr (slot_ne (Or.inl (ow hw 39 rfl)) (Or.inl (ow hw 60 rfl)) (by decide) (t := (.array (.object cB))) (t' := .int) (by decide) (by decide))))
  have Y33 := ((((B_av.keep K9 nin0).other W12 (Ne.symm n_o0_av)).keep K17 (ninS (neN (by omega)) nin0)).other W23 (Ne.symm n_o0_av))
  have Y34 := ((((Fae.keep K9 nin0).other W12 (Or.inr (slot_ne (Or.inl (ow hw 42 rfl)) (Or.inl (ow hw 44 rfl)) (by decide) (t := (.array .int)) (t' := (.array .char)) (by decide) (by decide)))).keep K17 (ninS (neN (by omega)) nin0)).other W23 (Or.inr (slot_ne (Or.inl (ow hw 42 rfl)) (Or.inl (ow hw 60 rfl)) (by decide) (t := (.array .int)) (t' := .int) (by decide) (by decide))))
  have Y35 := ((((B_ae.keep K9 nin0).other W12 (Ne.symm n_o0_ae)).keep K17 (ninS (neN (by omega)) nin0)).other W23 (Ne.symm n_o0_ae))
  have Y36 := ((Y13.keep K17 (ninS (neN (by omega)) nin0)).other W23 (Or.inr (slot_ne (Or.inl (ow hw 44 rfl)) (Or.inl (ow hw 60 rfl)) (by decide) (t := (.array .char)) (t' := .int) (by decide) (by decide))))
  have Y37 := ((((E_o1.keep K9).wr W12).keep K17).wr W23)
  obtain ⟨cq25, q25, q25'⟩ := Y26.cell
  obtain ⟨_, _, ⟨T25, L25, k25, n25⟩, -, X25, ⟨Lc25, hQ25, l25, y25, z25⟩, st25⟩ := X23.privateBack hx (y := (⟨cA, "append", cC⟩ : MethodName)) hown (mvT hZ (ow hw 53 rfl)) (mvT hZ (ow hw 54 rfl)) (mvT hZ (selects_private (y := (⟨cA, "append", cC⟩ : MethodName)) (ow hw 28 rfl) (ow hw 55 rfl) (ow hw 54 rfl))) (Cond.privateMethod_at (mvP hZ (ow hw 55 rfl) (args := #[]))) (mvT hZ (ow hw 56 rfl)) (by decide) (backOf (W := 0) (rm8_0N_0 l Z a0 hw [] o0 o1 an kan fan av kav fav ae kae fae b9_0 us (z0 + p4) h23 n0 (by omega) Y26 Y27 Y28 Y24 Y29 Y30 Y31 Y32 Y33 Y34 Y35 Y36 O_an O_av n_o0_an n_o0_av n_o0_ae n_an_av n_an_ae n_av_ae Y37 (by omega) (by omega) (by omega) (by omega)) hZ (ow hw 56 rfl) (ow hw 29 rfl) (by decide) (by decide)) (g := (mkF m 72 #[sR o0, sR o1, sR o2, sI z0, sI p4] [.null, (.ref o1), (.ref o0)])) rfl (by rw [hml]; rfl) (Steps.refl _) (a := o0) (by rw [e23]; exact q25) q25' (argsL := [(.ref o1), .null]) (rest := []) (lenOf pd13b_2 rfl) rfl (le0 rfl) (hb hby d13_72) (fun vm₁ hvm => ⟨rfl, e23, (by decide : 1 + 0 ≤ _), (by decide : 2048 + 0 ≤ _)⟩)
  dsimp only [Pt.U, Pt.locs, Pt.cells, Pt.slots] at X25 l25 y25 z25 st25 hQ25
  subst l25 y25 z25
  obtain ⟨rfl, N25q, K25, KF25, Y25_0, Y25_1, Y25_2, Y25_3, Y25_4, Y25_5, Y25_6, Y25_7, Y25_8, Y25_9, Y25_10⟩ := hQ25
  have sz25 : h23.size ≤ T25.heap.size := K25.1
  have N25 := Fr.app N23 N25q
  refine Go.trans st25 ?_
  refine Go.pre (st' := T25.setTop (mkF m 77 #[sR o0, sR o1, sR o2, sI z0, sI p4] [(.ref o0), (.ref o0)])) (fun target kt => ?_) ?_
  · refine XS.aloadN X25.here hx rfl (hb hby d13_75) rfl rfl ?_
    refine XS.aloadN X25.here hx rfl (hb hby d13_76) rfl rfl ?_
    exact kt
  obtain ⟨T38, X38, e38, st38⟩ := getF X25 hx hZ hown (host := "") (Or.inl (ow hw 57 rfl)) Via.refl rfl Y25_3 (g := (mkF m 77 #[sR o0, sR o1, sR o2, sI z0, sI p4] [(.ref o0), (.ref o0)])) rfl rfl (hb hby d13_77)
  refine Go.pre st38 ?_
  have Y39 := (Y26.keep K25)
  obtain ⟨T40, h40, X40, e40, W40, st40⟩ := putF X38 hx hZ hown (host := "") (Or.inl (ow hw 63 rfl)) Via.refl e38 Y25_4 Y39 (Or.inl (ow hw 64 rfl)) (ow hw 28 rfl) (ty := .int) (by decide) rfl rfl (g := (mkF m 80 #[sR o0, sR o1, sR o2, sI z0, sI p4] [(.int z1), (.ref o0)])) rfl rfl (hb hby d13_80)
  have sz40 : T25.heap.size ≤ h40.size := (Keep.of_wr W40).1
  have Y41 : Fld Z h40 o0 cA "specified" "I" (.int z1) := Y25_4.same W40
  have N40 := Fr.snoc X40 N25 (by omega)
  refine Go.pre st40 ?_
  have Y42 := (Y25_3.other W40 (Or.inr (slot_ne (Or.inl (ow hw 58 rfl)) (Or.inl (ow hw 64 rfl)) (by decide) (t := .int) (t' := .int) (by decide) (by decide))))
  have Y43 := (Y25_5.other W40 (Or.inr (slot_ne (Or.inl (ow hw 60 rfl)) (Or.inl (ow hw 64 rfl)) (by decide) (t := .int) (t' := .int) (by decide) (by decide))))
  have Y44 := (Y25_6.other W40 (Or.inr (slot_ne (Or.inl (ow hw 62 rfl)) (Or.inl (ow hw 64 rfl)) (by decide) (t := (.object "java/util/Map")) (t' := .int) (by decide) (by decide))))
  have Y45 := (Y25_7.other W40 (Or.inr (slot_ne (Or.inl (ow hw 37 rfl)) (Or.inl (ow hw 64 rfl)) (by decide) (t := (.array (.object cB))) (t' := .int) (by decide) (by decide))))
  have Y46 := (Y25_8.other W40 (Or.inr (slot_ne (Or.inl (ow hw 39 rfl)) (Or.inl (ow hw 64 rfl)) (by decide) (t := (.array (.object cB))) (t' := .int) (by decide) (by decide))))
  have Y47 := (Y25_9.other W40 (Or.inr (slot_ne (Or.inl (ow hw 42 rfl)) (Or.inl (ow hw 64 rfl)) (by decide) (t := (.array .int)) (t' := .int) (by decide) (by decide))))
  have Y48 := (Y25_10.other W40 (Or.inr (slot_ne (Or.inl (ow hw 44 rfl)) (Or.inl (ow hw 64 rfl)) (by decide) (t := (.array .char)) (t' := .int) (by decide) (by decide))))
  have Y49 := (Y25_0.other W40 (Ne.symm n_o0_an))
  have Y50 := (Y25_1.other W40 (Ne.symm n_o0_av))
  have Y51 := (Y25_2.other W40 (Ne.symm n_o0_ae))
  have Y52 := (((V17.other W23 (neN (by omega))).keep K25 (ninS (neN (by omega)) (ninS (neN (by omega)) (ninS (neN (by omega)) (ninS (neN (by omega)) nin0))))).other W40 (neN (by omega)))
  exact Go.ret0 X40 hx hlk hrt (hb hby d13_83) (by decide) (by decide) (by rw [e40]; exact ⟨b9_0, k9_0, rfl, N40, (((((((Keep.refl h0 [o0, an, av, ae]).trans K9 all0).wr W12 (Or.inl (List.mem_of_getElem? (i := 0) rfl))).trans K17 (allS (Or.inr (by omega)) all0)).wr W23 (Or.inl (List.mem_of_getElem? (i := 0) rfl))).trans K25 (allS (Or.inl (List.mem_of_getElem? (i := 1) rfl)) (allS (Or.inl (List.mem_of_getElem? (i := 2) rfl)) (allS (Or.inl (List.mem_of_getElem? (i := 3) rfl)) (allS (Or.inl (List.mem_of_getElem? (i := 0) rfl)) all0))))).wr W40 (Or.inl (List.mem_of_getElem? (i := 0) rfl))), trivial, by omega, by omega, Y42, Y41, Y43, Y44, Y45, Y46, Y47, Y48, Y49, Y50, Y51, Y52⟩)
/-! Attributes.add (13_0) -/
theorem pd13_0_0 : parseMethodDescriptor "(Ljava/lang/String;Ljava/lang/String;)V" = some ⟨[(.object "java/lang/String"), (.object "java/lang/String")], none⟩ := by decide +kernel
theorem ef_13_0 (m : MethodId) (o0 : Addr) (o1 : Addr) (o2 : Addr) : entryFrame m #[(.ref o0), (.ref o1), (.ref o2), (.int (0 : Int32)), (.int (0 : Int32))] 5 = (mkF m 0 #[.val (.ref o0), .val (.ref o1), .val (.ref o2), .val (.int (0 : Int32)), .val (.int (0 : Int32))] []) := by first | (simp [entryFrame, mkF, argsToLocals, Value.category]; done) | rfl
def Q13_0 (Z : State) (o0 : Addr) (o1 : Addr) (o2 : Addr) (an : Addr) (kan : ClassId) (fan : Int32 → Value) (av : Addr) (kav : ClassId) (fav : Int32 → Value) (ae : Addr) (kae : ClassId) (fae : Int32 → Value) (tx : Addr) (ktx : ClassId) (ftx : Int32 → Value) (us : Value) (kg : ClassId) (c0 : Int32) (c1 : Int32) (h0 : Heap) (n0 : Nat) (v : Option Value) (h : Heap) (L : List Loc) : Prop := v = none ∧ Fr n0 L ∧ Keep h0 h [tx, o0, an, av, ae] ∧ True ∧ Arf Z h tx ktx .char z1024 (own_cp (own_lf [(.int c0), (.int c1)] (.int z0)) ftx z0) ∧ Fld Z h o0 cA "size" "I" (.int z1) ∧ Fld Z h o0 cA "specified" "I" (.int z1) ∧ Fld Z h o0 cA "textLength" "I" (.int z0) ∧ Fld Z h o0 cA "index" "Ljava/util/Map;" .null ∧ Fld Z h o0 cA "names" cD (.ref an) ∧ Fld Z h o0 cA "values" cD (.ref av) ∧ Fld Z h o0 cA "ends" "[I" (.ref ae) ∧ Fld Z h o0 cA "text" "[C" (.ref tx) ∧ Arf Z h an kan (.object cB) z16 (own_upd fan z0 (.ref o1)) ∧ Arf Z h av kav (.object cB) z16 (own_upd fav z0 .null) ∧ Arf Z h ae kae .int z16 (own_upd fae z0 (.int z0))
theorem rm13_0 (l : Launch) (Z : State) (a0 : Array Value) (hw : ∀ d ∈ tables_1, d.before a0 Z = true) (ws : List Jvm.Cond) (o0 : Addr) (o1 : Addr) (o2 : Addr) (an : Addr) (kan : ClassId) (fan : Int32 → Value) (av : Addr) (kav : ClassId) (fav : Int32 → Value) (ae : Addr) (kae : ClassId) (fae : Int32 → Value) (tx : Addr) (ktx : ClassId) (ftx : Int32 → Value) (us : Value) (kg : ClassId) (c0 : Int32) (c1 : Int32) (h0 : Heap) (n0 : Nat) (Z0 : n0 ≤ h0.size) (E_o0 : Exa Z h0 o0 cA) (F_se : Fld Z h0 o0 cA "size" "I" (.int z0)) (F_sd : Fld Z h0 o0 cA "specified" "I" us) (F_th : Fld Z h0 o0 cA "textLength" "I" (.int z0)) (F_ix : Fld Z h0 o0 cA "index" "Ljava/util/Map;" .null) (Fan : Fld Z h0 o0 cA "names" cD (.ref an)) (B_an : Arf Z h0 an kan (.object cB) z16 fan) (Fav : Fld Z h0 o0 cA "values" cD (.ref av)) (B_av : Arf Z h0 av kav (.object cB) z16 fav) (Fae : Fld Z h0 o0 cA "ends" "[I" (.ref ae)) (B_ae : Arf Z h0 ae kae .int z16 fae) (Ftx : Fld Z h0 o0 cA "text" "[C" (.ref tx)) (B_tx : Arf Z h0 tx ktx .char z1024 ftx) (O_an : Ovr Z kan cB) (O_av : Ovr Z kav cB) (n_o0_an : o0 ≠ an) (n_o0_av : o0 ≠ av) (n_o0_ae : o0 ≠ ae) (n_o0_tx : o0 ≠ tx) (n_an_av : an ≠ av) (n_an_ae : an ≠ ae) (n_av_ae : av ≠ ae) (n_an_tx : an ≠ tx) (n_av_tx : av ≠ tx) (n_ae_tx : ae ≠ tx) (A_o2 : Arv Z h0 o2 kg .char z2 [(.int c0), (.int c1)] (.int z0)) (E_o1 : Exa Z h0 o1 cB) (n_o2_an : o2 ≠ an) (n_o2_av : o2 ≠ av) (n_o2_ae : o2 ≠ ae) (n_o2_tx : o2 ≠ tx) (n_o0_o2 : o0 ≠ o2) (g_tx : n0 ≤ tx) (g_o0 : n0 ≤ o0) (g_an : n0 ≤ an) (g_av : n0 ≤ av) (g_ae : n0 ≤ ae) :
    MetFree l (⟨cA, "add", "(Ljava/lang/String;[CII)V"⟩ : MethodName) (head1 (Jvm.Cond.code (⟨cA, "add", "(Ljava/lang/String;[CII)V"⟩ : MethodName) prog_64_method_9_code 5 none :: ws) ({ frames := 1, cells := 0, slots := 0, locals := 60 } : Room)) (fun a U => a = #[(.ref o0), (.ref o1), (.ref o2), (.int z0), (.int z0)] ∧ Z.Warmed39 U.vm ∧ U.heap = h0) (fun _ _ _ _ _ => True) (fun _ U o U' => ∃ v L, o = .returned v ∧ Q13_0 Z o0 o1 o2 an kan fan av kav fav ae kae fae tx ktx ftx us kg c0 c1 h0 n0 v U'.heap L ∧ FrameEnd U o U' L ({ frames := 1, cells := 0, slots := 0, locals := 60 } : Room).cells ({ frames := 1, cells := 0, slots := 0, locals := 60 } : Room).slots) := by
  refine MetFree.of_bodySF (plainFor_of_name pn_13) hisR ?_
  intro p e s m args below meth c s₁ Bd hml0 hP hK
  obtain ⟨rfl, hZ, hh⟩ := hP
  have hx := Bd.exec
  have hby := Bd.bytes
  have hml : c.maxLocals = 5 := hml0
  have hown : s.vm.findClass cA = some m.cls := findClass_of_methodNamed Bd.named
  have hnm := (name_of_methodNamed Bd.named Bd.method).1
  have hrt := Bd.returns
  have hlk := Bd.notSynchronized
  have X0 : Stand p l e ({ frames := 1, cells := 0, slots := 0, locals := 60 } : Room) s m #[(.ref o0), (.ref o1), (.ref o2), (.int z0), (.int z0)] below meth c s₁ [] 0 0 := Stand.of_body Bd
  have e0 : s₁.heap = h0 := by rw [← hh, Bd.state]; rfl
  have N0 := Fr.nil n0
  have lt_E_o0 : LT.lt (α := Nat) o0 h0.size := E_o0.lt
  have lt_B_an : LT.lt (α := Nat) an h0.size := B_an.lt
  have lt_B_av : LT.lt (α := Nat) av h0.size := B_av.lt
  have lt_B_ae : LT.lt (α := Nat) ae h0.size := B_ae.lt
  have lt_B_tx : LT.lt (α := Nat) tx h0.size := B_tx.lt
  have lt_A_o2 : LT.lt (α := Nat) o2 h0.size := A_o2.lt
  have lt_E_o1 : LT.lt (α := Nat) o1 h0.size := E_o1.lt
  show Go p e below s 0 0 (Q13_0 Z o0 o1 o2 an kan fan av kav fav ae kae fae tx ktx ftx us kg c0 c1 h0 n0) (s₁.setTop (entryFrame m #[(.ref o0), (.ref o1), (.ref o2), (.int z0), (.int z0)] 5))
  rw [ef_13_0 m o0 o1 o2]
  refine Go.pre (st' := s₁.setTop (mkF m 1 #[sR o0, sR o1, sR o2, sI z0, sI z0] [(.ref o0)])) (fun target kt => ?_) ?_
  · refine XS.aloadN X0.here hx rfl (hb hby d13_0) rfl rfl ?_
    exact kt
  obtain ⟨T1, X1, e1, st1⟩ := getF X0 hx hZ hown (host := "") (Or.inl (ow hw 59 rfl)) Via.refl e0 F_th (g := (mkF m 1 #[sR o0, sR o1, sR o2, sI z0, sI z0] [(.ref o0)])) rfl rfl (hb hby d13_1)
  refine Go.pre st1 ?_
  refine Go.pre (st' := T1.setTop (mkF m 8 #[sR o0, sR o1, sR o2, sI z0, sI z0] [(.ref o0), (.int z0)])) (fun target kt => ?_) ?_
  · refine XS.iload X1.here hx rfl (hb hby d13_4) rfl ?_
    refine XS.iadd X1.here hx rfl (hb hby d13_6) rfl ?_
    refine XS.aloadN X1.here hx rfl (hb hby d13_7) rfl rfl ?_
    exact kt
  obtain ⟨T2, X2, e2, st2⟩ := getF X1 hx hZ hown (host := "") (Or.inl (ow hw 43 rfl)) Via.refl e1 Ftx (g := (mkF m 8 #[sR o0, sR o1, sR o2, sI z0, sI z0] [(.ref o0), (.int z0)])) rfl rfl (hb hby d13_8)
  refine Go.pre st2 ?_
  obtain ⟨cl3, Ar3, -, Sz3, Nn3, -⟩ := id B_tx
  have st3 := X2.arraylength hx (by rw [e2]; exact Ar3.1) (State.isArrayOf_alike hZ.alike Ar3.2.1) (g := (mkF m 11 #[sR o0, sR o1, sR o2, sI z0, sI z0] [(.ref tx), (.int z0)])) rfl rfl (hb hby d13_11)
  rw [len_of Sz3 Nn3] at st3
  refine Go.pre st3 ?_
  refine Go.pre (st' := T2.setTop (mkF m 46 #[sR o0, sR o1, sR o2, sI z0, sI z0] [(.ref o0), (.int z0), (.ref o2)])) (fun target kt => ?_) ?_
  · refine XS.icmpYes X2.here hx rfl (pc0 := 12) (pc' := 43) rfl (hb hby d13_12) rfl (flt (by decide)).2.2.2 (by decide) (by decide) ?_
    refine XS.aloadN X2.here hx rfl (hb hby d13_43) rfl rfl ?_
    refine XS.iloadN X2.here hx rfl (hb hby d13_44) rfl ?_
    refine XS.aloadN X2.here hx rfl (hb hby d13_45) rfl rfl ?_
    exact kt
  obtain ⟨T4, X4, e4, st4⟩ := getF X2 hx hZ hown (host := "") (Or.inl (ow hw 43 rfl)) Via.refl e2 Ftx (g := (mkF m 46 #[sR o0, sR o1, sR o2, sI z0, sI z0] [(.ref o0), (.int z0), (.ref o2)])) rfl rfl (hb hby d13_46)
  refine Go.pre st4 ?_
  refine Go.pre (st' := T4.setTop (mkF m 50 #[sR o0, sR o1, sR o2, sI z0, sI z0] [(.ref o0), (.ref tx), (.int z0), (.ref o2)])) (fun target kt => ?_) ?_
  · refine XS.aloadN X4.here hx rfl (hb hby d13_49) rfl rfl ?_
    exact kt
  obtain ⟨T5, X5, e5, st5⟩ := getF X4 hx hZ hown (host := "") (Or.inl (ow hw 59 rfl)) Via.refl e4 F_th (g := (mkF m 50 #[sR o0, sR o1, sR o2, sI z0, sI z0] [(.ref o0), (.ref tx), (.int z0), (.ref o2)])) rfl rfl (hb hby d13_50)
  refine Go.pre st5 ?_
  refine Go.pre (st' := T5.setTop (mkF m 55 #[sR o0, sR o1, sR o2, sI z0, sI z0] [(.int z0), (.int z0), (.ref tx), (.int z0), (.ref o2)])) (fun target kt => ?_) ?_
  · refine XS.iload X5.here hx rfl (hb hby d13_53) rfl ?_
    exact kt
  obtain ⟨T6, h6, L6, X6, e6, N6, K6, V6, st6⟩ := cpF X5 hx hZ hown (ow hw 91 rfl) (ow hw 94 rfl) (ow hw 92 rfl) (ow hw 93 rfl) e5 (Arf.ofA A_o2) B_tx rfl (nn := z0) (by decide) (by decide) (by decide) N0 (by omega) (g := (mkF m 55 #[sR o0, sR o1, sR o2, sI z0, sI z0] [(.int z0), (.int z0), (.ref tx), (.int z0), (.ref o2)])) rfl (by rw [hml]; rfl) rfl (hb hby d13_55) (by decide) (W := 0) (le0 rfl) (by decide)
  have sz6 : h0.size ≤ h6.size := K6.1
  refine Go.pre st6 ?_
  refine Go.pre (st' := T6.setTop (mkF m 60 #[sR o0, sR o1, sR o2, sI z0, sI z0] [(.ref o0), (.ref o0)])) (fun target kt => ?_) ?_
  · refine XS.aloadN X6.here hx rfl (hb hby d13_58) rfl rfl ?_
    refine XS.dup X6.here hx rfl (hb hby d13_59) rfl rfl ?_
    exact kt
  have Y7 := (F_th.keep K6 (ninS n_o0_tx nin0))
  obtain ⟨T8, X8, e8, st8⟩ := getF X6 hx hZ hown (host := "") (Or.inl (ow hw 59 rfl)) Via.refl e6 Y7 (g := (mkF m 60 #[sR o0, sR o1, sR o2, sI z0, sI z0] [(.ref o0), (.ref o0)])) rfl rfl (hb hby d13_60)
  refine Go.pre st8 ?_
  refine Go.pre (st' := T8.setTop (mkF m 66 #[sR o0, sR o1, sR o2, sI z0, sI z0] [(.int z0), (.ref o0)])) (fun target kt => ?_) ?_
  · refine XS.iload X8.here hx rfl (hb hby d13_63) rfl ?_
    refine XS.iadd X8.here hx rfl (hb hby d13_65) rfl ?_
    exact kt
  have Y9 := (E_o0.keep K6)
  obtain ⟨T10, h10, X10, e10, W10, st10⟩ := putF X8 hx hZ hown (host := "") (Or.inl (ow hw 59 rfl)) Via.refl e8 Y7 Y9 (Or.inl (ow hw 60 rfl)) (ow hw 28 rfl) (ty := .int) (by decide) rfl rfl (g := (mkF m 66 #[sR o0, sR o1, sR o2, sI z0, sI z0] [(.int z0), (.ref o0)])) rfl rfl (hb hby d13_66)
  have sz10 : h6.size ≤ h10.size := (Keep.of_wr W10).1
  have Y11 : Fld Z h10 o0 cA "textLength" "I" (.int z0) := Y7.same W10
  have N10 := Fr.snoc X10 N6 (by omega)
  refine Go.pre st10 ?_
  refine Go.pre (st' := T10.setTop (mkF m 72 #[sR o0, sR o1, sR o2, sI z0, sI z0] [.null, (.ref o1), (.ref o0)])) (fun target kt => ?_) ?_
  · refine XS.aloadN X10.here hx rfl (hb hby d13_69) rfl rfl ?_
    refine XS.aloadN X10.here hx rfl (hb hby d13_70) rfl rfl ?_
    refine XS.aconstNull X10.here hx rfl (hb hby d13_71) ?_
    exact kt
  have Y13 := (Y9.wr W10)
  have Y14 := ((F_se.keep K6 (ninS n_o0_tx nin0)).other W10 (Or.inr (slot_ne (Or.inl (ow hw 58 rfl)) (Or.inl (ow hw 60 rfl)) (by decide) (t := .int) (t' := .int) (by decide) (by decide))))
  have Y15 := ((F_sd.keep K6 (ninS n_o0_tx nin0)).other W10 (Or.inr (slot_ne (Or.inl (ow hw 64 rfl)) (Or.inl (ow hw 60 rfl)) (by decide) (t := .int) (t' := .int) (by decide) (by decide))))
  have Y16 := ((F_ix.keep K6 (ninS n_o0_tx nin0)).other W10 (Or.inr (slot_ne (Or.inl (ow hw 62 rfl)) (Or.inl (ow hw 60 rfl)) (by decide) (t := (.object "java/util/Map")) (t' := .int) (by decide) (by decide))))
  have Y17 := ((Fan.keep K6 (ninS n_o0_tx nin0)).other W10 (Or.inr (slot_ne (Or.inl (ow hw 37 rfl)) (Or.inl (ow hw 60 rfl)) (by decide) (t := (.array (.object cB))) (t' := .int) (by decide) (by decide))))
  have Y18 := ((B_an.keep K6 (ninS n_an_tx nin0)).other W10 (Ne.symm n_o0_an))
  have Y19 := ((Fav.keep K6 (ninS n_o0_tx nin0)).other W10 (Or.inr (slot_ne (Or.inl (ow hw 39 rfl)) (Or.inl (ow hw 60 rfl)) (by decide) (t := (.array (.object cB))) (t' := .int) (by decide) (by decide))))
  have Y20 := ((B_av.keep K6 (ninS n_av_tx nin0)).other W10 (Ne.symm n_o0_av))
  have Y21 := ((Fae.keep K6 (ninS n_o0_tx nin0)).other W10 (Or.inr (slot_ne (Or.inl (ow hw 42 rfl)) (Or.inl (ow hw 60 rfl)) (by decide) (t := (.array .int)) (t' := .int) (by decide) (by decide))))
  have Y22 := ((B_ae.keep K6 (ninS n_ae_tx nin0)).other W10 (Ne.symm n_o0_ae))
  have Y23 := ((Ftx.keep K6 (ninS n_o0_tx nin0)).other W10 (Or.inr (slot_ne (Or.inl (ow hw 44 rfl)) (Or.inl (ow hw 60 rfl)) (by decide) (t := (.array .char)) (t' := .int) (by decide) (by decide))))
  have Y24 := ((E_o1.keep K6).wr W10)
  obtain ⟨cq12, q12, q12'⟩ := Y13.cell
  obtain ⟨_, _, ⟨T12, L12, k12, n12⟩, -, X12, ⟨Lc12, hQ12, l12, y12, z12⟩, st12⟩ := X10.privateBack hx (y := (⟨cA, "append", cC⟩ : MethodName)) hown (mvT hZ (ow hw 53 rfl)) (mvT hZ (ow hw 54 rfl)) (mvT hZ (selects_private (y := (⟨cA, "append", cC⟩ : MethodName)) (ow hw 28 rfl) (ow hw 55 rfl) (ow hw 54 rfl))) (Cond.privateMethod_at (mvP hZ (ow hw 55 rfl) (args := #[]))) (mvT hZ (ow hw 56 rfl)) (by decide) (backOf (W := 0) (rm8_0N_0 l Z a0 hw [] o0 o1 an kan fan av kav fav ae kae fae tx us z0 h10 n0 (by omega) Y13 Y14 Y15 Y11 Y16 Y17 Y18 Y19 Y20 Y21 Y22 Y23 O_an O_av n_o0_an n_o0_av n_o0_ae n_an_av n_an_ae n_av_ae Y24 (by omega) (by omega) (by omega) (by omega)) hZ (ow hw 56 rfl) (ow hw 29 rfl) (by decide) (by decide)) (g := (mkF m 72 #[sR o0, sR o1, sR o2, sI z0, sI z0] [.null, (.ref o1), (.ref o0)])) rfl (by rw [hml]; rfl) (Steps.refl _) (a := o0) (by rw [e10]; exact q12) q12' (argsL := [(.ref o1), .null]) (rest := []) (lenOf pd13_0_0 rfl) rfl (le0 rfl) (hb hby d13_72) (fun vm₁ hvm => ⟨rfl, e10, (by decide : 0 + 0 ≤ _), (by decide : 0 + 0 ≤ _)⟩)
  dsimp only [Pt.U, Pt.locs, Pt.cells, Pt.slots] at X12 l12 y12 z12 st12 hQ12
  subst l12 y12 z12
  obtain ⟨rfl, N12q, K12, KF12, Y12_0, Y12_1, Y12_2, Y12_3, Y12_4, Y12_5, Y12_6, Y12_7, Y12_8, Y12_9, Y12_10⟩ := hQ12
  have sz12 : h10.size ≤ T12.heap.size := K12.1
  have N12 := Fr.app N10 N12q
  refine Go.trans st12 ?_
  refine Go.pre (st' := T12.setTop (mkF m 77 #[sR o0, sR o1, sR o2, sI z0, sI z0] [(.ref o0), (.ref o0)])) (fun target kt => ?_) ?_
  · refine XS.aloadN X12.here hx rfl (hb hby d13_75) rfl rfl ?_
    refine XS.aloadN X12.here hx rfl (hb hby d13_76) rfl rfl ?_
    exact kt
  obtain ⟨T25, X25, e25, st25⟩ := getF X12 hx hZ hown (host := "") (Or.inl (ow hw 57 rfl)) Via.refl rfl Y12_3 (g := (mkF m 77 #[sR o0, sR o1, sR o2, sI z0, sI z0] [(.ref o0), (.ref o0)])) rfl rfl (hb hby d13_77)
  refine Go.pre st25 ?_
  have Y26 := (Y13.keep K12)
  obtain ⟨T27, h27, X27, e27, W27, st27⟩ := putF X25 hx hZ hown (host := "") (Or.inl (ow hw 63 rfl)) Via.refl e25 Y12_4 Y26 (Or.inl (ow hw 64 rfl)) (ow hw 28 rfl) (ty := .int) (by decide) rfl rfl (g := (mkF m 80 #[sR o0, sR o1, sR o2, sI z0, sI z0] [(.int z1), (.ref o0)])) rfl rfl (hb hby d13_80)
  have sz27 : T12.heap.size ≤ h27.size := (Keep.of_wr W27).1
  have Y28 : Fld Z h27 o0 cA "specified" "I" (.int z1) := Y12_4.same W27
  have N27 := Fr.snoc X27 N12 (by omega)
  refine Go.pre st27 ?_
  have Y29 := (((V6.other W10 (Ne.symm n_o0_tx)).keep K12 (ninS (Ne.symm n_an_tx) (ninS (Ne.symm n_av_tx) (ninS (Ne.symm n_ae_tx) (ninS (Ne.symm n_o0_tx) nin0))))).other W27 (Ne.symm n_o0_tx))
  have Y30 := (Y12_3.other W27 (Or.inr (slot_ne (Or.inl (ow hw 58 rfl)) (Or.inl (ow hw 64 rfl)) (by decide) (t := .int) (t' := .int) (by decide) (by decide))))
  have Y31 := (Y12_5.other W27 (Or.inr (slot_ne (Or.inl (ow hw 60 rfl)) (Or.inl (ow hw 64 rfl)) (by decide) (t := .int) (t' := .int) (by decide) (by decide))))
  have Y32 := (Y12_6.other W27 (Or.inr (slot_ne (Or.inl (ow hw 62 rfl)) (Or.inl (ow hw 64 rfl)) (by decide) (t := (.object "java/util/Map")) (t' := .int) (by decide) (by decide))))
  have Y33 := (Y12_7.other W27 (Or.inr (slot_ne (Or.inl (ow hw 37 rfl)) (Or.inl (ow hw 64 rfl)) (by decide) (t := (.array (.object cB))) (t' := .int) (by decide) (by decide))))
  have Y34 := (Y12_8.other W27 (Or.inr (slot_ne (Or.inl (ow hw 39 rfl)) (Or.inl (ow hw 64 rfl)) (by decide) (t := (.array (.object cB))) (t' := .int) (by decide) (by decide))))
  have Y35 := (Y12_9.other W27 (Or.inr (slot_ne (Or.inl (ow hw 42 rfl)) (Or.inl (ow hw 64 rfl)) (by decide) (t := (.array .int)) (t' := .int) (by decide) (by decide))))
  have Y36 := (Y12_10.other W27 (Or.inr (slot_ne (Or.inl (ow hw 44 rfl)) (Or.inl (ow hw 64 rfl)) (by decide) (t := (.array .char)) (t' := .int) (by decide) (by decide))))
  have Y37 := (Y12_0.other W27 (Ne.symm n_o0_an))
  have Y38 := (Y12_1.other W27 (Ne.symm n_o0_av))
  have Y39 := (Y12_2.other W27 (Ne.symm n_o0_ae))
  exact Go.ret0 X27 hx hlk hrt (hb hby d13_83) (by decide) (by decide) (by rw [e27]; exact ⟨rfl, N27, (((((Keep.refl h0 [tx, o0, an, av, ae]).trans K6 (allS (Or.inl (List.mem_of_getElem? (i := 0) rfl)) all0)).wr W10 (Or.inl (List.mem_of_getElem? (i := 1) rfl))).trans K12 (allS (Or.inl (List.mem_of_getElem? (i := 2) rfl)) (allS (Or.inl (List.mem_of_getElem? (i := 3) rfl)) (allS (Or.inl (List.mem_of_getElem? (i := 4) rfl)) (allS (Or.inl (List.mem_of_getElem? (i := 1) rfl)) all0))))).wr W27 (Or.inl (List.mem_of_getElem? (i := 1) rfl))), trivial, Y29, Y30, Y28, Y31, Y32, Y33, Y34, Y35, Y36, Y37, Y38, Y39⟩)
/-! Preconditions.checkFromIndexSize (21_0) -/
theorem d21_0 : decode q2 0 = .ok (.iload_n 2, 1) := by decide +kernel
theorem d21_1 : decode q2 1 = .ok (.iload_n 0, 1) := by decide +kernel
theorem d21_2 : decode q2 2 = .ok (.ior, 1) := by decide +kernel
theorem d21_3 : decode q2 3 = .ok (.iload_n 1, 1) := by decide +kernel
theorem d21_4 : decode q2 4 = .ok (.ior, 1) := by decide +kernel
theorem d21_5 : decode q2 5 = .ok (.ifCond .lt 10, 3) := by decide +kernel
theorem d21_8 : decode q2 8 = .ok (.iload_n 1, 1) := by decide +kernel
theorem d21_9 : decode q2 9 = .ok (.iload_n 2, 1) := by decide +kernel
theorem d21_10 : decode q2 10 = .ok (.iload_n 0, 1) := by decide +kernel
theorem d21_11 : decode q2 11 = .ok (.isub, 1) := by decide +kernel
theorem d21_12 : decode q2 12 = .ok (.if_icmp .le 11, 3) := by decide +kernel
theorem d21_23 : decode q2 23 = .ok (.iload_n 0, 1) := by decide +kernel
theorem d21_24 : decode q2 24 = .ok (.ireturn, 1) := by decide +kernel
theorem pn_21 : plainName "jdk/internal/util/Preconditions" = true := by first | (simp [plainName, overriddenIn]; done) | decide +kernel
theorem ef_21_0 (m : MethodId) (v3 : Value) (hv_v3 : v3.isRef = true) : entryFrame m #[(.int (0 : Int32)), (.int (0 : Int32)), (.int (1024 : Int32)), v3] 4 = (mkF m 0 #[.val (.int (0 : Int32)), .val (.int (0 : Int32)), .val (.int (1024 : Int32)), .val v3] []) := by rcases ref_cases hv_v3 with rfl | ⟨r_v3, rfl⟩ <;> first | (simp [entryFrame, mkF, argsToLocals, Value.category]; done) | rfl
def Q21_0 (Z : State) (v3 : Value) (h0 : Heap) (n0 : Nat) (v : Option Value) (h : Heap) (L : List Loc) : Prop := v = some (.int z0) ∧ Fr n0 L ∧ h = h0
theorem rm21_0 (l : Launch) (Z : State) (a0 : Array Value) (hw : ∀ d ∈ tables_1, d.before a0 Z = true) (ws : List Jvm.Cond) (v3 : Value) (h0 : Heap) (n0 : Nat) (Z0 : n0 ≤ h0.size) (hv_v3 : v3.isRef = true) :
    MetFree l (⟨cE, "checkFromIndexSize", "(IIILjava/util/function/BiFunction;)I"⟩ : MethodName) (head1 (Jvm.Cond.code (⟨cE, "checkFromIndexSize", "(IIILjava/util/function/BiFunction;)I"⟩ : MethodName) jdk_41_method_13_code 4 (some .int) :: ws) ({ frames := 0, cells := 0, slots := 0, locals := 0 } : Room)) (fun a U => a = #[(.int z0), (.int z0), (.int z1024), v3] ∧ Z.Warmed39 U.vm ∧ U.heap = h0) (fun _ _ _ _ _ => True) (fun _ U o U' => ∃ v L, o = .returned v ∧ Q21_0 Z v3 h0 n0 v U'.heap L ∧ FrameEnd U o U' L ({ frames := 0, cells := 0, slots := 0, locals := 0 } : Room).cells ({ frames := 0, cells := 0, slots := 0, locals := 0 } : Room).slots) := by
  refine MetFree.of_bodySF (plainFor_of_name pn_21) hisR ?_
  intro p e s m args below meth c s₁ Bd hml0 hP hK
  obtain ⟨rfl, hZ, hh⟩ := hP
  have hx := Bd.exec
  have hby := Bd.bytes
  have hml : c.maxLocals = 4 := hml0
  have hown : s.vm.findClass cE = some m.cls := findClass_of_methodNamed Bd.named
  have hnm := (name_of_methodNamed Bd.named Bd.method).1
  have hrt := Bd.returns
  have hlk := Bd.notSynchronized
  have X0 : Stand p l e ({ frames := 0, cells := 0, slots := 0, locals := 0 } : Room) s m #[(.int z0), (.int z0), (.int z1024), v3] below meth c s₁ [] 0 0 := Stand.of_body Bd
  have e0 : s₁.heap = h0 := by rw [← hh, Bd.state]; rfl
  have N0 := Fr.nil n0
  show Go p e below s 0 0 (Q21_0 Z v3 h0 n0) (s₁.setTop (entryFrame m #[(.int z0), (.int z0), (.int z1024), v3] 4))
  rw [ef_21_0 m v3 hv_v3]
  refine Go.pre (st' := s₁.setTop (mkF m 24 #[sI z0, sI z0, sI z1024, .val v3] [(.int z0)])) (fun target kt => ?_) ?_
  · refine XS.iloadN X0.here hx rfl (hb hby d21_0) rfl ?_
    refine XS.iloadN X0.here hx rfl (hb hby d21_1) rfl ?_
    refine XS.ior X0.here hx rfl (hb hby d21_2) rfl ?_
    refine XS.iloadN X0.here hx rfl (hb hby d21_3) rfl ?_
    refine XS.ior X0.here hx rfl (hb hby d21_4) rfl ?_
    refine XS.ifNo X0.here hx rfl (hb hby d21_5) rfl ((if0 _ _).trans (flt (by decide)).1) ?_
    refine XS.iloadN X0.here hx rfl (hb hby d21_8) rfl ?_
    refine XS.iloadN X0.here hx rfl (hb hby d21_9) rfl ?_
    refine XS.iloadN X0.here hx rfl (hb hby d21_10) rfl ?_
    refine XS.isub X0.here hx rfl (hb hby d21_11) rfl ?_
    refine XS.icmpYes X0.here hx rfl (pc0 := 12) (pc' := 23) rfl (hb hby d21_12) rfl (flt (by decide)).2.2.2 (by decide) (by decide) ?_
    refine XS.iloadN X0.here hx rfl (hb hby d21_23) rfl ?_
    exact kt
  exact Go.retV X0 hx hlk hrt rfl (Or.inl ⟨rfl, Or.inl rfl, _, rfl⟩) (hb hby d21_24) (by decide) (by decide) (by rw [e0]; exact ⟨rfl, N0, rfl⟩)
/-! String.checkBoundsOffCount (20_0) -/
theorem d20_0 : decode q7 0 = .ok (.iload_n 0, 1) := by decide +kernel
theorem d20_1 : decode q7 1 = .ok (.iload_n 1, 1) := by decide +kernel
theorem d20_2 : decode q7 2 = .ok (.iload_n 2, 1) := by decide +kernel
theorem d20_3 : decode q7 3 = .ok (.getstatic 1053, 3) := by decide +kernel
theorem d20_6 : decode q7 6 = .ok (.invokestatic 1065, 3) := by decide +kernel
theorem d20_9 : decode q7 9 = .ok (.ireturn, 1) := by decide +kernel
theorem pn_20 : plainName "java/lang/String" = true := by first | (simp [plainName, overriddenIn]; done) | decide +kernel
theorem pd20_0_0 : parseMethodDescriptor "(IIILjava/util/function/BiFunction;)I" = some ⟨[.int, .int, .int, (.object "java/util/function/BiFunction")], some .int⟩ := by decide +kernel
theorem ef_20_0 (m : MethodId)  : entryFrame m #[(.int (0 : Int32)), (.int (0 : Int32)), (.int (1024 : Int32))] 3 = (mkF m 0 #[.val (.int (0 : Int32)), .val (.int (0 : Int32)), .val (.int (1024 : Int32))] []) := by first | (simp [entryFrame, mkF, argsToLocals, Value.category]; done) | rfl
def Q20_0 (Z : State) (zf : Value) (h0 : Heap) (n0 : Nat) (v : Option Value) (h : Heap) (L : List Loc) : Prop := v = some (.int z0) ∧ Fr n0 L ∧ h = h0
theorem rm20_0 (l : Launch) (Z : State) (a0 : Array Value) (hw : ∀ d ∈ tables_1, d.before a0 Z = true) (ws : List Jvm.Cond) (zf : Value) (h0 : Heap) (n0 : Nat) (Z0 : n0 ≤ h0.size) (S_F : Sta Z Z.heap cE "SIOOBE_FORMATTER" "Ljava/util/function/BiFunction;" zf) (hv_zf : zf.isRef = true) (Ol : Old Z n0 h0) :
    MetFree l (⟨cB, "checkBoundsOffCount", "(III)I"⟩ : MethodName) (head1 (Jvm.Cond.code (⟨cB, "checkBoundsOffCount", "(III)I"⟩ : MethodName) jdk_42_method_157_code 3 (some .int) :: ws) ({ frames := 1, cells := 0, slots := 0, locals := 15 } : Room)) (fun a U => a = #[(.int z0), (.int z0), (.int z1024)] ∧ Z.Warmed39 U.vm ∧ U.heap = h0) (fun _ _ _ _ _ => True) (fun _ U o U' => ∃ v L, o = .returned v ∧ Q20_0 Z zf h0 n0 v U'.heap L ∧ FrameEnd U o U' L ({ frames := 1, cells := 0, slots := 0, locals := 15 } : Room).cells ({ frames := 1, cells := 0, slots := 0, locals := 15 } : Room).slots) := by
  refine MetFree.of_bodySF (plainFor_of_name pn_20) hisR ?_
  intro p e s m args below meth c s₁ Bd hml0 hP hK
  obtain ⟨rfl, hZ, hh⟩ := hP
  have hx := Bd.exec
  have hby := Bd.bytes
  have hml : c.maxLocals = 3 := hml0
  have hown : s.vm.findClass cB = some m.cls := findClass_of_methodNamed Bd.named
  have hnm := (name_of_methodNamed Bd.named Bd.method).1
  have hrt := Bd.returns
  have hlk := Bd.notSynchronized
  have X0 : Stand p l e ({ frames := 1, cells := 0, slots := 0, locals := 15 } : Room) s m #[(.int z0), (.int z0), (.int z1024)] below meth c s₁ [] 0 0 := Stand.of_body Bd
  have e0 : s₁.heap = h0 := by rw [← hh, Bd.state]; rfl
  have N0 := Fr.nil n0
  show Go p e below s 0 0 (Q20_0 Z zf h0 n0) (s₁.setTop (entryFrame m #[(.int z0), (.int z0), (.int z1024)] 3))
  rw [ef_20_0 m ]
  refine Go.pre (st' := s₁.setTop (mkF m 3 #[sI z0, sI z0, sI z1024] [(.int z1024), (.int z0), (.int z0)])) (fun target kt => ?_) ?_
  · refine XS.iloadN X0.here hx rfl (hb hby d20_0) rfl ?_
    refine XS.iloadN X0.here hx rfl (hb hby d20_1) rfl ?_
    refine XS.iloadN X0.here hx rfl (hb hby d20_2) rfl ?_
    exact kt
  obtain ⟨T1, X1, e1, st1⟩ := getS2 X0 hx hZ hown (host := "") (Or.inl (ow hw 122 rfl)) Via.refl e0 (S_F.ext Ol.2) (g := (mkF m 3 #[sI z0, sI z0, sI z1024] [(.int z1024), (.int z0), (.int z0)])) rfl (hb hby d20_3)
  refine Go.pre st1 ?_
  obtain ⟨_, _, ⟨T2, L2, k2, n2⟩, -, X2, ⟨Lc2, hQ2, l2, y2, z2⟩, st2⟩ := Jvm.LawKit.callS X1 hx (y := (⟨cE, "checkFromIndexSize", "(IIILjava/util/function/BiFunction;)I"⟩ : MethodName)) hown (mvT hZ (ow hw 124 rfl)) (mvT hZ (ow hw 125 rfl)) (mvT hZ (ow hw 123 rfl)) (mvT hZ (ow hw 126 rfl)) (by decide) (backOf (W := 0) (rm21_0 l Z a0 hw [] zf h0 n0 (by omega) hv_zf) hZ (ow hw 126 rfl) (ow hw 123 rfl) (by decide) (by decide)) (g := (mkF m 6 #[sI z0, sI z0, sI z1024] [zf, (.int z1024), (.int z0), (.int z0)])) rfl (by rw [hml]; rfl) (argsL := [(.int z0), (.int z0), (.int z1024), zf]) (rest := []) (lenOf pd20_0_0 rfl) rfl (le0 rfl) (hb hby d20_6) (fun vm₁ hvm => ⟨rfl, e1, (by decide : 0 + 0 ≤ _), (by decide : 0 + 0 ≤ _)⟩)
  dsimp only [Pt.U, Pt.locs, Pt.cells, Pt.slots] at X2 l2 y2 z2 st2 hQ2
  subst l2 y2 z2
  obtain ⟨rfl, N2q, e2⟩ := hQ2
  have N2 := Fr.app N0 N2q
  refine Go.pre st2 ?_
  exact Go.retV X2 hx hlk hrt rfl (Or.inl ⟨rfl, Or.inl rfl, _, rfl⟩) (hb hby d20_9) (by decide) (by decide) (by rw [e2]; exact ⟨rfl, N2, rfl⟩)
/-! String.rangeCheck (19_0) -/
theorem d19_0 : decode q10 0 = .ok (.iload_n 1, 1) := by decide +kernel
theorem d19_1 : decode q10 1 = .ok (.iload_n 2, 1) := by decide +kernel
theorem d19_2 : decode q10 2 = .ok (.aload_n 0, 1) := by decide +kernel
theorem d19_3 : decode q10 3 = .ok (.arraylength, 1) := by decide +kernel
theorem d19_4 : decode q10 4 = .ok (.invokestatic 34, 3) := by decide +kernel
theorem d19_7 : decode q10 7 = .ok (.pop, 1) := by decide +kernel
theorem d19_8 : decode q10 8 = .ok (.aconst_null, 1) := by decide +kernel
theorem d19_9 : decode q10 9 = .ok (.areturn, 1) := by decide +kernel
theorem pn_19 : plainName "java/lang/String" = true := by first | (simp [plainName, overriddenIn]; done) | decide +kernel
theorem pd19_0_0 : parseMethodDescriptor "(III)I" = some ⟨[.int, .int, .int], some .int⟩ := by decide +kernel
theorem ef_19_0 (m : MethodId) (o0 : Addr) : entryFrame m #[(.ref o0), (.int (0 : Int32)), (.int (0 : Int32))] 3 = (mkF m 0 #[.val (.ref o0), .val (.int (0 : Int32)), .val (.int (0 : Int32))] []) := by first | (simp [entryFrame, mkF, argsToLocals, Value.category]; done) | rfl
def Q19_0 (Z : State) (o0 : Addr) (kt : ClassId) (ft : Int32 → Value) (zf : Value) (h0 : Heap) (n0 : Nat) (v : Option Value) (h : Heap) (L : List Loc) : Prop := v = some .null ∧ Fr n0 L ∧ h = h0
theorem rm19_0 (l : Launch) (Z : State) (a0 : Array Value) (hw : ∀ d ∈ tables_1, d.before a0 Z = true) (ws : List Jvm.Cond) (o0 : Addr) (kt : ClassId) (ft : Int32 → Value) (zf : Value) (h0 : Heap) (n0 : Nat) (Z0 : n0 ≤ h0.size) (B_t : Arf Z h0 o0 kt .char z1024 ft) (S_F : Sta Z Z.heap cE "SIOOBE_FORMATTER" "Ljava/util/function/BiFunction;" zf) (hv_zf : zf.isRef = true) (Ol : Old Z n0 h0) :
    MetFree l (⟨cB, "rangeCheck", "([CII)Ljava/lang/Void;"⟩ : MethodName) (head1 (Jvm.Cond.code (⟨cB, "rangeCheck", "([CII)Ljava/lang/Void;"⟩ : MethodName) jdk_42_method_5_code 3 (some (.object "java/lang/Void")) :: ws) ({ frames := 2, cells := 0, slots := 0, locals := 29 } : Room)) (fun a U => a = #[(.ref o0), (.int z0), (.int z0)] ∧ Z.Warmed39 U.vm ∧ U.heap = h0) (fun _ _ _ _ _ => True) (fun _ U o U' => ∃ v L, o = .returned v ∧ Q19_0 Z o0 kt ft zf h0 n0 v U'.heap L ∧ FrameEnd U o U' L ({ frames := 2, cells := 0, slots := 0, locals := 29 } : Room).cells ({ frames := 2, cells := 0, slots := 0, locals := 29 } : Room).slots) := by
  refine MetFree.of_bodySF (plainFor_of_name pn_19) hisR ?_
  intro p e s m args below meth c s₁ Bd hml0 hP hK
  obtain ⟨rfl, hZ, hh⟩ := hP
  have hx := Bd.exec
  have hby := Bd.bytes
  have hml : c.maxLocals = 3 := hml0
  have hown : s.vm.findClass cB = some m.cls := findClass_of_methodNamed Bd.named
  have hnm := (name_of_methodNamed Bd.named Bd.method).1
  have hrt := Bd.returns
  have hlk := Bd.notSynchronized
  have X0 : Stand p l e ({ frames := 2, cells := 0, slots := 0, locals := 29 } : Room) s m #[(.ref o0), (.int z0), (.int z0)] below meth c s₁ [] 0 0 := Stand.of_body Bd
  have e0 : s₁.heap = h0 := by rw [← hh, Bd.state]; rfl
  have N0 := Fr.nil n0
  have lt_B_t : LT.lt (α := Nat) o0 h0.size := B_t.lt
  show Go p e below s 0 0 (Q19_0 Z o0 kt ft zf h0 n0) (s₁.setTop (entryFrame m #[(.ref o0), (.int z0), (.int z0)] 3))
  rw [ef_19_0 m o0]
  refine Go.pre (st' := s₁.setTop (mkF m 3 #[sR o0, sI z0, sI z0] [(.ref o0), (.int z0), (.int z0)])) (fun target kt => ?_) ?_
  · refine XS.iloadN X0.here hx rfl (hb hby d19_0) rfl ?_
    refine XS.iloadN X0.here hx rfl (hb hby d19_1) rfl ?_
    refine XS.aloadN X0.here hx rfl (hb hby d19_2) rfl rfl ?_
    exact kt
  obtain ⟨cl1, Ar1, -, Sz1, Nn1, -⟩ := id B_t
  have st1 := X0.arraylength hx (by rw [e0]; exact Ar1.1) (State.isArrayOf_alike hZ.alike Ar1.2.1) (g := (mkF m 3 #[sR o0, sI z0, sI z0] [(.ref o0), (.int z0), (.int z0)])) rfl rfl (hb hby d19_3)
  rw [len_of Sz1 Nn1] at st1
  refine Go.pre st1 ?_
  obtain ⟨_, _, ⟨T2, L2, k2, n2⟩, -, X2, ⟨Lc2, hQ2, l2, y2, z2⟩, st2⟩ := Jvm.LawKit.callS X0 hx (y := (⟨cB, "checkBoundsOffCount", "(III)I"⟩ : MethodName)) hown (mvT hZ (ow hw 119 rfl)) (mvT hZ (ow hw 120 rfl)) (mvT hZ (ow hw 2 rfl)) (mvT hZ (ow hw 121 rfl)) (by decide) (backOf (W := 0) (rm20_0 l Z a0 hw [] zf h0 n0 (by omega) S_F hv_zf Ol) hZ (ow hw 121 rfl) (ow hw 2 rfl) (by decide) (by decide)) (g := (mkF m 4 #[sR o0, sI z0, sI z0] [(.int z1024), (.int z0), (.int z0)])) rfl (by rw [hml]; rfl) (argsL := [(.int z0), (.int z0), (.int z1024)]) (rest := []) (lenOf pd19_0_0 rfl) rfl (le0 rfl) (hb hby d19_4) (fun vm₁ hvm => ⟨rfl, e0, (by decide : 0 + 0 ≤ _), (by decide : 0 + 0 ≤ _)⟩)
  dsimp only [Pt.U, Pt.locs, Pt.cells, Pt.slots] at X2 l2 y2 z2 st2 hQ2
  subst l2 y2 z2
  obtain ⟨rfl, N2q, e2⟩ := hQ2
  have N2 := Fr.app N0 N2q
  refine Go.pre st2 ?_
  refine Go.pre (st' := T2.setTop (mkF m 9 #[sR o0, sI z0, sI z0] [.null])) (fun target kt => ?_) ?_
  · refine XS.pop X2.here hx rfl (hb hby d19_7) rfl rfl ?_
    refine XS.aconstNull X2.here hx rfl (hb hby d19_8) ?_
    exact kt
  exact Go.retV X2 hx hlk hrt rfl (Or.inr (Or.inr (Or.inr (Or.inr ⟨rfl, rfl, rfl⟩)))) (hb hby d19_9) (by decide) (by decide) (by rw [e2]; exact ⟨rfl, N2, rfl⟩)
/-! String.<init> (22_0) -/
theorem d22_8 : decode q4 8 = .ok (.aload_n 0, 1) := by decide +kernel
theorem d22_9 : decode q4 9 = .ok (.ldc 7, 2) := by decide +kernel
theorem d22_11 : decode q4 11 = .ok (.getfield 9, 3) := by decide +kernel
theorem d22_14 : decode q4 14 = .ok (.putfield 9, 3) := by decide +kernel
theorem d22_17 : decode q4 17 = .ok (.aload_n 0, 1) := by decide +kernel
theorem d22_18 : decode q4 18 = .ok (.ldc 7, 2) := by decide +kernel
theorem d22_20 : decode q4 20 = .ok (.getfield 15, 3) := by decide +kernel
theorem d22_23 : decode q4 23 = .ok (.putfield 15, 3) := by decide +kernel
theorem d22_26 : decode q4 26 = .ok (.return_, 1) := by decide +kernel
theorem ef_22_0 (m : MethodId) (o0 : Addr) (o1 : Addr) : entryFrame m #[(.ref o0), (.ref o1), (.int (0 : Int32)), (.int (0 : Int32)), .null] 6 = (mkF m 0 #[.val (.ref o0), .val (.ref o1), .val (.int (0 : Int32)), .val (.int (0 : Int32)), .val .null, .unset] []) := by first | (simp [entryFrame, mkF, argsToLocals, Value.category]; done) | rfl
def Q22_0 (Z : State) (o0 : Addr) (o1 : Addr) (la : Addr) (lb : Addr) (klb : ClassId) (u5 : Value) (u12 : Value) (h0 : Heap) (n0 : Nat) (v : Option Value) (vm : Vm) (h : Heap) (L : List Loc) : Prop := ∃ b2 : Addr, ∃ k2 : ClassId, v = none ∧ Fr n0 L ∧ Keep h0 h [o0] ∧ KF Z h0 h [(o0, Jvm.RoadKit.slotOf Z cB "value" "[B"), (o0, Jvm.RoadKit.slotOf Z cB "coder" "B")] ∧ LT.lt (α := Nat) b2 h.size ∧ Fld Z h o0 cB "value" "[B" (.ref b2) ∧ Fld Z h o0 cB "coder" "B" (.int (nar .byte z0)) ∧ Arv Z h b2 k2 .byte z0 [] (.int 0) ∧ True
theorem rm22_0 (l : Launch) (Z : State) (a0 : Array Value) (hw : ∀ d ∈ tables_1, d.before a0 Z = true) (ws : List Jvm.Cond) (o0 : Addr) (o1 : Addr) (la : Addr) (lb : Addr) (klb : ClassId) (u5 : Value) (u12 : Value) (h0 : Heap) (n0 : Nat) (Z0 : n0 ≤ h0.size) (E_o0 : Exa Z h0 o0 cB) (E_la : Exa Z h0 la cB) (F_cla : Fld Z h0 la cB "coder" "B" (.int z0)) (F_vla : Fld Z h0 la cB "value" "[B" (.ref lb)) (A_lb : Arv Z h0 lb klb .byte z0 [] (.int 0)) (hcw : Jvm.Lit.compactW.before a0 Z = true) (hheld : ∀ q ∈ consts_1, Jvm.Lit.constHeld Z q.1 q.2) (Ol : Old Z n0 h0) (F_value_o0 : Fld Z h0 o0 cB "value" "[B" u5) (g_o0 : n0 ≤ o0) (F_coder_o0 : Fld Z h0 o0 cB "coder" "B" u12) :
    MetFree l (⟨cB, "<init>", "([CIILjava/lang/Void;)V"⟩ : MethodName) (head1 (Jvm.Cond.code (⟨cB, "<init>", "([CIILjava/lang/Void;)V"⟩ : MethodName) jdk_42_method_149_code 6 none :: ws) ({ frames := 1, cells := 2, slots := 4, locals := 12 } : Room)) (fun a U => a = #[(.ref o0), (.ref o1), (.int z0), (.int z0), .null] ∧ Z.Warmed39 U.vm ∧ U.heap = h0 ∧ JI Z U.vm ["w", "v"] la) (fun _ _ _ _ _ => True) (fun _ U o U' => ∃ v L, o = .returned v ∧ Q22_0 Z o0 o1 la lb klb u5 u12 h0 n0 v U'.vm U'.heap L ∧ ReturnedEndW U o U' L ({ frames := 1, cells := 2, slots := 4, locals := 12 } : Room).cells ({ frames := 1, cells := 2, slots := 4, locals := 12 } : Room).slots) := by
  refine MetFree.of_bodySF (plainFor_of_name pn_22) hisR ?_
  intro p e s m args below meth c s₁ Bd hml0 hP hK
  obtain ⟨rfl, hZ, hh, hI⟩ := hP
  have hx := Bd.exec
  have hby := Bd.bytes
  have hml : c.maxLocals = 6 := hml0
  have hown : s.vm.findClass cB = some m.cls := findClass_of_methodNamed Bd.named
  have hnm := (name_of_methodNamed Bd.named Bd.method).1
  have hrt := Bd.returns
  have hlk := Bd.notSynchronized
  have X0 : Stand p l e ({ frames := 1, cells := 2, slots := 4, locals := 12 } : Room) (s.setVm s.vm) m #[(.ref o0), (.ref o1), (.int z0), (.int z0), .null] below meth c s₁ [] 0 0 := Stand.of_body Bd
  have hS : s.Since s.vm 0 := (State.WarmedH.refl s).since 0
  have hk := Nat.zero_le h0.size
  have hkp : ∀ (b : Addr) (cl : Cell), Z.heap[b]? = some cl → s.heap[b]? = some cl := fun b cl q => by rw [show (s.heap : Heap) = h0 from hh]; exact Ol.2.2 b cl q
  have e0 : s₁.heap = h0 := by rw [← hh, Bd.state]; rfl
  have N0 := Fr.nil n0
  have lt_E_o0 : LT.lt (α := Nat) o0 h0.size := E_o0.lt
  have lt_E_la : LT.lt (α := Nat) la h0.size := E_la.lt
  have lt_A_lb : LT.lt (α := Nat) lb h0.size := A_lb.lt
  show GoW p e below s 2 4 (Q22_0 Z o0 o1 la lb klb u5 u12 h0 n0) (s₁.setTop (entryFrame m #[(.ref o0), (.ref o1), (.int z0), (.int z0), .null] 6))
  rw [ef_22_0 m o0 o1]
  refine GoW.pre (st' := s₁.setTop (mkF m 1 #[sR o0, sR o1, sI z0, sI z0, sN, sU] [(.ref o0)])) (fun target kt => ?_) ?_
  · refine XS.aloadN X0.here hx rfl (hb hby d22_0) rfl rfl ?_
    exact kt
  obtain ⟨T1, X1, e1, st1⟩ := initO X0 hx hZ hown (ow hw 19 rfl) (ow hw 20 rfl) (ow hw 21 rfl) e0 (g := (mkF m 1 #[sR o0, sR o1, sI z0, sI z0, sN, sU] [(.ref o0)])) rfl (by rw [hml]; rfl) rfl (hb hby d22_1) (by decide) (W := 0) (le0 rfl) (by decide)
  refine GoW.pre st1 ?_
  refine GoW.pre (st' := T1.setTop (mkF m 9 #[sR o0, sR o1, sI z0, sI z0, sN, sU] [(.ref o0)])) (fun target kt => ?_) ?_
  · refine XS.iloadN X1.here hx rfl (hb hby d22_4) rfl ?_
    refine XS.ifNo X1.here hx rfl (hb hby d22_5) rfl ((if0 _ _).trans (teq (by decide)).2) ?_
    refine XS.aloadN X1.here hx rfl (hb hby d22_8) rfl rfl ?_
    exact kt
  obtain ⟨la2, T2, h2, kq2, b2, k2, X2, e2, E2, hS, hk, hZ, hown, Ea2, Fc2, Fv2, Va2, lt2, lu2, hI, Lt_la2, st2⟩ := ldcJ X1 hx hZ hown (ow hw 130 rfl) (own_wS hw) e1 hS (by omega) (Fr.nil _) hkp Ol.2 hI (by decide) ⟨E_la, F_cla, F_vla, A_lb⟩ (hheld _ (List.mem_of_getElem? (i := 3) rfl)) hcw (g := (mkF m 9 #[sR o0, sR o1, sI z0, sI z0, sN, sU] [(.ref o0)])) rfl (hb hby d22_9) (by decide) (by decide)
  have sz2 : h0.size ≤ h2.size := E2.1
  have ltN2 : LT.lt (α := Nat) la2 h2.size := lt2
  have luN2 : LT.lt (α := Nat) b2 h2.size := lu2
  have Y3 := (E_o0.ext E2)
  have ne_b2_o0 : b2 ≠ o0 := Ne.symm (Exa.neArv Y3 Va2 (ow hw 10 rfl))
  refine GoW.pre st2 ?_
  obtain ⟨T4, X4, e4, st4⟩ := getF X2 hx hZ hown (host := "") (Or.inl (ow hw 22 rfl)) Via.refl e2 Fv2 (g := (mkF m 11 #[sR o0, sR o1, sI z0, sI z0, sN, sU] [(.ref la2), (.ref o0)])) rfl rfl (hb hby d22_11)
  refine GoW.pre st4 ?_
  have Y6 := (F_value_o0.ext E2)
  obtain ⟨T7, h7, X7, e7, W7, st7⟩ := putF X4 hx hZ hown (host := "") (Or.inl (ow hw 22 rfl)) Via.refl e4 Y6 Y3 (Or.inr ⟨(ow hw 23 rfl), rfl, hnm⟩) (ow hw 10 rfl) (ty := (.array .byte)) (by decide) rfl rfl (g := (mkF m 14 #[sR o0, sR o1, sI z0, sI z0, sN, sU] [(.ref b2), (.ref o0)])) rfl rfl (hb hby d22_14)
  have sz7 : h2.size ≤ h7.size := (Keep.of_wr W7).1
  have Y8 : Fld Z h7 o0 cB "value" "[B" (.ref b2) := Y6.same W7
  have N7 := Fr.snoc X7 N0 (by omega)
  refine GoW.pre st7 ?_
  refine GoW.pre (st' := T7.setTop (mkF m 18 #[sR o0, sR o1, sI z0, sI z0, sN, sU] [(.ref o0)])) (fun target kt => ?_) ?_
  · refine XS.aloadN X7.here hx rfl (hb hby d22_17) rfl rfl ?_
    exact kt
  refine GoW.pre (ldcAgain X7 hx hZ hown (ow hw 130 rfl) Lt_la2 (g := (mkF m 18 #[sR o0, sR o1, sI z0, sI z0, sN, sU] [(.ref o0)])) rfl (hb hby d22_18)) ?_
  have Y10 := (Fc2.other W7 (Or.inr (slot_ne (Or.inr (ow hw 25 rfl)) (Or.inr (ow hw 23 rfl)) (by decide) (t := .byte) (t' := (.array .byte)) (by decide) (by decide))))
  obtain ⟨T11, X11, e11, st11⟩ := getF X7 hx hZ hown (host := "") (Or.inl (ow hw 24 rfl)) Via.refl e7 Y10 (g := (mkF m 20 #[sR o0, sR o1, sI z0, sI z0, sN, sU] [(.ref la2), (.ref o0)])) rfl rfl (hb hby d22_20)
  refine GoW.pre st11 ?_
  have Y13 := ((F_coder_o0.ext E2).other W7 (Or.inr (slot_ne (Or.inr (ow hw 25 rfl)) (Or.inr (ow hw 23 rfl)) (by decide) (t := .byte) (t' := (.array .byte)) (by decide) (by decide))))
  have Y14 := (Y3.wr W7)
  obtain ⟨T15, h15, X15, e15, W15, st15⟩ := putFN X11 hx hZ hown (ow hw 24 rfl) Via.refl e11 Y13 Y14 (Or.inr ⟨(ow hw 25 rfl), rfl, hnm⟩) (ow hw 10 rfl) (ty := .byte) (v' := (.int (nar .byte z0))) (by decide) rfl (fits_nar_byte _) (g := (mkF m 23 #[sR o0, sR o1, sI z0, sI z0, sN, sU] [(.int z0), (.ref o0)])) rfl rfl (hb hby d22_23)
  have sz15 : h7.size ≤ h15.size := (Keep.of_wr W15).1
  have Y16 : Fld Z h15 o0 cB "coder" "B" (.int (nar .byte z0)) := Y13.same W15
  have N15 := Fr.snoc X15 N7 (by omega)
  refine GoW.pre st15 ?_
  have Y17 := (Y8.other W15 (Or.inr (slot_ne (Or.inr (ow hw 23 rfl)) (Or.inr (ow hw 25 rfl)) (by decide) (t := (.array .byte)) (t' := .byte) (by decide) (by decide))))
  have Y18 := ((Va2.other W7 ne_b2_o0).other W15 ne_b2_o0)
  exact GoW.ret0 X15 hS (leH e15 (by omega)) hx hlk hrt (hb hby d22_26) (by decide) (by decide) (by rw [e15]; exact ⟨b2, k2, rfl, N15, ((((Keep.refl h0 [o0]).ext E2).wr W7 (Or.inl (List.mem_of_getElem? (i := 0) rfl))).wr W15 (Or.inl (List.mem_of_getElem? (i := 0) rfl))), ((((KF.refl Z h0 [(o0, Jvm.RoadKit.slotOf Z cB "value" "[B"), (o0, Jvm.RoadKit.slotOf Z cB "coder" "B")]).ext E2).wr W7 (Or.inl (List.mem_of_getElem? (i := 0) rfl))).wr W15 (Or.inl (List.mem_of_getElem? (i := 1) rfl))), by omega, Y17, Y16, Y18, trivial⟩)
/-! String.<init> (18_0) -/
theorem d18_0 : decode q9 0 = .ok (.aload_n 0, 1) := by decide +kernel
theorem d18_1 : decode q9 1 = .ok (.aload_n 1, 1) := by decide +kernel
theorem d18_2 : decode q9 2 = .ok (.iload_n 2, 1) := by decide +kernel
theorem d18_3 : decode q9 3 = .ok (.iload_n 3, 1) := by decide +kernel
theorem d18_4 : decode q9 4 = .ok (.aload_n 1, 1) := by decide +kernel
theorem d18_5 : decode q9 5 = .ok (.iload_n 2, 1) := by decide +kernel
theorem d18_6 : decode q9 6 = .ok (.iload_n 3, 1) := by decide +kernel
theorem d18_7 : decode q9 7 = .ok (.invokestatic 30, 3) := by decide +kernel
theorem d18_10 : decode q9 10 = .ok (.invokespecial 27, 3) := by decide +kernel
theorem d18_13 : decode q9 13 = .ok (.return_, 1) := by decide +kernel
theorem pn_18 : plainName "java/lang/String" = true := by first | (simp [plainName, overriddenIn]; done) | decide +kernel
theorem pd18_0_0 : parseMethodDescriptor "([CII)Ljava/lang/Void;" = some ⟨[(.array .char), .int, .int], some (.object "java/lang/Void")⟩ := by decide +kernel
theorem pd18_0_1 : parseMethodDescriptor "([CIILjava/lang/Void;)V" = some ⟨[(.array .char), .int, .int, (.object "java/lang/Void")], none⟩ := by decide +kernel
theorem ef_18_0 (m : MethodId) (o0 : Addr) (o1 : Addr) : entryFrame m #[(.ref o0), (.ref o1), (.int (0 : Int32)), (.int (0 : Int32))] 4 = (mkF m 0 #[.val (.ref o0), .val (.ref o1), .val (.int (0 : Int32)), .val (.int (0 : Int32))] []) := by first | (simp [entryFrame, mkF, argsToLocals, Value.category]; done) | rfl
def Q18_0 (Z : State) (o0 : Addr) (o1 : Addr) (kt : ClassId) (ft : Int32 → Value) (la : Addr) (lb : Addr) (klb : ClassId) (zf : Value) (u3 : Value) (u4 : Value) (h0 : Heap) (n0 : Nat) (v : Option Value) (vm : Vm) (h : Heap) (L : List Loc) : Prop := ∃ x2_0 : Addr, ∃ k2_0 : ClassId, v = none ∧ Fr n0 L ∧ Keep h0 h [o0] ∧ KF Z h0 h [(o0, Jvm.RoadKit.slotOf Z cB "value" "[B"), (o0, Jvm.RoadKit.slotOf Z cB "coder" "B")] ∧ LT.lt (α := Nat) x2_0 h.size ∧ Fld Z h o0 cB "value" "[B" (.ref x2_0) ∧ Fld Z h o0 cB "coder" "B" (.int (nar .byte z0)) ∧ Arv Z h x2_0 k2_0 .byte z0 [] (.int 0) ∧ True
theorem rm18_0 (l : Launch) (Z : State) (a0 : Array Value) (hw : ∀ d ∈ tables_1, d.before a0 Z = true) (ws : List Jvm.Cond) (o0 : Addr) (o1 : Addr) (kt : ClassId) (ft : Int32 → Value) (la : Addr) (lb : Addr) (klb : ClassId) (zf : Value) (u3 : Value) (u4 : Value) (h0 : Heap) (n0 : Nat) (Z0 : n0 ≤ h0.size) (B_t : Arf Z h0 o1 kt .char z1024 ft) (E_la : Exa Z h0 la cB) (F_cla : Fld Z h0 la cB "coder" "B" (.int z0)) (F_vla : Fld Z h0 la cB "value" "[B" (.ref lb)) (A_lb : Arv Z h0 lb klb .byte z0 [] (.int 0)) (hcw : Jvm.Lit.compactW.before a0 Z = true) (hheld : ∀ q ∈ consts_1, Jvm.Lit.constHeld Z q.1 q.2) (Ol : Old Z n0 h0) (S_F : Sta Z Z.heap cE "SIOOBE_FORMATTER" "Ljava/util/function/BiFunction;" zf) (hv_zf : zf.isRef = true) (n_o0_o1 : o0 ≠ o1) (E_o0 : Exa Z h0 o0 cB) (F_value_o0 : Fld Z h0 o0 cB "value" "[B" u3) (g_o0 : n0 ≤ o0) (F_coder_o0 : Fld Z h0 o0 cB "coder" "B" u4) :
    MetFree l (⟨cB, "<init>", "([CII)V"⟩ : MethodName) (head1 (Jvm.Cond.code (⟨cB, "<init>", "([CII)V"⟩ : MethodName) jdk_42_method_4_code 4 none :: ws) ({ frames := 3, cells := 2, slots := 4, locals := 47 } : Room)) (fun a U => a = #[(.ref o0), (.ref o1), (.int z0), (.int z0)] ∧ Z.Warmed39 U.vm ∧ U.heap = h0 ∧ JI Z U.vm ["w", "v"] la) (fun _ _ _ _ _ => True) (fun _ U o U' => ∃ v L, o = .returned v ∧ Q18_0 Z o0 o1 kt ft la lb klb zf u3 u4 h0 n0 v U'.vm U'.heap L ∧ ReturnedEndW U o U' L ({ frames := 3, cells := 2, slots := 4, locals := 47 } : Room).cells ({ frames := 3, cells := 2, slots := 4, locals := 47 } : Room).slots) := by
  refine MetFree.of_bodySF (plainFor_of_name pn_18) hisR ?_
  intro p e s m args below meth c s₁ Bd hml0 hP hK
  obtain ⟨rfl, hZ, hh, hI⟩ := hP
  have hx := Bd.exec
  have hby := Bd.bytes
  have hml : c.maxLocals = 4 := hml0
  have hown : s.vm.findClass cB = some m.cls := findClass_of_methodNamed Bd.named
  have hnm := (name_of_methodNamed Bd.named Bd.method).1
  have hrt := Bd.returns
  have hlk := Bd.notSynchronized
  have X0 : Stand p l e ({ frames := 3, cells := 2, slots := 4, locals := 47 } : Room) (s.setVm s.vm) m #[(.ref o0), (.ref o1), (.int z0), (.int z0)] below meth c s₁ [] 0 0 := Stand.of_body Bd
  have hS : s.Since s.vm 0 := (State.WarmedH.refl s).since 0
  have hk := Nat.zero_le h0.size
  have hkp : ∀ (b : Addr) (cl : Cell), Z.heap[b]? = some cl → s.heap[b]? = some cl := fun b cl q => by rw [show (s.heap : Heap) = h0 from hh]; exact Ol.2.2 b cl q
  have e0 : s₁.heap = h0 := by rw [← hh, Bd.state]; rfl
  have N0 := Fr.nil n0
  have lt_B_t : LT.lt (α := Nat) o1 h0.size := B_t.lt
  have lt_E_la : LT.lt (α := Nat) la h0.size := E_la.lt
  have lt_A_lb : LT.lt (α := Nat) lb h0.size := A_lb.lt
  have lt_E_o0 : LT.lt (α := Nat) o0 h0.size := E_o0.lt
  show GoW p e below s 2 4 (Q18_0 Z o0 o1 kt ft la lb klb zf u3 u4 h0 n0) (s₁.setTop (entryFrame m #[(.ref o0), (.ref o1), (.int z0), (.int z0)] 4))
  rw [ef_18_0 m o0 o1]
  refine GoW.pre (st' := s₁.setTop (mkF m 7 #[sR o0, sR o1, sI z0, sI z0] [(.int z0), (.int z0), (.ref o1), (.int z0), (.int z0), (.ref o1), (.ref o0)])) (fun target kt => ?_) ?_
  · refine XS.aloadN X0.here hx rfl (hb hby d18_0) rfl rfl ?_
    refine XS.aloadN X0.here hx rfl (hb hby d18_1) rfl rfl ?_
    refine XS.iloadN X0.here hx rfl (hb hby d18_2) rfl ?_
    refine XS.iloadN X0.here hx rfl (hb hby d18_3) rfl ?_
    refine XS.aloadN X0.here hx rfl (hb hby d18_4) rfl rfl ?_
    refine XS.iloadN X0.here hx rfl (hb hby d18_5) rfl ?_
    refine XS.iloadN X0.here hx rfl (hb hby d18_6) rfl ?_
    exact kt
  obtain ⟨_, _, ⟨T1, L1, k1, n1⟩, -, X1, ⟨Lc1, hQ1, l1, y1, z1⟩, st1⟩ := Jvm.LawKit.callS X0 hx (y := (⟨cB, "rangeCheck", "([CII)Ljava/lang/Void;"⟩ : MethodName)) hown (mvT hZ (ow hw 116 rfl)) (mvT hZ (ow hw 117 rfl)) (mvT hZ (ow hw 2 rfl)) (mvT hZ (ow hw 118 rfl)) (by decide) (backOf (W := 4) (rm19_0 l Z a0 hw [] o1 kt ft zf h0 n0 (by omega) B_t S_F hv_zf Ol) hZ (ow hw 118 rfl) (ow hw 2 rfl) (by decide) (by decide)) (g := (mkF m 7 #[sR o0, sR o1, sI z0, sI z0] [(.int z0), (.int z0), (.ref o1), (.int z0), (.int z0), (.ref o1), (.ref o0)])) rfl (by rw [hml]; rfl) (argsL := [(.ref o1), (.int z0), (.int z0)]) (rest := [(.int z0), (.int z0), (.ref o1), (.ref o0)]) (lenOf pd18_0_0 rfl) rfl (le0 rfl) (hb hby d18_7) (fun vm₁ hvm => ⟨rfl, e0, (by decide : 0 + 0 ≤ _), (by decide : 0 + 0 ≤ _)⟩)
  dsimp only [Pt.U, Pt.locs, Pt.cells, Pt.slots] at X1 l1 y1 z1 st1 hQ1
  subst l1 y1 z1
  obtain ⟨rfl, N1q, e1⟩ := hQ1
  have N1 := Fr.app N0 N1q
  refine GoW.pre st1 ?_
  obtain ⟨_, _, ⟨T2, L2, k2, n2⟩, -, X2', hS2, hgr2, ⟨Lc2, hQ2, l2, y2, z2⟩, st2⟩ := X1.specialBackS hx (y := (⟨cB, "<init>", "([CIILjava/lang/Void;)V"⟩ : MethodName)) rfl hown (mvT hZ (ow hw 127 rfl)) (mvT hZ (ow hw 128 rfl)) (mvT hZ (ow hw 129 rfl)) (by decide) (backOfSP (fun vm => JI Z vm ["w", "v"] la) (W := 0) (rm22_0 l Z a0 hw [] o0 o1 la lb klb u3 u4 h0 n0 (by omega) E_o0 E_la F_cla F_vla A_lb hcw hheld Ol F_value_o0 (by omega) F_coder_o0) hZ (ow hw 129 rfl) (ow hw 2 rfl) (by decide) (by decide)) (g := (mkF m 10 #[sR o0, sR o1, sI z0, sI z0] [.null, (.int z0), (.int z0), (.ref o1), (.ref o0)])) rfl (by rw [hml]; rfl) (Steps.refl _) (a := o0) (argsL := [(.ref o1), (.int z0), (.int z0), .null]) (rest := []) (lenOf pd18_0_1 rfl) rfl (le0 rfl) (hb hby d18_10) (fun vm₁ hvm => ⟨rfl, e1, (by decide : 0 + 2 ≤ _), (by decide : 0 + 4 ≤ _), JI.mv hI hvm⟩)
  dsimp only [Pt.U, Pt.locs, Pt.cells, Pt.slots] at X2' l2 y2 z2 st2 hQ2 hS2 hgr2
  subst l2 y2 z2
  obtain ⟨X2, hS, hZ, hown⟩ := rebS hS (leH e1 (by omega)) X2' hS2 hgr2 hZ hown
  have hk := Nat.le_refl T2.heap.size
  obtain ⟨x2_0, k2_0, rfl, N2q, K2, KF2, ltx2_0, Y2_0, Y2_1, Y2_2, hI⟩ := hQ2
  have sz2 : h0.size ≤ T2.heap.size := K2.1
  have Y5 := (B_t.keep K2 (ninS (Ne.symm n_o0_o1) nin0))
  have ne_x2_0_o1 : x2_0 ≠ o1 := neAB Y2_2 Y5 (by decide)
  have N2 := Fr.app N1 N2q
  refine GoW.trans st2 ?_
  exact GoW.ret0 X2 hS (leH rfl (by omega)) hx hlk hrt (hb hby d18_13) (by decide) (by decide) (by exact ⟨x2_0, k2_0, rfl, N2, ((Keep.refl h0 [o0]).trans K2 (allS (Or.inl (List.mem_of_getElem? (i := 0) rfl)) all0)), ((KF.refl Z h0 [(o0, Jvm.RoadKit.slotOf Z cB "value" "[B"), (o0, Jvm.RoadKit.slotOf Z cB "coder" "B")]).trans KF2 (pallS (Or.inl (List.mem_of_getElem? (i := 0) rfl)) (pallS (Or.inl (List.mem_of_getElem? (i := 1) rfl)) pall0))), by omega, Y2_0, Y2_1, Y2_2, trivial⟩)
/-! Attributes.value (16_0) -/
theorem d16_0 : decode q28 0 = .ok (.aload_n 0, 1) := by decide +kernel
theorem d16_1 : decode q28 1 = .ok (.getfield 15, 3) := by decide +kernel
theorem d16_4 : decode q28 4 = .ok (.aload_n 0, 1) := by decide +kernel
theorem d16_5 : decode q28 5 = .ok (.iload_n 1, 1) := by decide +kernel
theorem d16_6 : decode q28 6 = .ok (.invokevirtual 33, 3) := by decide +kernel
theorem d16_9 : decode q28 9 = .ok (.aaload, 1) := by decide +kernel
theorem d16_10 : decode q28 10 = .ok (.ifnonnull 46, 3) := by decide +kernel
theorem d16_13 : decode q28 13 = .ok (.iload_n 1, 1) := by decide +kernel
theorem d16_14 : decode q28 14 = .ok (.ifCond .ne 7, 3) := by decide +kernel
theorem d16_17 : decode q28 17 = .ok (.iconst 0, 1) := by decide +kernel
theorem d16_18 : decode q28 18 = .ok (.goto 11, 3) := by decide +kernel
theorem d16_29 : decode q28 29 = .ok (.istore_n 2, 1) := by decide +kernel
theorem d16_30 : decode q28 30 = .ok (.aload_n 0, 1) := by decide +kernel
theorem d16_31 : decode q28 31 = .ok (.getfield 15, 3) := by decide +kernel
theorem d16_34 : decode q28 34 = .ok (.iload_n 1, 1) := by decide +kernel
theorem d16_35 : decode q28 35 = .ok (.new 9, 3) := by decide +kernel
theorem d16_38 : decode q28 38 = .ok (.dup, 1) := by decide +kernel
theorem d16_39 : decode q28 39 = .ok (.aload_n 0, 1) := by decide +kernel
theorem d16_40 : decode q28 40 = .ok (.getfield 22, 3) := by decide +kernel
theorem d16_43 : decode q28 43 = .ok (.iload_n 2, 1) := by decide +kernel
theorem d16_44 : decode q28 44 = .ok (.aload_n 0, 1) := by decide +kernel
theorem d16_45 : decode q28 45 = .ok (.getfield 18, 3) := by decide +kernel
theorem d16_48 : decode q28 48 = .ok (.iload_n 1, 1) := by decide +kernel
theorem d16_49 : decode q28 49 = .ok (.iaload, 1) := by decide +kernel
theorem d16_50 : decode q28 50 = .ok (.iload_n 2, 1) := by decide +kernel
theorem d16_51 : decode q28 51 = .ok (.isub, 1) := by decide +kernel
theorem d16_52 : decode q28 52 = .ok (.invokespecial 37, 3) := by decide +kernel
theorem d16_55 : decode q28 55 = .ok (.aastore, 1) := by decide +kernel
theorem d16_56 : decode q28 56 = .ok (.aload_n 0, 1) := by decide +kernel
theorem d16_57 : decode q28 57 = .ok (.getfield 15, 3) := by decide +kernel
theorem d16_60 : decode q28 60 = .ok (.iload_n 1, 1) := by decide +kernel
theorem d16_61 : decode q28 61 = .ok (.aaload, 1) := by decide +kernel
theorem d16_62 : decode q28 62 = .ok (.areturn, 1) := by decide +kernel
theorem pn_16 : plainName "com/example/satzung/satzung/parse/Attributes" = true := by first | (simp [plainName, overriddenIn]; done) | decide +kernel
theorem pd16_0_0 : parseMethodDescriptor "(I)I" = some ⟨[.int], some .int⟩ := by decide +kernel
theorem pd16_0_1 : parseMethodDescriptor "([CII)V" = some ⟨[(.array .char), .int, .int], none⟩ := by decide +kernel
theorem ef_16_0 (m : MethodId) (o0 : Addr) : entryFrame m #[(.ref o0), (.int (0 : Int32))] 3 = (mkF m 0 #[.val (.ref o0), .val (.int (0 : Int32)), .unset] []) := by first | (simp [entryFrame, mkF, argsToLocals, Value.category]; done) | rfl
def Q16_0 (Z : State) (o0 : Addr) (an : Addr) (kan : ClassId) (fan : Int32 → Value) (av : Addr) (kav : ClassId) (fav : Int32 → Value) (ae : Addr) (kae : ClassId) (fae : Int32 → Value) (tx : Addr) (ktx : ClassId) (ftx : Int32 → Value) (us : Value) (ut : Value) (la : Addr) (lb : Addr) (klb : ClassId) (zf : Value) (h0 : Heap) (n0 : Nat) (v : Option Value) (vm : Vm) (h : Heap) (L : List Loc) : Prop := ∃ b5 : Addr, ∃ x12_0 : Addr, ∃ k12_0 : ClassId, v = some (.ref b5) ∧ Fr n0 L ∧ Keep h0 h [av] ∧ KF Z h0 h [(av, (z0).toNatClampNeg)] ∧ LE.le (α := Nat) h0.size b5 ∧ LT.lt (α := Nat) b5 h.size ∧ LT.lt (α := Nat) x12_0 h.size ∧ Arf Z h av kav (.object cB) z16 (own_upd fav z0 (.ref b5)) ∧ Exa Z h b5 cB ∧ Fld Z h b5 cB "hash" "I" (.int z0) ∧ Fld Z h b5 cB "hashIsZero" "Z" (.int z0) ∧ Fld Z h b5 cB "value" "[B" (.ref x12_0) ∧ Fld Z h b5 cB "coder" "B" (.int (nar .byte z0)) ∧ Arv Z h x12_0 k12_0 .byte z0 [] (.int 0) ∧ True
theorem rm16_0 (l : Launch) (Z : State) (a0 : Array Value) (hw : ∀ d ∈ tables_1, d.before a0 Z = true) (ws : List Jvm.Cond) (o0 : Addr) (an : Addr) (kan : ClassId) (fan : Int32 → Value) (av : Addr) (kav : ClassId) (fav : Int32 → Value) (ae : Addr) (kae : ClassId) (fae : Int32 → Value) (tx : Addr) (ktx : ClassId) (ftx : Int32 → Value) (us : Value) (ut : Value) (la : Addr) (lb : Addr) (klb : ClassId) (zf : Value) (h0 : Heap) (n0 : Nat) (Z0 : n0 ≤ h0.size) (E_o0 : Exa Z h0 o0 cA) (F_se : Fld Z h0 o0 cA "size" "I" (.int z1)) (F_sd : Fld Z h0 o0 cA "specified" "I" us) (F_th : Fld Z h0 o0 cA "textLength" "I" ut) (F_ix : Fld Z h0 o0 cA "index" "Ljava/util/Map;" .null) (Fan : Fld Z h0 o0 cA "names" cD (.ref an)) (B_an : Arf Z h0 an kan (.object cB) z16 fan) (Fav : Fld Z h0 o0 cA "values" cD (.ref av)) (B_av : Arf Z h0 av kav (.object cB) z16 fav) (Fae : Fld Z h0 o0 cA "ends" "[I" (.ref ae)) (B_ae : Arf Z h0 ae kae .int z16 fae) (Ftx : Fld Z h0 o0 cA "text" "[C" (.ref tx)) (B_tx : Arf Z h0 tx ktx .char z1024 ftx) (O_an : Ovr Z kan cB) (O_av : Ovr Z kav cB) (n_o0_an : o0 ≠ an) (n_o0_av : o0 ≠ av) (n_o0_ae : o0 ≠ ae) (n_o0_tx : o0 ≠ tx) (n_an_av : an ≠ av) (n_an_ae : an ≠ ae) (n_av_ae : av ≠ ae) (n_an_tx : an ≠ tx) (n_av_tx : av ≠ tx) (n_ae_tx : ae ≠ tx) (hrv : fav z0 = .null) (hre : fae z0 = .int z0) (E_la : Exa Z h0 la cB) (F_cla : Fld Z h0 la cB "coder" "B" (.int z0)) (F_vla : Fld Z h0 la cB "value" "[B" (.ref lb)) (A_lb : Arv Z h0 lb klb .byte z0 [] (.int 0)) (hcw : Jvm.Lit.compactW.before a0 Z = true) (hheld : ∀ q ∈ consts_1, Jvm.Lit.constHeld Z q.1 q.2) (Ol : Old Z n0 h0) (S_F : Sta Z Z.heap cE "SIOOBE_FORMATTER" "Ljava/util/function/BiFunction;" zf) (hv_zf : zf.isRef = true) (g_av : n0 ≤ av) :
    MetFree l (⟨cA, "value", "(I)Ljava/lang/String;"⟩ : MethodName) (head1 (Jvm.Cond.code (⟨cA, "value", "(I)Ljava/lang/String;"⟩ : MethodName) prog_64_method_6_code 3 (some (.object cB)) :: ws) ({ frames := 4, cells := 3, slots := 8, locals := 65 } : Room)) (fun a U => a = #[(.ref o0), (.int z0)] ∧ Z.Warmed39 U.vm ∧ U.heap = h0 ∧ JI Z U.vm ["w", "v"] la) (fun _ _ _ _ _ => True) (fun _ U o U' => ∃ v L, o = .returned v ∧ Q16_0 Z o0 an kan fan av kav fav ae kae fae tx ktx ftx us ut la lb klb zf h0 n0 v U'.vm U'.heap L ∧ ReturnedEndW U o U' L ({ frames := 4, cells := 3, slots := 8, locals := 65 } : Room).cells ({ frames := 4, cells := 3, slots := 8, locals := 65 } : Room).slots) := by
  refine MetFree.of_bodySF (plainFor_of_name pn_16) hisR ?_
  intro p e s m args below meth c s₁ Bd hml0 hP hK
  obtain ⟨rfl, hZ, hh, hI⟩ := hP
  have hx := Bd.exec
  have hby := Bd.bytes
  have hml : c.maxLocals = 3 := hml0
  have hown : s.vm.findClass cA = some m.cls := findClass_of_methodNamed Bd.named
  have hnm := (name_of_methodNamed Bd.named Bd.method).1
  have hrt := Bd.returns
  have hlk := Bd.notSynchronized
  have X0 : Stand p l e ({ frames := 4, cells := 3, slots := 8, locals := 65 } : Room) (s.setVm s.vm) m #[(.ref o0), (.int z0)] below meth c s₁ [] 0 0 := Stand.of_body Bd
  have hS : s.Since s.vm 0 := (State.WarmedH.refl s).since 0
  have hk := Nat.zero_le h0.size
  have hkp : ∀ (b : Addr) (cl : Cell), Z.heap[b]? = some cl → s.heap[b]? = some cl := fun b cl q => by rw [show (s.heap : Heap) = h0 from hh]; exact Ol.2.2 b cl q
  have e0 : s₁.heap = h0 := by rw [← hh, Bd.state]; rfl
  have N0 := Fr.nil n0
  have lt_E_o0 : LT.lt (α := Nat) o0 h0.size := E_o0.lt
  have lt_B_an : LT.lt (α := Nat) an h0.size := B_an.lt
  have lt_B_av : LT.lt (α := Nat) av h0.size := B_av.lt
  have lt_B_ae : LT.lt (α := Nat) ae h0.size := B_ae.lt
  have lt_B_tx : LT.lt (α := Nat) tx h0.size := B_tx.lt
  have lt_E_la : LT.lt (α := Nat) la h0.size := E_la.lt
  have lt_A_lb : LT.lt (α := Nat) lb h0.size := A_lb.lt
  show GoW p e below s 3 8 (Q16_0 Z o0 an kan fan av kav fav ae kae fae tx ktx ftx us ut la lb klb zf h0 n0) (s₁.setTop (entryFrame m #[(.ref o0), (.int z0)] 3))
  rw [ef_16_0 m o0]
  refine GoW.pre (st' := s₁.setTop (mkF m 1 #[sR o0, sI z0, sU] [(.ref o0)])) (fun target kt => ?_) ?_
  · refine XS.aloadN X0.here hx rfl (hb hby d16_0) rfl rfl ?_
    exact kt
  obtain ⟨T1, X1, e1, st1⟩ := getF X0 hx hZ hown (host := "") (Or.inl (ow hw 38 rfl)) Via.refl e0 Fav (g := (mkF m 1 #[sR o0, sI z0, sU] [(.ref o0)])) rfl rfl (hb hby d16_1)
  refine GoW.pre st1 ?_
  refine GoW.pre (st' := T1.setTop (mkF m 6 #[sR o0, sI z0, sU] [(.int z0), (.ref o0), (.ref av)])) (fun target kt => ?_) ?_
  · refine XS.aloadN X1.here hx rfl (hb hby d16_4) rfl rfl ?_
    refine XS.iloadN X1.here hx rfl (hb hby d16_5) rfl ?_
    exact kt
  obtain ⟨cq2, q2, q2'⟩ := E_o0.cell
  obtain ⟨_, _, ⟨T2, L2, k2, n2⟩, -, X2, ⟨Lc2, hQ2, l2, y2, z2⟩, st2⟩ := X1.privateBack hx (y := (⟨cA, "checked", "(I)I"⟩ : MethodName)) hown (mvT hZ (ow hw 109 rfl)) (mvT hZ (ow hw 110 rfl)) (mvT hZ (selects_private (y := (⟨cA, "checked", "(I)I"⟩ : MethodName)) (ow hw 28 rfl) (ow hw 111 rfl) (ow hw 110 rfl))) (Cond.privateMethod_at (mvP hZ (ow hw 111 rfl) (args := #[]))) (mvT hZ (ow hw 112 rfl)) (by decide) (backOf (W := 1) (rm17 l Z a0 hw [] o0 h0 n0 (by omega) F_se) hZ (ow hw 112 rfl) (ow hw 29 rfl) (by decide) (by decide)) (g := (mkF m 6 #[sR o0, sI z0, sU] [(.int z0), (.ref o0), (.ref av)])) rfl (by rw [hml]; rfl) (Steps.refl _) (a := o0) (by rw [e1]; exact q2) q2' (argsL := [(.int z0)]) (rest := [(.ref av)]) (lenOf pd16_0_0 rfl) rfl (le0 rfl) (hb hby d16_6) (fun vm₁ hvm => ⟨rfl, e1, (by decide : 0 + 0 ≤ _), (by decide : 0 + 0 ≤ _)⟩)
  dsimp only [Pt.U, Pt.locs, Pt.cells, Pt.slots] at X2 l2 y2 z2 st2 hQ2
  subst l2 y2 z2
  obtain ⟨rfl, N2q, e2⟩ := hQ2
  have N2 := Fr.app N0 N2q
  refine GoW.trans st2 ?_
  obtain ⟨cl3, Ar3, q3, Sz3, Nn3, Hs3⟩ := id B_av
  have in3 : ¬ (z0 < 0 ∨ cl3.slots.size ≤ (z0).toNatClampNeg) := by rw [Sz3]; exact (by decide)
  have at3 : cl3.slots[(z0).toNatClampNeg]? = some .null := (Hs3 _ in3).1.trans (congrArg some hrv)
  refine GoW.pre (X2.aaload hx (j := z0) (v := .null) (by rw [e2]; exact Ar3.1) (State.isArrayOf_alike hZ.alike Ar3.2.1) rfl Ar3.2.2 in3 at3 (g := (mkF m 9 #[sR o0, sI z0, sU] [(.int z0), (.ref av)])) rfl rfl (hb hby d16_9)) ?_
  refine GoW.pre (st' := T2.setTop (mkF m 31 #[sR o0, sI z0, sI z0] [(.ref o0)])) (fun target kt => ?_) ?_
  · refine XS.ifnonnullNo X2.here hx rfl (hb hby d16_10) rfl ?_
    refine XS.iloadN X2.here hx rfl (hb hby d16_13) rfl ?_
    refine XS.ifNo X2.here hx rfl (hb hby d16_14) rfl ((if0 _ _).trans (teq (by decide)).2) ?_
    refine XS.iconst X2.here hx rfl (hb hby d16_17) ?_
    refine XS.goto X2.here hx rfl (pc0 := 18) (pc' := 29) rfl (hb hby d16_18) (by decide) (by decide) ?_
    refine XS.istoreN X2.here hx rfl (hb hby d16_29) rfl (l' := #[.val (.ref o0), .val (.int z0), .val (.int z0)]) rfl ?_
    refine XS.aloadN X2.here hx rfl (hb hby d16_30) rfl rfl ?_
    exact kt
  obtain ⟨T4, X4, e4, st4⟩ := getF X2 hx hZ hown (host := "") (Or.inl (ow hw 38 rfl)) Via.refl e2 Fav (g := (mkF m 31 #[sR o0, sI z0, sI z0] [(.ref o0)])) rfl rfl (hb hby d16_31)
  refine GoW.pre st4 ?_
  refine GoW.pre (st' := T4.setTop (mkF m 35 #[sR o0, sI z0, sI z0] [(.int z0), (.ref av)])) (fun target kt => ?_) ?_
  · refine XS.iloadN X4.here hx rfl (hb hby d16_34) rfl ?_
    exact kt
  obtain ⟨T5, h5, X5, e5, E5, A5, D5, -, st5⟩ := newO X4 hx hZ hown (ow hw 34 rfl) (ow hw 10 rfl) (ow hw 2 rfl) e4 (g := (mkF m 35 #[sR o0, sI z0, sI z0] [(.int z0), (.ref av)])) rfl (hb hby d16_35) (by decide) (by decide)
  obtain ⟨b5, g5⟩ : ∃ z, z = h0.size := ⟨_, rfl⟩
  rw [← g5] at A5 D5 st5
  have sz5 : h0.size ≤ h5.size := E5.1
  have lt5 : b5 < h5.size := A5.lt
  have F5_value : Fld Z h5 b5 cB "value" "[B" .null := D5 (Or.inr (ow hw 23 rfl)) (ty := (.array .byte)) (by decide)
  have F5_coder : Fld Z h5 b5 cB "coder" "B" (.int z0) := D5 (Or.inr (ow hw 25 rfl)) (ty := .byte) (by decide)
  have F5_hash : Fld Z h5 b5 cB "hash" "I" (.int z0) := D5 (Or.inl (ow hw 142 rfl)) (ty := .int) (by decide)
  have F5_hashIsZero : Fld Z h5 b5 cB "hashIsZero" "Z" (.int z0) := D5 (Or.inl (ow hw 144 rfl)) (ty := .boolean) (by decide)
  refine GoW.pre st5 ?_
  refine GoW.pre (st' := T5.setTop (mkF m 40 #[sR o0, sI z0, sI z0] [(.ref o0), (.ref b5), (.ref b5), (.int z0), (.ref av)])) (fun target kt => ?_) ?_
  · refine XS.dup X5.here hx rfl (hb hby d16_38) rfl rfl ?_
    refine XS.aloadN X5.here hx rfl (hb hby d16_39) rfl rfl ?_
    exact kt
  have Y6 := (Ftx.ext E5)
  obtain ⟨T7, X7, e7, st7⟩ := getF X5 hx hZ hown (host := "") (Or.inl (ow hw 43 rfl)) Via.refl e5 Y6 (g := (mkF m 40 #[sR o0, sI z0, sI z0] [(.ref o0), (.ref b5), (.ref b5), (.int z0), (.ref av)])) rfl rfl (hb hby d16_40)
  refine GoW.pre st7 ?_
  refine GoW.pre (st' := T7.setTop (mkF m 45 #[sR o0, sI z0, sI z0] [(.ref o0), (.int z0), (.ref tx), (.ref b5), (.ref b5), (.int z0), (.ref av)])) (fun target kt => ?_) ?_
  · refine XS.iloadN X7.here hx rfl (hb hby d16_43) rfl ?_
    refine XS.aloadN X7.here hx rfl (hb hby d16_44) rfl rfl ?_
    exact kt
  have Y8 := (Fae.ext E5)
  obtain ⟨T9, X9, e9, st9⟩ := getF X7 hx hZ hown (host := "") (Or.inl (ow hw 41 rfl)) Via.refl e7 Y8 (g := (mkF m 45 #[sR o0, sI z0, sI z0] [(.ref o0), (.int z0), (.ref tx), (.ref b5), (.ref b5), (.int z0), (.ref av)])) rfl rfl (hb hby d16_45)
  refine GoW.pre st9 ?_
  refine GoW.pre (st' := T9.setTop (mkF m 49 #[sR o0, sI z0, sI z0] [(.int z0), (.ref ae), (.int z0), (.ref tx), (.ref b5), (.ref b5), (.int z0), (.ref av)])) (fun target kt => ?_) ?_
  · refine XS.iloadN X9.here hx rfl (hb hby d16_48) rfl ?_
    exact kt
  have Y10 := (B_ae.ext E5)
  obtain ⟨cl11, Ar11, q11, Sz11, Nn11, Hs11⟩ := id Y10
  have in11 : ¬ (z0 < 0 ∨ cl11.slots.size ≤ (z0).toNatClampNeg) := by rw [Sz11]; exact (by decide)
  have at11 : cl11.slots[(z0).toNatClampNeg]? = some (.int z0) := (Hs11 _ in11).1.trans (congrArg some hre)
  refine GoW.pre (X9.iaload hx (j := z0) (v := (.int z0)) (by rw [e9]; exact Ar11.1) (State.isArrayOf_alike hZ.alike Ar11.2.1) Ar11.2.2 in11 at11 (g := (mkF m 49 #[sR o0, sI z0, sI z0] [(.int z0), (.ref ae), (.int z0), (.ref tx), (.ref b5), (.ref b5), (.int z0), (.ref av)])) rfl rfl (hb hby d16_49)) ?_
  refine GoW.pre (st' := T9.setTop (mkF m 52 #[sR o0, sI z0, sI z0] [(.int z0), (.int z0), (.ref tx), (.ref b5), (.ref b5), (.int z0), (.ref av)])) (fun target kt => ?_) ?_
  · refine XS.iloadN X9.here hx rfl (hb hby d16_50) rfl ?_
    refine XS.isub X9.here hx rfl (hb hby d16_51) rfl ?_
    exact kt
  have Y13 := (B_tx.ext E5)
  have Y14 := (E_la.ext E5)
  have Y15 := (F_cla.ext E5)
  have Y16 := (F_vla.ext E5)
  have Y17 := (A_lb.ext E5)
  have Y18 := (Ol.ext E5)
  obtain ⟨_, _, ⟨T12, L12, k12, n12⟩, -, X12', hS12, hgr12, ⟨Lc12, hQ12, l12, y12, z12⟩, st12⟩ := X9.specialBackS hx (y := (⟨cB, "<init>", "([CII)V"⟩ : MethodName)) rfl hown (mvT hZ (ow hw 113 rfl)) (mvT hZ (ow hw 114 rfl)) (mvT hZ (ow hw 115 rfl)) (by decide) (backOfSP (fun vm => JI Z vm ["w", "v"] la) (W := 3) (rm18_0 l Z a0 hw [] b5 tx ktx ftx la lb klb zf .null (.int z0) h5 n0 (by omega) Y13 Y14 Y15 Y16 Y17 hcw hheld Y18 S_F hv_zf (neN (by omega)) A5 F5_value (by omega) F5_coder) hZ (ow hw 115 rfl) (ow hw 2 rfl) (by decide) (by decide)) (g := (mkF m 52 #[sR o0, sI z0, sI z0] [(.int z0), (.int z0), (.ref tx), (.ref b5), (.ref b5), (.int z0), (.ref av)])) rfl (by rw [hml]; rfl) (Steps.refl _) (a := b5) (argsL := [(.ref tx), (.int z0), (.int z0)]) (rest := [(.ref b5), (.int z0), (.ref av)]) (lenOf pd16_0_1 rfl) rfl (le0 rfl) (hb hby d16_52) (fun vm₁ hvm => ⟨rfl, e9, (by decide : 1 + 2 ≤ _), (by decide : 4 + 4 ≤ _), JI.mv hI hvm⟩)
  dsimp only [Pt.U, Pt.locs, Pt.cells, Pt.slots] at X12' l12 y12 z12 st12 hQ12 hS12 hgr12
  subst l12 y12 z12
  obtain ⟨X12, hS, hZ, hown⟩ := rebS hS (leH e9 (by omega)) X12' hS12 hgr12 hZ hown
  have hk := Nat.le_refl T12.heap.size
  obtain ⟨x12_0, k12_0, rfl, N12q, K12, KF12, ltx12_0, Y12_0, Y12_1, Y12_2, hI⟩ := hQ12
  have sz12 : h5.size ≤ T12.heap.size := K12.1
  have Y19 := ((B_an.ext E5).keep K12 (ninS (neN (by omega)) nin0))
  have ne_x12_0_an : x12_0 ≠ an := neAB Y12_2 Y19 (by decide)
  have Y20 := ((B_av.ext E5).keep K12 (ninS (neN (by omega)) nin0))
  have ne_x12_0_av : x12_0 ≠ av := neAB Y12_2 Y20 (by decide)
  have Y21 := (Y10.keep K12 (ninS (neN (by omega)) nin0))
  have ne_x12_0_ae : x12_0 ≠ ae := neAB Y12_2 Y21 (by decide)
  have Y22 := (Y13.keep K12 (ninS (neN (by omega)) nin0))
  have ne_x12_0_tx : x12_0 ≠ tx := neAB Y12_2 Y22 (by decide)
  have N12 := Fr.app N2 N12q
  refine GoW.trans st12 ?_
  obtain ⟨cl23, Ar23, q23, Sz23, Nn23, Hs23⟩ := id Y20
  have in23 : ¬ (z0 < 0 ∨ cl23.slots.size ≤ (z0).toNatClampNeg) := by rw [Sz23]; exact (by decide)
  have Y24 := (A5.keep K12)
  obtain ⟨T23, h23, X23, e23, W23, st23⟩ := stR X12 hx hZ rfl Ar23 (j := z0) in23 rfl (Sto.ofV Ar23 q23 O_av (Ins.self Y24)) (g := (mkF m 55 #[sR o0, sI z0, sI z0] [(.ref b5), (.int z0), (.ref av)])) rfl rfl (hb hby d16_55)
  have sz23 : T12.heap.size ≤ h23.size := (Keep.of_wr W23).1
  have V23 : Arf Z h23 av kav (.object cB) z16 (own_upd fav z0 (.ref b5)) := Arf.set Ar23 q23 Sz23 Nn23 Hs23 rfl in23 W23
  have N23 := Fr.snoc X23 N12 (by omega)
  refine GoW.pre st23 ?_
  refine GoW.pre (st' := T23.setTop (mkF m 57 #[sR o0, sI z0, sI z0] [(.ref o0)])) (fun target kt => ?_) ?_
  · refine XS.aloadN X23.here hx rfl (hb hby d16_56) rfl rfl ?_
    exact kt
  have Y25 := (((Fav.ext E5).keep K12 (ninS (neN (by omega)) nin0)).other W23 (Or.inl n_o0_av))
  obtain ⟨T26, X26, e26, st26⟩ := getF X23 hx hZ hown (host := "") (Or.inl (ow hw 38 rfl)) Via.refl e23 Y25 (g := (mkF m 57 #[sR o0, sI z0, sI z0] [(.ref o0)])) rfl rfl (hb hby d16_57)
  refine GoW.pre st26 ?_
  refine GoW.pre (st' := T26.setTop (mkF m 61 #[sR o0, sI z0, sI z0] [(.int z0), (.ref av)])) (fun target kt => ?_) ?_
  · refine XS.iloadN X26.here hx rfl (hb hby d16_60) rfl ?_
    exact kt
  obtain ⟨cl27, Ar27, q27, Sz27, Nn27, Hs27⟩ := id V23
  have in27 : ¬ (z0 < 0 ∨ cl27.slots.size ≤ (z0).toNatClampNeg) := by rw [Sz27]; exact (by decide)
  have at27 : cl27.slots[(z0).toNatClampNeg]? = some (.ref b5) := (Hs27 _ in27).1.trans (congrArg some (own_hit _ _ _))
  refine GoW.pre (X26.aaload hx (j := z0) (v := (.ref b5)) (by rw [e26]; exact Ar27.1) (State.isArrayOf_alike hZ.alike Ar27.2.1) rfl Ar27.2.2 in27 at27 (g := (mkF m 61 #[sR o0, sI z0, sI z0] [(.int z0), (.ref av)])) rfl rfl (hb hby d16_61)) ?_
  have Y28 := (Y24.wr W23)
  have Y29 := ((KF12 _ _ _ _ _ F5_hash (pallS (Or.inr (slot_ne (Or.inl (ow hw 142 rfl)) (Or.inr (ow hw 23 rfl)) (by decide) (t := .int) (t' := (.array .byte)) (by decide) (by decide))) (pallS (Or.inr (slot_ne (Or.inl (ow hw 142 rfl)) (Or.inr (ow hw 25 rfl)) (by decide) (t := .int) (t' := .byte) (by decide) (by decide))) pall0))).other W23 (Or.inl (neN (by omega))))
  have Y30 := ((KF12 _ _ _ _ _ F5_hashIsZero (pallS (Or.inr (slot_ne (Or.inl (ow hw 144 rfl)) (Or.inr (ow hw 23 rfl)) (by decide) (t := .boolean) (t' := (.array .byte)) (by decide) (by decide))) (pallS (Or.inr (slot_ne (Or.inl (ow hw 144 rfl)) (Or.inr (ow hw 25 rfl)) (by decide) (t := .boolean) (t' := .byte) (by decide) (by decide))) pall0))).other W23 (Or.inl (neN (by omega))))
  have Y31 := (Y12_0.other W23 (Or.inl (neN (by omega))))
  have Y32 := (Y12_1.other W23 (Or.inl (neN (by omega))))
  have Y33 := (Y12_2.other W23 ne_x12_0_av)
  exact GoW.retV X26 hS (leH e26 (by omega)) hx hlk hrt rfl (Or.inr (Or.inr (Or.inr (Or.inr ⟨rfl, rfl, rfl⟩)))) (hb hby d16_62) (by decide) (by decide) (by rw [e26]; exact ⟨b5, x12_0, k12_0, rfl, N23, ((((Keep.refl h0 [av]).ext E5).trans K12 (allS (Or.inr (by omega)) all0)).wr W23 (Or.inl (List.mem_of_getElem? (i := 0) rfl))), ((((KF.refl Z h0 [(av, (z0).toNatClampNeg)]).ext E5).trans KF12 (pallS (Or.inr (by show _ ≤ b5; omega)) (pallS (Or.inr (by show _ ≤ b5; omega)) pall0))).wr W23 (Or.inl (List.mem_of_getElem? (i := 0) rfl))), by omega, by omega, by omega, V23, Y28, Y29, Y30, Y31, Y32, Y33, trivial⟩)
/-! Attributes.add (13_1) -/
theorem pd13_1_0 : parseMethodDescriptor "(Ljava/lang/String;Ljava/lang/String;)V" = some ⟨[(.object "java/lang/String"), (.object "java/lang/String")], none⟩ := by decide +kernel
theorem ef_13_1 (m : MethodId) (o0 : Addr) (o1 : Addr) (o2 : Addr) : entryFrame m #[(.ref o0), (.ref o1), (.ref o2), (.int (0 : Int32)), (.int (1 : Int32))] 5 = (mkF m 0 #[.val (.ref o0), .val (.ref o1), .val (.ref o2), .val (.int (0 : Int32)), .val (.int (1 : Int32))] []) := by first | (simp [entryFrame, mkF, argsToLocals, Value.category]; done) | rfl
def Q13_1 (Z : State) (o0 : Addr) (o1 : Addr) (o2 : Addr) (an : Addr) (kan : ClassId) (fan : Int32 → Value) (av : Addr) (kav : ClassId) (fav : Int32 → Value) (ae : Addr) (kae : ClassId) (fae : Int32 → Value) (tx : Addr) (ktx : ClassId) (ftx : Int32 → Value) (us : Value) (kg : ClassId) (c0 : Int32) (c1 : Int32) (h0 : Heap) (n0 : Nat) (v : Option Value) (h : Heap) (L : List Loc) : Prop := v = none ∧ Fr n0 L ∧ Keep h0 h [tx, o0, an, av, ae] ∧ True ∧ Arf Z h tx ktx .char z1024 (own_cp (own_lf [(.int c0), (.int c1)] (.int z0)) ftx z1) ∧ Fld Z h o0 cA "size" "I" (.int z1) ∧ Fld Z h o0 cA "specified" "I" (.int z1) ∧ Fld Z h o0 cA "textLength" "I" (.int z1) ∧ Fld Z h o0 cA "index" "Ljava/util/Map;" .null ∧ Fld Z h o0 cA "names" cD (.ref an) ∧ Fld Z h o0 cA "values" cD (.ref av) ∧ Fld Z h o0 cA "ends" "[I" (.ref ae) ∧ Fld Z h o0 cA "text" "[C" (.ref tx) ∧ Arf Z h an kan (.object cB) z16 (own_upd fan z0 (.ref o1)) ∧ Arf Z h av kav (.object cB) z16 (own_upd fav z0 .null) ∧ Arf Z h ae kae .int z16 (own_upd fae z0 (.int z1))
theorem rm13_1 (l : Launch) (Z : State) (a0 : Array Value) (hw : ∀ d ∈ tables_1, d.before a0 Z = true) (ws : List Jvm.Cond) (o0 : Addr) (o1 : Addr) (o2 : Addr) (an : Addr) (kan : ClassId) (fan : Int32 → Value) (av : Addr) (kav : ClassId) (fav : Int32 → Value) (ae : Addr) (kae : ClassId) (fae : Int32 → Value) (tx : Addr) (ktx : ClassId) (ftx : Int32 → Value) (us : Value) (kg : ClassId) (c0 : Int32) (c1 : Int32) (h0 : Heap) (n0 : Nat) (Z0 : n0 ≤ h0.size) (E_o0 : Exa Z h0 o0 cA) (F_se : Fld Z h0 o0 cA "size" "I" (.int z0)) (F_sd : Fld Z h0 o0 cA "specified" "I" us) (F_th : Fld Z h0 o0 cA "textLength" "I" (.int z0)) (F_ix : Fld Z h0 o0 cA "index" "Ljava/util/Map;" .null) (Fan : Fld Z h0 o0 cA "names" cD (.ref an)) (B_an : Arf Z h0 an kan (.object cB) z16 fan) (Fav : Fld Z h0 o0 cA "values" cD (.ref av)) (B_av : Arf Z h0 av kav (.object cB) z16 fav) (Fae : Fld Z h0 o0 cA "ends" "[I" (.ref ae)) (B_ae : Arf Z h0 ae kae .int z16 fae) (Ftx : Fld Z h0 o0 cA "text" "[C" (.ref tx)) (B_tx : Arf Z h0 tx ktx .char z1024 ftx) (O_an : Ovr Z kan cB) (O_av : Ovr Z kav cB) (n_o0_an : o0 ≠ an) (n_o0_av : o0 ≠ av) (n_o0_ae : o0 ≠ ae) (n_o0_tx : o0 ≠ tx) (n_an_av : an ≠ av) (n_an_ae : an ≠ ae) (n_av_ae : av ≠ ae) (n_an_tx : an ≠ tx) (n_av_tx : av ≠ tx) (n_ae_tx : ae ≠ tx) (A_o2 : Arv Z h0 o2 kg .char z2 [(.int c0), (.int c1)] (.int z0)) (E_o1 : Exa Z h0 o1 cB) (n_o2_an : o2 ≠ an) (n_o2_av : o2 ≠ av) (n_o2_ae : o2 ≠ ae) (n_o2_tx : o2 ≠ tx) (n_o0_o2 : o0 ≠ o2) (g_tx : n0 ≤ tx) (g_o0 : n0 ≤ o0) (g_an : n0 ≤ an) (g_av : n0 ≤ av) (g_ae : n0 ≤ ae) :
    MetFree l (⟨cA, "add", "(Ljava/lang/String;[CII)V"⟩ : MethodName) (head1 (Jvm.Cond.code (⟨cA, "add", "(Ljava/lang/String;[CII)V"⟩ : MethodName) prog_64_method_9_code 5 none :: ws) ({ frames := 1, cells := 0, slots := 0, locals := 60 } : Room)) (fun a U => a = #[(.ref o0), (.ref o1), (.ref o2), (.int z0), (.int z1)] ∧ Z.Warmed39 U.vm ∧ U.heap = h0) (fun _ _ _ _ _ => True) (fun _ U o U' => ∃ v L, o = .returned v ∧ Q13_1 Z o0 o1 o2 an kan fan av kav fav ae kae fae tx ktx ftx us kg c0 c1 h0 n0 v U'.heap L ∧ FrameEnd U o U' L ({ frames := 1, cells := 0, slots := 0, locals := 60 } : Room).cells ({ frames := 1, cells := 0, slots := 0, locals := 60 } : Room).slots) := by
  refine MetFree.of_bodySF (plainFor_of_name pn_13) hisR ?_
  intro p e s m args below meth c s₁ Bd hml0 hP hK
  obtain ⟨rfl, hZ, hh⟩ := hP
  have hx := Bd.exec
  have hby := Bd.bytes
  have hml : c.maxLocals = 5 := hml0
  have hown : s.vm.findClass cA = some m.cls := findClass_of_methodNamed Bd.named
  have hnm := (name_of_methodNamed Bd.named Bd.method).1
  have hrt := Bd.returns
  have hlk := Bd.notSynchronized
  have X0 : Stand p l e ({ frames := 1, cells := 0, slots := 0, locals := 60 } : Room) s m #[(.ref o0), (.ref o1), (.ref o2), (.int z0), (.int z1)] below meth c s₁ [] 0 0 := Stand.of_body Bd
  have e0 : s₁.heap = h0 := by rw [← hh, Bd.state]; rfl
  have N0 := Fr.nil n0
  have lt_E_o0 : LT.lt (α := Nat) o0 h0.size := E_o0.lt
  have lt_B_an : LT.lt (α := Nat) an h0.size := B_an.lt
  have lt_B_av : LT.lt (α := Nat) av h0.size := B_av.lt
  have lt_B_ae : LT.lt (α := Nat) ae h0.size := B_ae.lt
  have lt_B_tx : LT.lt (α := Nat) tx h0.size := B_tx.lt
  have lt_A_o2 : LT.lt (α := Nat) o2 h0.size := A_o2.lt
  have lt_E_o1 : LT.lt (α := Nat) o1 h0.size := E_o1.lt
  show Go p e below s 0 0 (Q13_1 Z o0 o1 o2 an kan fan av kav fav ae kae fae tx ktx ftx us kg c0 c1 h0 n0) (s₁.setTop (entryFrame m #[(.ref o0), (.ref o1), (.ref o2), (.int z0), (.int z1)] 5))
  rw [ef_13_1 m o0 o1 o2]
  refine Go.pre (st' := s₁.setTop (mkF m 1 #[sR o0, sR o1, sR o2, sI z0, sI z1] [(.ref o0)])) (fun target kt => ?_) ?_
  · refine XS.aloadN X0.here hx rfl (hb hby d13_0) rfl rfl ?_
    exact kt
  obtain ⟨T1, X1, e1, st1⟩ := getF X0 hx hZ hown (host := "") (Or.inl (ow hw 59 rfl)) Via.refl e0 F_th (g := (mkF m 1 #[sR o0, sR o1, sR o2, sI z0, sI z1] [(.ref o0)])) rfl rfl (hb hby d13_1)
  refine Go.pre st1 ?_
  refine Go.pre (st' := T1.setTop (mkF m 8 #[sR o0, sR o1, sR o2, sI z0, sI z1] [(.ref o0), (.int z1)])) (fun target kt => ?_) ?_
  · refine XS.iload X1.here hx rfl (hb hby d13_4) rfl ?_
    refine XS.iadd X1.here hx rfl (hb hby d13_6) rfl ?_
    refine XS.aloadN X1.here hx rfl (hb hby d13_7) rfl rfl ?_
    exact kt
  obtain ⟨T2, X2, e2, st2⟩ := getF X1 hx hZ hown (host := "") (Or.inl (ow hw 43 rfl)) Via.refl e1 Ftx (g := (mkF m 8 #[sR o0, sR o1, sR o2, sI z0, sI z1] [(.ref o0), (.int z1)])) rfl rfl (hb hby d13_8)
  refine Go.pre st2 ?_
  obtain ⟨cl3, Ar3, -, Sz3, Nn3, -⟩ := id B_tx
  have st3 := X2.arraylength hx (by rw [e2]; exact Ar3.1) (State.isArrayOf_alike hZ.alike Ar3.2.1) (g := (mkF m 11 #[sR o0, sR o1, sR o2, sI z0, sI z1] [(.ref tx), (.int z1)])) rfl rfl (hb hby d13_11)
  rw [len_of Sz3 Nn3] at st3
  refine Go.pre st3 ?_
  refine Go.pre (st' := T2.setTop (mkF m 46 #[sR o0, sR o1, sR o2, sI z0, sI z1] [(.ref o0), (.int z0), (.ref o2)])) (fun target kt => ?_) ?_
  · refine XS.icmpYes X2.here hx rfl (pc0 := 12) (pc' := 43) rfl (hb hby d13_12) rfl (flt (by decide)).2.2.2 (by decide) (by decide) ?_
    refine XS.aloadN X2.here hx rfl (hb hby d13_43) rfl rfl ?_
    refine XS.iloadN X2.here hx rfl (hb hby d13_44) rfl ?_
    refine XS.aloadN X2.here hx rfl (hb hby d13_45) rfl rfl ?_
    exact kt
  obtain ⟨T4, X4, e4, st4⟩ := getF X2 hx hZ hown (host := "") (Or.inl (ow hw 43 rfl)) Via.refl e2 Ftx (g := (mkF m 46 #[sR o0, sR o1, sR o2, sI z0, sI z1] [(.ref o0), (.int z0), (.ref o2)])) rfl rfl (hb hby d13_46)
  refine Go.pre st4 ?_
  refine Go.pre (st' := T4.setTop (mkF m 50 #[sR o0, sR o1, sR o2, sI z0, sI z1] [(.ref o0), (.ref tx), (.int z0), (.ref o2)])) (fun target kt => ?_) ?_
  · refine XS.aloadN X4.here hx rfl (hb hby d13_49) rfl rfl ?_
    exact kt
  obtain ⟨T5, X5, e5, st5⟩ := getF X4 hx hZ hown (host := "") (Or.inl (ow hw 59 rfl)) Via.refl e4 F_th (g := (mkF m 50 #[sR o0, sR o1, sR o2, sI z0, sI z1] [(.ref o0), (.ref tx), (.int z0), (.ref o2)])) rfl rfl (hb hby d13_50)
  refine Go.pre st5 ?_
  refine Go.pre (st' := T5.setTop (mkF m 55 #[sR o0, sR o1, sR o2, sI z0, sI z1] [(.int z1), (.int z0), (.ref tx), (.int z0), (.ref o2)])) (fun target kt => ?_) ?_
  · refine XS.iload X5.here hx rfl (hb hby d13_53) rfl ?_
    exact kt
  obtain ⟨T6, h6, L6, X6, e6, N6, K6, V6, st6⟩ := cpF X5 hx hZ hown (ow hw 91 rfl) (ow hw 94 rfl) (ow hw 92 rfl) (ow hw 93 rfl) e5 (Arf.ofA A_o2) B_tx rfl (nn := z1) (by decide) (by decide) (by decide) N0 (by omega) (g := (mkF m 55 #[sR o0, sR o1, sR o2, sI z0, sI z1] [(.int z1), (.int z0), (.ref tx), (.int z0), (.ref o2)])) rfl (by rw [hml]; rfl) rfl (hb hby d13_55) (by decide) (W := 0) (le0 rfl) (by decide)
  have sz6 : h0.size ≤ h6.size := K6.1
  refine Go.pre st6 ?_
  refine Go.pre (st' := T6.setTop (mkF m 60 #[sR o0, sR o1, sR o2, sI z0, sI z1] [(.ref o0), (.ref o0)])) (fun target kt => ?_) ?_
  · refine XS.aloadN X6.here hx rfl (hb hby d13_58) rfl rfl ?_
    refine XS.dup X6.here hx rfl (hb hby d13_59) rfl rfl ?_
    exact kt
  have Y7 := (F_th.keep K6 (ninS n_o0_tx nin0))
  obtain ⟨T8, X8, e8, st8⟩ := getF X6 hx hZ hown (host := "") (Or.inl (ow hw 59 rfl)) Via.refl e6 Y7 (g := (mkF m 60 #[sR o0, sR o1, sR o2, sI z0, sI z1] [(.ref o0), (.ref o0)])) rfl rfl (hb hby d13_60)
  refine Go.pre st8 ?_
  refine Go.pre (st' := T8.setTop (mkF m 66 #[sR o0, sR o1, sR o2, sI z0, sI z1] [(.int z1), (.ref o0)])) (fun target kt => ?_) ?_
  · refine XS.iload X8.here hx rfl (hb hby d13_63) rfl ?_
    refine XS.iadd X8.here hx rfl (hb hby d13_65) rfl ?_
    exact kt
  have Y9 := (E_o0.keep K6)
  obtain ⟨T10, h10, X10, e10, W10, st10⟩ := putF X8 hx hZ hown (host := "") (Or.inl (ow hw 59 rfl)) Via.refl e8 Y7 Y9 (Or.inl (ow hw 60 rfl)) (ow hw 28 rfl) (ty := .int) (by decide) rfl rfl (g := (mkF m 66 #[sR o0, sR o1, sR o2, sI z0, sI z1] [(.int z1), (.ref o0)])) rfl rfl (hb hby d13_66)
  have sz10 : h6.size ≤ h10.size := (Keep.of_wr W10).1
  have Y11 : Fld Z h10 o0 cA "textLength" "I" (.int z1) := Y7.same W10
  have N10 := Fr.snoc X10 N6 (by omega)
  refine Go.pre st10 ?_
  refine Go.pre (st' := T10.setTop (mkF m 72 #[sR o0, sR o1, sR o2, sI z0, sI z1] [.null, (.ref o1), (.ref o0)])) (fun target kt => ?_) ?_
  · refine XS.aloadN X10.here hx rfl (hb hby d13_69) rfl rfl ?_
    refine XS.aloadN X10.here hx rfl (hb hby d13_70) rfl rfl ?_
    refine XS.aconstNull X10.here hx rfl (hb hby d13_71) ?_
    exact kt
  have Y13 := (Y9.wr W10)
  have Y14 := ((F_se.keep K6 (ninS n_o0_tx nin0)).other W10 (Or.inr (slot_ne (Or.inl (ow hw 58 rfl)) (Or.inl (ow hw 60 rfl)) (by decide) (t := .int) (t' := .int) (by decide) (by decide))))
  have Y15 := ((F_sd.keep K6 (ninS n_o0_tx nin0)).other W10 (Or.inr (slot_ne (Or.inl (ow hw 64 rfl)) (Or.inl (ow hw 60 rfl)) (by decide) (t := .int) (t' := .int) (by decide) (by decide))))
  have Y16 := ((F_ix.keep K6 (ninS n_o0_tx nin0)).other W10 (Or.inr (slot_ne (Or.inl (ow hw 62 rfl)) (Or.inl (ow hw 60 rfl)) (by decide) (t := (.object "java/util/Map")) (t' := .int) (by decide) (by decide))))
  have Y17 := ((Fan.keep K6 (ninS n_o0_tx nin0)).other W10 (Or.inr (slot_ne (Or.inl (ow hw 37 rfl)) (Or.inl (ow hw 60 rfl)) (by decide) (t := (.array (.object cB))) (t' := .int) (by decide) (by decide))))
  have Y18 := ((B_an.keep K6 (ninS n_an_tx nin0)).other W10 (Ne.symm n_o0_an))
  have Y19 := ((Fav.keep K6 (ninS n_o0_tx nin0)).other W10 (Or.inr (slot_ne (Or.inl (ow hw 39 rfl)) (Or.inl (ow hw 60 rfl)) (by decide) (t := (.array (.object cB))) (t' := .int) (by decide) (by decide))))
  have Y20 := ((B_av.keep K6 (ninS n_av_tx nin0)).other W10 (Ne.symm n_o0_av))
  have Y21 := ((Fae.keep K6 (ninS n_o0_tx nin0)).other W10 (Or.inr (slot_ne (Or.inl (ow hw 42 rfl)) (Or.inl (ow hw 60 rfl)) (by decide) (t := (.array .int)) (t' := .int) (by decide) (by decide))))
  have Y22 := ((B_ae.keep K6 (ninS n_ae_tx nin0)).other W10 (Ne.symm n_o0_ae))
  have Y23 := ((Ftx.keep K6 (ninS n_o0_tx nin0)).other W10 (Or.inr (slot_ne (Or.inl (ow hw 44 rfl)) (Or.inl (ow hw 60 rfl)) (by decide) (t := (.array .char)) (t' := .int) (by decide) (by decide))))
  have Y24 := ((E_o1.keep K6).wr W10)
  obtain ⟨cq12, q12, q12'⟩ := Y13.cell
  obtain ⟨_, _, ⟨T12, L12, k12, n12⟩, -, X12, ⟨Lc12, hQ12, l12, y12, z12⟩, st12⟩ := X10.privateBack hx (y := (⟨cA, "append", cC⟩ : MethodName)) hown (mvT hZ (ow hw 53 rfl)) (mvT hZ (ow hw 54 rfl)) (mvT hZ (selects_private (y := (⟨cA, "append", cC⟩ : MethodName)) (ow hw 28 rfl) (ow hw 55 rfl) (ow hw 54 rfl))) (Cond.privateMethod_at (mvP hZ (ow hw 55 rfl) (args := #[]))) (mvT hZ (ow hw 56 rfl)) (by decide) (backOf (W := 0) (rm8_0N_0 l Z a0 hw [] o0 o1 an kan fan av kav fav ae kae fae tx us z1 h10 n0 (by omega) Y13 Y14 Y15 Y11 Y16 Y17 Y18 Y19 Y20 Y21 Y22 Y23 O_an O_av n_o0_an n_o0_av n_o0_ae n_an_av n_an_ae n_av_ae Y24 (by omega) (by omega) (by omega) (by omega)) hZ (ow hw 56 rfl) (ow hw 29 rfl) (by decide) (by decide)) (g := (mkF m 72 #[sR o0, sR o1, sR o2, sI z0, sI z1] [.null, (.ref o1), (.ref o0)])) rfl (by rw [hml]; rfl) (Steps.refl _) (a := o0) (by rw [e10]; exact q12) q12' (argsL := [(.ref o1), .null]) (rest := []) (lenOf pd13_1_0 rfl) rfl (le0 rfl) (hb hby d13_72) (fun vm₁ hvm => ⟨rfl, e10, (by decide : 0 + 0 ≤ _), (by decide : 0 + 0 ≤ _)⟩)
  dsimp only [Pt.U, Pt.locs, Pt.cells, Pt.slots] at X12 l12 y12 z12 st12 hQ12
  subst l12 y12 z12
  obtain ⟨rfl, N12q, K12, KF12, Y12_0, Y12_1, Y12_2, Y12_3, Y12_4, Y12_5, Y12_6, Y12_7, Y12_8, Y12_9, Y12_10⟩ := hQ12
  have sz12 : h10.size ≤ T12.heap.size := K12.1
  have N12 := Fr.app N10 N12q
  refine Go.trans st12 ?_
  refine Go.pre (st' := T12.setTop (mkF m 77 #[sR o0, sR o1, sR o2, sI z0, sI z1] [(.ref o0), (.ref o0)])) (fun target kt => ?_) ?_
  · refine XS.aloadN X12.here hx rfl (hb hby d13_75) rfl rfl ?_
    refine XS.aloadN X12.here hx rfl (hb hby d13_76) rfl rfl ?_
    exact kt
  obtain ⟨T25, X25, e25, st25⟩ := getF X12 hx hZ hown (host := "") (Or.inl (ow hw 57 rfl)) Via.refl rfl Y12_3 (g := (mkF m 77 #[sR o0, sR o1, sR o2, sI z0, sI z1] [(.ref o0), (.ref o0)])) rfl rfl (hb hby d13_77)
  refine Go.pre st25 ?_
  have Y26 := (Y13.keep K12)
  obtain ⟨T27, h27, X27, e27, W27, st27⟩ := putF X25 hx hZ hown (host := "") (Or.inl (ow hw 63 rfl)) Via.refl e25 Y12_4 Y26 (Or.inl (ow hw 64 rfl)) (ow hw 28 rfl) (ty := .int) (by decide) rfl rfl (g := (mkF m 80 #[sR o0, sR o1, sR o2, sI z0, sI z1] [(.int z1), (.ref o0)])) rfl rfl (hb hby d13_80)
  have sz27 : T12.heap.size ≤ h27.size := (Keep.of_wr W27).1
  have Y28 : Fld Z h27 o0 cA "specified" "I" (.int z1) := Y12_4.same W27
  have N27 := Fr.snoc X27 N12 (by omega)
  refine Go.pre st27 ?_
  have Y29 := (((V6.other W10 (Ne.symm n_o0_tx)).keep K12 (ninS (Ne.symm n_an_tx) (ninS (Ne.symm n_av_tx) (ninS (Ne.symm n_ae_tx) (ninS (Ne.symm n_o0_tx) nin0))))).other W27 (Ne.symm n_o0_tx))
  have Y30 := (Y12_3.other W27 (Or.inr (slot_ne (Or.inl (ow hw 58 rfl)) (Or.inl (ow hw 64 rfl)) (by decide) (t := .int) (t' := .int) (by decide) (by decide))))
  have Y31 := (Y12_5.other W27 (Or.inr (slot_ne (Or.inl (ow hw 60 rfl)) (Or.inl (ow hw 64 rfl)) (by decide) (t := .int) (t' := .int) (by decide) (by decide))))
  have Y32 := (Y12_6.other W27 (Or.inr (slot_ne (Or.inl (ow hw 62 rfl)) (Or.inl (ow hw 64 rfl)) (by decide) (t := (.object "java/util/Map")) (t' := .int) (by decide) (by decide))))
  have Y33 := (Y12_7.other W27 (Or.inr (slot_ne (Or.inl (ow hw 37 rfl)) (Or.inl (ow hw 64 rfl)) (by decide) (t := (.array (.object cB))) (t' := .int) (by decide) (by decide))))
  have Y34 := (Y12_8.other W27 (Or.inr (slot_ne (Or.inl (ow hw 39 rfl)) (Or.inl (ow hw 64 rfl)) (by decide) (t := (.array (.object cB))) (t' := .int) (by decide) (by decide))))
  have Y35 := (Y12_9.other W27 (Or.inr (slot_ne (Or.inl (ow hw 42 rfl)) (Or.inl (ow hw 64 rfl)) (by decide) (t := (.array .int)) (t' := .int) (by decide) (by decide))))
  have Y36 := (Y12_10.other W27 (Or.inr (slot_ne (Or.inl (ow hw 44 rfl)) (Or.inl (ow hw 64 rfl)) (by decide) (t := (.array .char)) (t' := .int) (by decide) (by decide))))
  have Y37 := (Y12_0.other W27 (Ne.symm n_o0_an))
  have Y38 := (Y12_1.other W27 (Ne.symm n_o0_av))
  have Y39 := (Y12_2.other W27 (Ne.symm n_o0_ae))
  exact Go.ret0 X27 hx hlk hrt (hb hby d13_83) (by decide) (by decide) (by rw [e27]; exact ⟨rfl, N27, (((((Keep.refl h0 [tx, o0, an, av, ae]).trans K6 (allS (Or.inl (List.mem_of_getElem? (i := 0) rfl)) all0)).wr W10 (Or.inl (List.mem_of_getElem? (i := 1) rfl))).trans K12 (allS (Or.inl (List.mem_of_getElem? (i := 2) rfl)) (allS (Or.inl (List.mem_of_getElem? (i := 3) rfl)) (allS (Or.inl (List.mem_of_getElem? (i := 4) rfl)) (allS (Or.inl (List.mem_of_getElem? (i := 1) rfl)) all0))))).wr W27 (Or.inl (List.mem_of_getElem? (i := 1) rfl))), trivial, Y29, Y30, Y28, Y31, Y32, Y33, Y34, Y35, Y36, Y37, Y38, Y39⟩)
/-! Preconditions.checkFromIndexSize (21_1) -/
theorem ef_21_1 (m : MethodId) (v3 : Value) (hv_v3 : v3.isRef = true) : entryFrame m #[(.int (0 : Int32)), (.int (1 : Int32)), (.int (1024 : Int32)), v3] 4 = (mkF m 0 #[.val (.int (0 : Int32)), .val (.int (1 : Int32)), .val (.int (1024 : Int32)), .val v3] []) := by rcases ref_cases hv_v3 with rfl | ⟨r_v3, rfl⟩ <;> first | (simp [entryFrame, mkF, argsToLocals, Value.category]; done) | rfl
def Q21_1 (Z : State) (v3 : Value) (h0 : Heap) (n0 : Nat) (v : Option Value) (h : Heap) (L : List Loc) : Prop := v = some (.int z0) ∧ Fr n0 L ∧ h = h0
theorem rm21_1 (l : Launch) (Z : State) (a0 : Array Value) (hw : ∀ d ∈ tables_1, d.before a0 Z = true) (ws : List Jvm.Cond) (v3 : Value) (h0 : Heap) (n0 : Nat) (Z0 : n0 ≤ h0.size) (hv_v3 : v3.isRef = true) :
    MetFree l (⟨cE, "checkFromIndexSize", "(IIILjava/util/function/BiFunction;)I"⟩ : MethodName) (head1 (Jvm.Cond.code (⟨cE, "checkFromIndexSize", "(IIILjava/util/function/BiFunction;)I"⟩ : MethodName) jdk_41_method_13_code 4 (some .int) :: ws) ({ frames := 0, cells := 0, slots := 0, locals := 0 } : Room)) (fun a U => a = #[(.int z0), (.int z1), (.int z1024), v3] ∧ Z.Warmed39 U.vm ∧ U.heap = h0) (fun _ _ _ _ _ => True) (fun _ U o U' => ∃ v L, o = .returned v ∧ Q21_1 Z v3 h0 n0 v U'.heap L ∧ FrameEnd U o U' L ({ frames := 0, cells := 0, slots := 0, locals := 0 } : Room).cells ({ frames := 0, cells := 0, slots := 0, locals := 0 } : Room).slots) := by
  refine MetFree.of_bodySF (plainFor_of_name pn_21) hisR ?_
  intro p e s m args below meth c s₁ Bd hml0 hP hK
  obtain ⟨rfl, hZ, hh⟩ := hP
  have hx := Bd.exec
  have hby := Bd.bytes
  have hml : c.maxLocals = 4 := hml0
  have hown : s.vm.findClass cE = some m.cls := findClass_of_methodNamed Bd.named
  have hnm := (name_of_methodNamed Bd.named Bd.method).1
  have hrt := Bd.returns
  have hlk := Bd.notSynchronized
  have X0 : Stand p l e ({ frames := 0, cells := 0, slots := 0, locals := 0 } : Room) s m #[(.int z0), (.int z1), (.int z1024), v3] below meth c s₁ [] 0 0 := Stand.of_body Bd
  have e0 : s₁.heap = h0 := by rw [← hh, Bd.state]; rfl
  have N0 := Fr.nil n0
  show Go p e below s 0 0 (Q21_1 Z v3 h0 n0) (s₁.setTop (entryFrame m #[(.int z0), (.int z1), (.int z1024), v3] 4))
  rw [ef_21_1 m v3 hv_v3]
  refine Go.pre (st' := s₁.setTop (mkF m 24 #[sI z0, sI z1, sI z1024, .val v3] [(.int z0)])) (fun target kt => ?_) ?_
  · refine XS.iloadN X0.here hx rfl (hb hby d21_0) rfl ?_
    refine XS.iloadN X0.here hx rfl (hb hby d21_1) rfl ?_
    refine XS.ior X0.here hx rfl (hb hby d21_2) rfl ?_
    refine XS.iloadN X0.here hx rfl (hb hby d21_3) rfl ?_
    refine XS.ior X0.here hx rfl (hb hby d21_4) rfl ?_
    refine XS.ifNo X0.here hx rfl (hb hby d21_5) rfl ((if0 _ _).trans (flt (by decide)).1) ?_
    refine XS.iloadN X0.here hx rfl (hb hby d21_8) rfl ?_
    refine XS.iloadN X0.here hx rfl (hb hby d21_9) rfl ?_
    refine XS.iloadN X0.here hx rfl (hb hby d21_10) rfl ?_
    refine XS.isub X0.here hx rfl (hb hby d21_11) rfl ?_
    refine XS.icmpYes X0.here hx rfl (pc0 := 12) (pc' := 23) rfl (hb hby d21_12) rfl (flt (by decide)).2.2.2 (by decide) (by decide) ?_
    refine XS.iloadN X0.here hx rfl (hb hby d21_23) rfl ?_
    exact kt
  exact Go.retV X0 hx hlk hrt rfl (Or.inl ⟨rfl, Or.inl rfl, _, rfl⟩) (hb hby d21_24) (by decide) (by decide) (by rw [e0]; exact ⟨rfl, N0, rfl⟩)
/-! String.checkBoundsOffCount (20_1) -/
theorem pd20_1_0 : parseMethodDescriptor "(IIILjava/util/function/BiFunction;)I" = some ⟨[.int, .int, .int, (.object "java/util/function/BiFunction")], some .int⟩ := by decide +kernel
theorem ef_20_1 (m : MethodId)  : entryFrame m #[(.int (0 : Int32)), (.int (1 : Int32)), (.int (1024 : Int32))] 3 = (mkF m 0 #[.val (.int (0 : Int32)), .val (.int (1 : Int32)), .val (.int (1024 : Int32))] []) := by first | (simp [entryFrame, mkF, argsToLocals, Value.category]; done) | rfl
def Q20_1 (Z : State) (zf : Value) (h0 : Heap) (n0 : Nat) (v : Option Value) (h : Heap) (L : List Loc) : Prop := v = some (.int z0) ∧ Fr n0 L ∧ h = h0
theorem rm20_1 (l : Launch) (Z : State) (a0 : Array Value) (hw : ∀ d ∈ tables_1, d.before a0 Z = true) (ws : List Jvm.Cond) (zf : Value) (h0 : Heap) (n0 : Nat) (Z0 : n0 ≤ h0.size) (S_F : Sta Z Z.heap cE "SIOOBE_FORMATTER" "Ljava/util/function/BiFunction;" zf) (hv_zf : zf.isRef = true) (Ol : Old Z n0 h0) :
    MetFree l (⟨cB, "checkBoundsOffCount", "(III)I"⟩ : MethodName) (head1 (Jvm.Cond.code (⟨cB, "checkBoundsOffCount", "(III)I"⟩ : MethodName) jdk_42_method_157_code 3 (some .int) :: ws) ({ frames := 1, cells := 0, slots := 0, locals := 15 } : Room)) (fun a U => a = #[(.int z0), (.int z1), (.int z1024)] ∧ Z.Warmed39 U.vm ∧ U.heap = h0) (fun _ _ _ _ _ => True) (fun _ U o U' => ∃ v L, o = .returned v ∧ Q20_1 Z zf h0 n0 v U'.heap L ∧ FrameEnd U o U' L ({ frames := 1, cells := 0, slots := 0, locals := 15 } : Room).cells ({ frames := 1, cells := 0, slots := 0, locals := 15 } : Room).slots) := by
  refine MetFree.of_bodySF (plainFor_of_name pn_20) hisR ?_
  intro p e s m args below meth c s₁ Bd hml0 hP hK
  obtain ⟨rfl, hZ, hh⟩ := hP
  have hx := Bd.exec
  have hby := Bd.bytes
  have hml : c.maxLocals = 3 := hml0
  have hown : s.vm.findClass cB = some m.cls := findClass_of_methodNamed Bd.named
  have hnm := (name_of_methodNamed Bd.named Bd.method).1
  have hrt := Bd.returns
  have hlk := Bd.notSynchronized
  have X0 : Stand p l e ({ frames := 1, cells := 0, slots := 0, locals := 15 } : Room) s m #[(.int z0), (.int z1), (.int z1024)] below meth c s₁ [] 0 0 := Stand.of_body Bd
  have e0 : s₁.heap = h0 := by rw [← hh, Bd.state]; rfl
  have N0 := Fr.nil n0
  show Go p e below s 0 0 (Q20_1 Z zf h0 n0) (s₁.setTop (entryFrame m #[(.int z0), (.int z1), (.int z1024)] 3))
  rw [ef_20_1 m ]
  refine Go.pre (st' := s₁.setTop (mkF m 3 #[sI z0, sI z1, sI z1024] [(.int z1024), (.int z1), (.int z0)])) (fun target kt => ?_) ?_
  · refine XS.iloadN X0.here hx rfl (hb hby d20_0) rfl ?_
    refine XS.iloadN X0.here hx rfl (hb hby d20_1) rfl ?_
    refine XS.iloadN X0.here hx rfl (hb hby d20_2) rfl ?_
    exact kt
  obtain ⟨T1, X1, e1, st1⟩ := getS2 X0 hx hZ hown (host := "") (Or.inl (ow hw 122 rfl)) Via.refl e0 (S_F.ext Ol.2) (g := (mkF m 3 #[sI z0, sI z1, sI z1024] [(.int z1024), (.int z1), (.int z0)])) rfl (hb hby d20_3)
  refine Go.pre st1 ?_
  obtain ⟨_, _, ⟨T2, L2, k2, n2⟩, -, X2, ⟨Lc2, hQ2, l2, y2, z2⟩, st2⟩ := Jvm.LawKit.callS X1 hx (y := (⟨cE, "checkFromIndexSize", "(IIILjava/util/function/BiFunction;)I"⟩ : MethodName)) hown (mvT hZ (ow hw 124 rfl)) (mvT hZ (ow hw 125 rfl)) (mvT hZ (ow hw 123 rfl)) (mvT hZ (ow hw 126 rfl)) (by decide) (backOf (W := 0) (rm21_1 l Z a0 hw [] zf h0 n0 (by omega) hv_zf) hZ (ow hw 126 rfl) (ow hw 123 rfl) (by decide) (by decide)) (g := (mkF m 6 #[sI z0, sI z1, sI z1024] [zf, (.int z1024), (.int z1), (.int z0)])) rfl (by rw [hml]; rfl) (argsL := [(.int z0), (.int z1), (.int z1024), zf]) (rest := []) (lenOf pd20_1_0 rfl) rfl (le0 rfl) (hb hby d20_6) (fun vm₁ hvm => ⟨rfl, e1, (by decide : 0 + 0 ≤ _), (by decide : 0 + 0 ≤ _)⟩)
  dsimp only [Pt.U, Pt.locs, Pt.cells, Pt.slots] at X2 l2 y2 z2 st2 hQ2
  subst l2 y2 z2
  obtain ⟨rfl, N2q, e2⟩ := hQ2
  have N2 := Fr.app N0 N2q
  refine Go.pre st2 ?_
  exact Go.retV X2 hx hlk hrt rfl (Or.inl ⟨rfl, Or.inl rfl, _, rfl⟩) (hb hby d20_9) (by decide) (by decide) (by rw [e2]; exact ⟨rfl, N2, rfl⟩)
/-! String.rangeCheck (19_1) -/
theorem pd19_1_0 : parseMethodDescriptor "(III)I" = some ⟨[.int, .int, .int], some .int⟩ := by decide +kernel
theorem ef_19_1 (m : MethodId) (o0 : Addr) : entryFrame m #[(.ref o0), (.int (0 : Int32)), (.int (1 : Int32))] 3 = (mkF m 0 #[.val (.ref o0), .val (.int (0 : Int32)), .val (.int (1 : Int32))] []) := by first | (simp [entryFrame, mkF, argsToLocals, Value.category]; done) | rfl
def Q19_1 (Z : State) (o0 : Addr) (kt : ClassId) (ft : Int32 → Value) (zf : Value) (h0 : Heap) (n0 : Nat) (v : Option Value) (h : Heap) (L : List Loc) : Prop := v = some .null ∧ Fr n0 L ∧ h = h0
theorem rm19_1 (l : Launch) (Z : State) (a0 : Array Value) (hw : ∀ d ∈ tables_1, d.before a0 Z = true) (ws : List Jvm.Cond) (o0 : Addr) (kt : ClassId) (ft : Int32 → Value) (zf : Value) (h0 : Heap) (n0 : Nat) (Z0 : n0 ≤ h0.size) (B_t : Arf Z h0 o0 kt .char z1024 ft) (S_F : Sta Z Z.heap cE "SIOOBE_FORMATTER" "Ljava/util/function/BiFunction;" zf) (hv_zf : zf.isRef = true) (Ol : Old Z n0 h0) :
    MetFree l (⟨cB, "rangeCheck", "([CII)Ljava/lang/Void;"⟩ : MethodName) (head1 (Jvm.Cond.code (⟨cB, "rangeCheck", "([CII)Ljava/lang/Void;"⟩ : MethodName) jdk_42_method_5_code 3 (some (.object "java/lang/Void")) :: ws) ({ frames := 2, cells := 0, slots := 0, locals := 29 } : Room)) (fun a U => a = #[(.ref o0), (.int z0), (.int z1)] ∧ Z.Warmed39 U.vm ∧ U.heap = h0) (fun _ _ _ _ _ => True) (fun _ U o U' => ∃ v L, o = .returned v ∧ Q19_1 Z o0 kt ft zf h0 n0 v U'.heap L ∧ FrameEnd U o U' L ({ frames := 2, cells := 0, slots := 0, locals := 29 } : Room).cells ({ frames := 2, cells := 0, slots := 0, locals := 29 } : Room).slots) := by
  refine MetFree.of_bodySF (plainFor_of_name pn_19) hisR ?_
  intro p e s m args below meth c s₁ Bd hml0 hP hK
  obtain ⟨rfl, hZ, hh⟩ := hP
  have hx := Bd.exec
  have hby := Bd.bytes
  have hml : c.maxLocals = 3 := hml0
  have hown : s.vm.findClass cB = some m.cls := findClass_of_methodNamed Bd.named
  have hnm := (name_of_methodNamed Bd.named Bd.method).1
  have hrt := Bd.returns
  have hlk := Bd.notSynchronized
  have X0 : Stand p l e ({ frames := 2, cells := 0, slots := 0, locals := 29 } : Room) s m #[(.ref o0), (.int z0), (.int z1)] below meth c s₁ [] 0 0 := Stand.of_body Bd
  have e0 : s₁.heap = h0 := by rw [← hh, Bd.state]; rfl
  have N0 := Fr.nil n0
  have lt_B_t : LT.lt (α := Nat) o0 h0.size := B_t.lt
  show Go p e below s 0 0 (Q19_1 Z o0 kt ft zf h0 n0) (s₁.setTop (entryFrame m #[(.ref o0), (.int z0), (.int z1)] 3))
  rw [ef_19_1 m o0]
  refine Go.pre (st' := s₁.setTop (mkF m 3 #[sR o0, sI z0, sI z1] [(.ref o0), (.int z1), (.int z0)])) (fun target kt => ?_) ?_
  · refine XS.iloadN X0.here hx rfl (hb hby d19_0) rfl ?_
    refine XS.iloadN X0.here hx rfl (hb hby d19_1) rfl ?_
    refine XS.aloadN X0.here hx rfl (hb hby d19_2) rfl rfl ?_
    exact kt
  obtain ⟨cl1, Ar1, -, Sz1, Nn1, -⟩ := id B_t
  have st1 := X0.arraylength hx (by rw [e0]; exact Ar1.1) (State.isArrayOf_alike hZ.alike Ar1.2.1) (g := (mkF m 3 #[sR o0, sI z0, sI z1] [(.ref o0), (.int z1), (.int z0)])) rfl rfl (hb hby d19_3)
  rw [len_of Sz1 Nn1] at st1
  refine Go.pre st1 ?_
  obtain ⟨_, _, ⟨T2, L2, k2, n2⟩, -, X2, ⟨Lc2, hQ2, l2, y2, z2⟩, st2⟩ := Jvm.LawKit.callS X0 hx (y := (⟨cB, "checkBoundsOffCount", "(III)I"⟩ : MethodName)) hown (mvT hZ (ow hw 119 rfl)) (mvT hZ (ow hw 120 rfl)) (mvT hZ (ow hw 2 rfl)) (mvT hZ (ow hw 121 rfl)) (by decide) (backOf (W := 0) (rm20_1 l Z a0 hw [] zf h0 n0 (by omega) S_F hv_zf Ol) hZ (ow hw 121 rfl) (ow hw 2 rfl) (by decide) (by decide)) (g := (mkF m 4 #[sR o0, sI z0, sI z1] [(.int z1024), (.int z1), (.int z0)])) rfl (by rw [hml]; rfl) (argsL := [(.int z0), (.int z1), (.int z1024)]) (rest := []) (lenOf pd19_1_0 rfl) rfl (le0 rfl) (hb hby d19_4) (fun vm₁ hvm => ⟨rfl, e0, (by decide : 0 + 0 ≤ _), (by decide : 0 + 0 ≤ _)⟩)
  dsimp only [Pt.U, Pt.locs, Pt.cells, Pt.slots] at X2 l2 y2 z2 st2 hQ2
  subst l2 y2 z2
  obtain ⟨rfl, N2q, e2⟩ := hQ2
  have N2 := Fr.app N0 N2q
  refine Go.pre st2 ?_
  refine Go.pre (st' := T2.setTop (mkF m 9 #[sR o0, sI z0, sI z1] [.null])) (fun target kt => ?_) ?_
  · refine XS.pop X2.here hx rfl (hb hby d19_7) rfl rfl ?_
    refine XS.aconstNull X2.here hx rfl (hb hby d19_8) ?_
    exact kt
  exact Go.retV X2 hx hlk hrt rfl (Or.inr (Or.inr (Or.inr (Or.inr ⟨rfl, rfl, rfl⟩)))) (hb hby d19_9) (by decide) (by decide) (by rw [e2]; exact ⟨rfl, N2, rfl⟩)
/-! StringUTF16.compress (32_1) -/
theorem ef_32_1 (m : MethodId) (o0 : Addr) (o2 : Addr) : entryFrame m #[(.ref o0), (.int (0 : Int32)), (.ref o2), (.int (0 : Int32)), (.int (1 : Int32))] 7 = (mkF m 0 #[.val (.ref o0), .val (.int (0 : Int32)), .val (.ref o2), .val (.int (0 : Int32)), .val (.int (1 : Int32)), .unset, .unset] []) := by first | (simp [entryFrame, mkF, argsToLocals, Value.category]; done) | rfl
def Q32_1 (Z : State) (o0 : Addr) (o2 : Addr) (kt : ClassId) (ft : Int32 → Value) (c0 : Int32) (kb : ClassId) (h0 : Heap) (n0 : Nat) (v : Option Value) (h : Heap) (L : List Loc) : Prop := v = some (.int z1) ∧ Fr n0 L ∧ Keep h0 h [o2] ∧ KF Z h0 h [(o2, (z0).toNatClampNeg)] ∧ Arv Z h o2 kb .byte z1 [(.int (nar .byte (c0.toInt8.toInt32)))] (.int z0)
theorem rm32_1 (l : Launch) (Z : State) (a0 : Array Value) (hw : ∀ d ∈ tables_1, d.before a0 Z = true) (ws : List Jvm.Cond) (o0 : Addr) (o2 : Addr) (kt : ClassId) (ft : Int32 → Value) (c0 : Int32) (kb : ClassId) (h0 : Heap) (n0 : Nat) (Z0 : n0 ≤ h0.size) (B_t : Arf Z h0 o0 kt .char z1024 ft) (hr0 : ft z0 = .int c0) (A_d : Arv Z h0 o2 kb .byte z1 [(.int z0)] (.int z0)) (n_o0_o2 : o0 ≠ o2) (g_o2 : n0 ≤ o2) (hle0 : ¬ (z255 < c0)) :
    MetFree l (⟨cF, "compress", "([CI[BII)I"⟩ : MethodName) (head1 (Jvm.Cond.code (⟨cF, "compress", "([CI[BII)I"⟩ : MethodName) jdk_52_method_21_code 7 (some .int) :: ws) ({ frames := 0, cells := 0, slots := 0, locals := 0 } : Room)) (fun a U => a = #[(.ref o0), (.int z0), (.ref o2), (.int z0), (.int z1)] ∧ Z.Warmed39 U.vm ∧ U.heap = h0) (fun _ _ _ _ _ => True) (fun _ U o U' => ∃ v L, o = .returned v ∧ Q32_1 Z o0 o2 kt ft c0 kb h0 n0 v U'.heap L ∧ FrameEnd U o U' L ({ frames := 0, cells := 0, slots := 0, locals := 0 } : Room).cells ({ frames := 0, cells := 0, slots := 0, locals := 0 } : Room).slots) := by
  refine MetFree.of_bodySF (plainFor_of_name pn_32) hisR ?_
  intro p e s m args below meth c s₁ Bd hml0 hP hK
  obtain ⟨rfl, hZ, hh⟩ := hP
  have hx := Bd.exec
  have hby := Bd.bytes
  have hml : c.maxLocals = 7 := hml0
  have hown : s.vm.findClass cF = some m.cls := findClass_of_methodNamed Bd.named
  have hnm := (name_of_methodNamed Bd.named Bd.method).1
  have hrt := Bd.returns
  have hlk := Bd.notSynchronized
  have X0 : Stand p l e ({ frames := 0, cells := 0, slots := 0, locals := 0 } : Room) s m #[(.ref o0), (.int z0), (.ref o2), (.int z0), (.int z1)] below meth c s₁ [] 0 0 := Stand.of_body Bd
  have e0 : s₁.heap = h0 := by rw [← hh, Bd.state]; rfl
  have N0 := Fr.nil n0
  have lt_B_t : LT.lt (α := Nat) o0 h0.size := B_t.lt
  have lt_A_d : LT.lt (α := Nat) o2 h0.size := A_d.lt
  show Go p e below s 0 0 (Q32_1 Z o0 o2 kt ft c0 kb h0 n0) (s₁.setTop (entryFrame m #[(.ref o0), (.int z0), (.ref o2), (.int z0), (.int z1)] 7))
  rw [ef_32_1 m o0 o2]
  refine Go.pre (st' := s₁.setTop (mkF m 12 #[sR o0, sI z0, sR o2, sI z0, sI z1, sI z0, sU] [(.int z0), (.ref o0)])) (fun target kt => ?_) ?_
  · refine XS.iconst X0.here hx rfl (hb hby d32_0) ?_
    refine XS.istore X0.here hx rfl (hb hby d32_1) rfl (l' := #[.val (.ref o0), .val (.int z0), .val (.ref o2), .val (.int z0), .val (.int z1), .val (.int z0), .unset]) rfl ?_
    refine XS.iload X0.here hx rfl (hb hby d32_3) rfl ?_
    refine XS.iload X0.here hx rfl (hb hby d32_5) rfl ?_
    refine XS.icmpNo X0.here hx rfl (hb hby d32_7) rfl (tlt (by decide)).2.1 ?_
    refine XS.aloadN X0.here hx rfl (hb hby d32_10) rfl rfl ?_
    refine XS.iloadN X0.here hx rfl (hb hby d32_11) rfl ?_
    exact kt
  obtain ⟨cl1, Ar1, q1, Sz1, Nn1, Hs1⟩ := id B_t
  have in1 : ¬ (z0 < 0 ∨ cl1.slots.size ≤ (z0).toNatClampNeg) := by rw [Sz1]; exact (by decide)
  have at1 : cl1.slots[(z0).toNatClampNeg]? = some (.int c0) := (Hs1 _ in1).1.trans (congrArg some hr0)
  refine Go.pre (X0.caload hx (j := z0) (v := (.int c0)) (by rw [e0]; exact Ar1.1) (State.isArrayOf_alike hZ.alike Ar1.2.1) Ar1.2.2 in1 at1 (g := (mkF m 12 #[sR o0, sI z0, sR o2, sI z0, sI z1, sI z0, sU] [(.int z0), (.ref o0)])) rfl rfl (hb hby d32_12)) ?_
  refine Go.pre (st' := s₁.setTop (mkF m 31 #[sR o0, sI z0, sR o2, sI z0, sI z1, sI z0, sI c0] [(.int (c0.toInt8.toInt32)), (.int z0), (.ref o2)])) (fun target kt => ?_) ?_
  · refine XS.istore X0.here hx rfl (hb hby d32_13) rfl (l' := #[.val (.ref o0), .val (.int z0), .val (.ref o2), .val (.int z0), .val (.int z1), .val (.int z0), .val (.int c0)]) rfl ?_
    refine XS.iload X0.here hx rfl (hb hby d32_15) rfl ?_
    refine XS.sipush X0.here hx rfl (hb hby d32_17) ?_
    refine XS.icmpYes X0.here hx rfl (pc0 := 20) (pc' := 26) rfl (hb hby d32_20) rfl (flt hle0).2.2.2 (by decide) (by decide) ?_
    refine XS.aloadN X0.here hx rfl (hb hby d32_26) rfl rfl ?_
    refine XS.iloadN X0.here hx rfl (hb hby d32_27) rfl ?_
    refine XS.iload X0.here hx rfl (hb hby d32_28) rfl ?_
    refine XS.i2b X0.here hx rfl (hb hby d32_30) rfl ?_
    exact kt
  obtain ⟨cl2, Ar2, q2, Sz2, Nn2, Hs2, Gs2⟩ := id A_d
  have in2 := inb_of (j := z0) Sz2 ⟨by decide, by decide⟩
  obtain ⟨T2, h2, X2, e2, W2, st2⟩ := stB X0 hx hZ e0 Ar2 (j := z0) in2 (g := (mkF m 31 #[sR o0, sI z0, sR o2, sI z0, sI z1, sI z0, sI c0] [(.int (c0.toInt8.toInt32)), (.int z0), (.ref o2)])) rfl rfl (hb hby d32_31)
  have sz2 : h0.size ≤ h2.size := (Keep.of_wr W2).1
  have V2 : Arv Z h2 o2 kb .byte z1 [(.int (nar .byte (c0.toInt8.toInt32)))] (.int z0) := Arv.set Ar2 q2 Sz2 Nn2 Hs2 Gs2 (fits_nar_byte _) W2 0 rfl (Nat.le_of_ble_eq_true rfl)
  have N2 := Fr.snoc X2 N0 (by omega)
  refine Go.pre st2 ?_
  refine Go.pre (st' := T2.setTop (mkF m 46 #[sR o0, sI z1, sR o2, sI z1, sI z1, sI z1, sI c0] [(.int z1)])) (fun target kt => ?_) ?_
  · refine XS.iinc X2.here hx rfl (hb hby d32_32) rfl (l' := #[.val (.ref o0), .val (.int z1), .val (.ref o2), .val (.int z0), .val (.int z1), .val (.int z0), .val (.int c0)]) rfl ?_
    refine XS.iinc X2.here hx rfl (hb hby d32_35) rfl (l' := #[.val (.ref o0), .val (.int z1), .val (.ref o2), .val (.int z1), .val (.int z1), .val (.int z0), .val (.int c0)]) rfl ?_
    refine XS.iinc X2.here hx rfl (hb hby d32_38) rfl (l' := #[.val (.ref o0), .val (.int z1), .val (.ref o2), .val (.int z1), .val (.int z1), .val (.int z1), .val (.int c0)]) rfl ?_
    refine XS.goto X2.here hx rfl (pc0 := 41) (pc' := 3) rfl (hb hby d32_41) (by decide) (by decide) ?_
    refine XS.iload X2.here hx rfl (hb hby d32_3) rfl ?_
    refine XS.iload X2.here hx rfl (hb hby d32_5) rfl ?_
    refine XS.icmpYes X2.here hx rfl (pc0 := 7) (pc' := 44) rfl (hb hby d32_7) rfl (flt (by decide)).2.1 (by decide) (by decide) ?_
    refine XS.iload X2.here hx rfl (hb hby d32_44) rfl ?_
    exact kt
  exact Go.retV X2 hx hlk hrt rfl (Or.inl ⟨rfl, Or.inl rfl, _, rfl⟩) (hb hby d32_46) (by decide) (by decide) (by rw [e2]; exact ⟨rfl, N2, ((Keep.refl h0 [o2]).wr W2 (Or.inl (List.mem_of_getElem? (i := 0) rfl))), ((KF.refl Z h0 [(o2, (z0).toNatClampNeg)]).wr W2 (Or.inl (List.mem_of_getElem? (i := 0) rfl))), V2⟩)
/-! StringUTF16.compress (31_1) -/
theorem pd31_1_0 : parseMethodDescriptor "([CI[BII)I" = some ⟨[(.array .char), .int, (.array .byte), .int, .int], some .int⟩ := by decide +kernel
theorem ef_31_1 (m : MethodId) (o0 : Addr) : entryFrame m #[(.ref o0), (.int (0 : Int32)), (.int (1 : Int32))] 6 = (mkF m 0 #[.val (.ref o0), .val (.int (0 : Int32)), .val (.int (1 : Int32)), .unset, .unset, .unset] []) := by first | (simp [entryFrame, mkF, argsToLocals, Value.category]; done) | rfl
def Q31_1 (Z : State) (o0 : Addr) (kt : ClassId) (ft : Int32 → Value) (c0 : Int32) (h0 : Heap) (n0 : Nat) (v : Option Value) (h : Heap) (L : List Loc) : Prop := ∃ b1 : Addr, ∃ k1 : ClassId, v = some (.ref b1) ∧ Fr n0 L ∧ Keep h0 h [] ∧ KF Z h0 h [] ∧ LE.le (α := Nat) h0.size b1 ∧ LT.lt (α := Nat) b1 h.size ∧ Arv Z h b1 k1 .byte z1 [(.int (nar .byte (c0.toInt8.toInt32)))] (.int z0)
theorem rm31_1 (l : Launch) (Z : State) (a0 : Array Value) (hw : ∀ d ∈ tables_1, d.before a0 Z = true) (ws : List Jvm.Cond) (o0 : Addr) (kt : ClassId) (ft : Int32 → Value) (c0 : Int32) (h0 : Heap) (n0 : Nat) (Z0 : n0 ≤ h0.size) (B_t : Arf Z h0 o0 kt .char z1024 ft) (hr0 : ft z0 = .int c0) (hle0 : ¬ (z255 < c0)) :
    MetFree l (⟨cF, "compress", "([CII)[B"⟩ : MethodName) (head1 (Jvm.Cond.code (⟨cF, "compress", "([CII)[B"⟩ : MethodName) jdk_52_method_16_code 6 (some (.array .byte)) :: ws) ({ frames := 1, cells := 1, slots := 1, locals := 18 } : Room)) (fun a U => a = #[(.ref o0), (.int z0), (.int z1)] ∧ Z.Warmed39 U.vm ∧ U.heap = h0) (fun _ _ _ _ _ => True) (fun _ U o U' => ∃ v L, o = .returned v ∧ Q31_1 Z o0 kt ft c0 h0 n0 v U'.heap L ∧ FrameEnd U o U' L ({ frames := 1, cells := 1, slots := 1, locals := 18 } : Room).cells ({ frames := 1, cells := 1, slots := 1, locals := 18 } : Room).slots) := by
  refine MetFree.of_bodySF (plainFor_of_name pn_31) hisR ?_
  intro p e s m args below meth c s₁ Bd hml0 hP hK
  obtain ⟨rfl, hZ, hh⟩ := hP
  have hx := Bd.exec
  have hby := Bd.bytes
  have hml : c.maxLocals = 6 := hml0
  have hown : s.vm.findClass cF = some m.cls := findClass_of_methodNamed Bd.named
  have hnm := (name_of_methodNamed Bd.named Bd.method).1
  have hrt := Bd.returns
  have hlk := Bd.notSynchronized
  have X0 : Stand p l e ({ frames := 1, cells := 1, slots := 1, locals := 18 } : Room) s m #[(.ref o0), (.int z0), (.int z1)] below meth c s₁ [] 0 0 := Stand.of_body Bd
  have e0 : s₁.heap = h0 := by rw [← hh, Bd.state]; rfl
  have N0 := Fr.nil n0
  have lt_B_t : LT.lt (α := Nat) o0 h0.size := B_t.lt
  show Go p e below s 1 1 (Q31_1 Z o0 kt ft c0 h0 n0) (s₁.setTop (entryFrame m #[(.ref o0), (.int z0), (.int z1)] 6))
  rw [ef_31_1 m o0]
  refine Go.pre (st' := s₁.setTop (mkF m 1 #[sR o0, sI z0, sI z1, sU, sU, sU] [(.int z1)])) (fun target kt => ?_) ?_
  · refine XS.iloadN X0.here hx rfl (hb hby d31_0) rfl ?_
    exact kt
  obtain ⟨T1, h1, k1, X1, e1, E1, A1, st1⟩ := newP X0 hx hZ (ow hw 14 rfl) e0 (g := (mkF m 1 #[sR o0, sI z0, sI z1, sU, sU, sU] [(.int z1)])) rfl (hb hby d31_1) rfl (by decide) (cap := 1) (by decide) (by decide) (by decide) (by decide)
  obtain ⟨b1, g1⟩ : ∃ z, z = h0.size := ⟨_, rfl⟩
  rw [← g1] at A1 st1
  have sz1 : h0.size ≤ h1.size := E1.1
  have V1 : Arv Z h1 b1 k1 .byte z1 [(.int z0)] (.int z0) := (Arv.new A1 (by decide)).pad (pad_rep [] (.int z0) 1)
  have lt1 : b1 < h1.size := V1.lt
  refine Go.pre st1 ?_
  refine Go.pre (st' := T1.setTop (mkF m 9 #[sR o0, sI z0, sI z1, sR b1, sU, sU] [(.int z1), (.int z0), (.ref b1), (.int z0), (.ref o0)])) (fun target kt => ?_) ?_
  · refine XS.astoreN X1.here hx rfl (hb hby d31_3) rfl rfl (l' := #[.val (.ref o0), .val (.int z0), .val (.int z1), .val (.ref b1), .unset, .unset]) rfl ?_
    refine XS.aloadN X1.here hx rfl (hb hby d31_4) rfl rfl ?_
    refine XS.iloadN X1.here hx rfl (hb hby d31_5) rfl ?_
    refine XS.aloadN X1.here hx rfl (hb hby d31_6) rfl rfl ?_
    refine XS.iconst X1.here hx rfl (hb hby d31_7) ?_
    refine XS.iloadN X1.here hx rfl (hb hby d31_8) rfl ?_
    exact kt
  have Y3 := (B_t.ext E1)
  obtain ⟨_, _, ⟨T2, L2, k2, n2⟩, -, X2, ⟨Lc2, hQ2, l2, y2, z2⟩, st2⟩ := Jvm.LawKit.callS X1 hx (y := (⟨cF, "compress", "([CI[BII)I"⟩ : MethodName)) hown (mvT hZ (ow hw 173 rfl)) (mvT hZ (ow hw 174 rfl)) (mvT hZ (ow hw 171 rfl)) (mvT hZ (ow hw 175 rfl)) (by decide) (backOf (W := 0) (rm32_1 l Z a0 hw [] o0 b1 kt ft c0 k1 h1 n0 (by omega) Y3 hr0 V1 (neN (by omega)) (by omega) hle0) hZ (ow hw 175 rfl) (ow hw 171 rfl) (by decide) (by decide)) (g := (mkF m 9 #[sR o0, sI z0, sI z1, sR b1, sU, sU] [(.int z1), (.int z0), (.ref b1), (.int z0), (.ref o0)])) rfl (by rw [hml]; rfl) (argsL := [(.ref o0), (.int z0), (.ref b1), (.int z0), (.int z1)]) (rest := []) (lenOf pd31_1_0 rfl) rfl (le0 rfl) (hb hby d31_9) (fun vm₁ hvm => ⟨rfl, e1, (by decide : 1 + 0 ≤ _), (by decide : 1 + 0 ≤ _)⟩)
  dsimp only [Pt.U, Pt.locs, Pt.cells, Pt.slots] at X2 l2 y2 z2 st2 hQ2
  subst l2 y2 z2
  obtain ⟨rfl, N2q, K2, KF2, Y2_0⟩ := hQ2
  have sz2 : h1.size ≤ T2.heap.size := K2.1
  have N2 := Fr.app N0 N2q
  refine Go.pre st2 ?_
  refine Go.pre (st' := T2.setTop (mkF m 58 #[sR o0, sI z0, sI z1, sR b1, sI z1, sU] [(.ref b1)])) (fun target kt => ?_) ?_
  · refine XS.istore X2.here hx rfl (hb hby d31_12) rfl (l' := #[.val (.ref o0), .val (.int z0), .val (.int z1), .val (.ref b1), .val (.int z1), .unset]) rfl ?_
    refine XS.iload X2.here hx rfl (hb hby d31_14) rfl ?_
    refine XS.iloadN X2.here hx rfl (hb hby d31_16) rfl ?_
    refine XS.icmpYes X2.here hx rfl (pc0 := 17) (pc' := 57) rfl (hb hby d31_17) rfl (teq (by decide)).1 (by decide) (by decide) ?_
    refine XS.aloadN X2.here hx rfl (hb hby d31_57) rfl rfl ?_
    exact kt
  exact Go.retV X2 hx hlk hrt rfl (Or.inr (Or.inr (Or.inr (Or.inr ⟨rfl, rfl, rfl⟩)))) (hb hby d31_58) (by decide) (by decide) (by exact ⟨b1, k1, rfl, N2, (((Keep.refl h0 []).ext E1).trans K2 (allS (Or.inr (by omega)) all0)), (((KF.refl Z h0 []).ext E1).trans KF2 (pallS (Or.inr (by show _ ≤ b1; omega)) pall0)), by omega, by omega, Y2_0⟩)
/-! StringUTF16.coderFromArrayLen (33_1) -/
theorem ef_33_1 (m : MethodId) (o0 : Addr) : entryFrame m #[(.ref o0), (.int (1 : Int32))] 2 = (mkF m 0 #[.val (.ref o0), .val (.int (1 : Int32))] []) := by first | (simp [entryFrame, mkF, argsToLocals, Value.category]; done) | rfl
def Q33_1 (Z : State) (o0 : Addr) (ka : ClassId) (c0 : Int32) (h0 : Heap) (n0 : Nat) (v : Option Value) (h : Heap) (L : List Loc) : Prop := v = some (.int (nar .byte z0)) ∧ Fr n0 L ∧ h = h0
theorem rm33_1 (l : Launch) (Z : State) (a0 : Array Value) (hw : ∀ d ∈ tables_1, d.before a0 Z = true) (ws : List Jvm.Cond) (o0 : Addr) (ka : ClassId) (c0 : Int32) (h0 : Heap) (n0 : Nat) (Z0 : n0 ≤ h0.size) (A_c : Arv Z h0 o0 ka .byte z1 [(.int c0)] (.int z0)) :
    MetFree l (⟨cF, "coderFromArrayLen", "([BI)B"⟩ : MethodName) (head1 (Jvm.Cond.code (⟨cF, "coderFromArrayLen", "([BI)B"⟩ : MethodName) jdk_52_method_15_code 2 (some .byte) :: ws) ({ frames := 0, cells := 0, slots := 0, locals := 0 } : Room)) (fun a U => a = #[(.ref o0), (.int z1)] ∧ Z.Warmed39 U.vm ∧ U.heap = h0) (fun _ _ _ _ _ => True) (fun _ U o U' => ∃ v L, o = .returned v ∧ Q33_1 Z o0 ka c0 h0 n0 v U'.heap L ∧ FrameEnd U o U' L ({ frames := 0, cells := 0, slots := 0, locals := 0 } : Room).cells ({ frames := 0, cells := 0, slots := 0, locals := 0 } : Room).slots) := by
  refine MetFree.of_bodySF (plainFor_of_name pn_33) hisR ?_
  intro p e s m args below meth c s₁ Bd hml0 hP hK
  obtain ⟨rfl, hZ, hh⟩ := hP
  have hx := Bd.exec
  have hby := Bd.bytes
  have hml : c.maxLocals = 2 := hml0
  have hown : s.vm.findClass cF = some m.cls := findClass_of_methodNamed Bd.named
  have hnm := (name_of_methodNamed Bd.named Bd.method).1
  have hrt := Bd.returns
  have hlk := Bd.notSynchronized
  have X0 : Stand p l e ({ frames := 0, cells := 0, slots := 0, locals := 0 } : Room) s m #[(.ref o0), (.int z1)] below meth c s₁ [] 0 0 := Stand.of_body Bd
  have e0 : s₁.heap = h0 := by rw [← hh, Bd.state]; rfl
  have N0 := Fr.nil n0
  have lt_A_c : LT.lt (α := Nat) o0 h0.size := A_c.lt
  show Go p e below s 0 0 (Q33_1 Z o0 ka c0 h0 n0) (s₁.setTop (entryFrame m #[(.ref o0), (.int z1)] 2))
  rw [ef_33_1 m o0]
  refine Go.pre (st' := s₁.setTop (mkF m 2 #[sR o0, sI z1] [(.ref o0), (.int z1)])) (fun target kt => ?_) ?_
  · refine XS.iloadN X0.here hx rfl (hb hby d33_0) rfl ?_
    refine XS.aloadN X0.here hx rfl (hb hby d33_1) rfl rfl ?_
    exact kt
  obtain ⟨cl1, Ar1, -, Sz1, Nn1, -, -⟩ := id A_c
  have st1 := X0.arraylength hx (by rw [e0]; exact Ar1.1) (State.isArrayOf_alike hZ.alike Ar1.2.1) (g := (mkF m 2 #[sR o0, sI z1] [(.ref o0), (.int z1)])) rfl rfl (hb hby d33_2)
  rw [len_of Sz1 Nn1] at st1
  refine Go.pre st1 ?_
  refine Go.pre (st' := s₁.setTop (mkF m 8 #[sR o0, sI z1] [(.int z0)])) (fun target kt => ?_) ?_
  · refine XS.isub X0.here hx rfl (hb hby d33_3) rfl ?_
    refine XS.bipush X0.here hx rfl (hb hby d33_4) ?_
    refine XS.iushr X0.here hx rfl (hb hby d33_6) rfl ?_
    refine XS.i2b X0.here hx rfl (hb hby d33_7) rfl ?_
    exact kt
  exact Go.retN X0 hx hlk hrt (z' := (nar .byte z0)) (by simp) (hb hby d33_8) rfl (by decide) (by decide) (by rw [e0]; exact ⟨rfl, N0, rfl⟩)
/-! String.<init> (22_1) -/
theorem pd22_1_0 : parseMethodDescriptor "([CII)[B" = some ⟨[(.array .char), .int, .int], some (.array .byte)⟩ := by decide +kernel
theorem pd22_1_1 : parseMethodDescriptor "([BI)B" = some ⟨[(.array .byte), .int], some .byte⟩ := by decide +kernel
theorem ef_22_1 (m : MethodId) (o0 : Addr) (o1 : Addr) : entryFrame m #[(.ref o0), (.ref o1), (.int (0 : Int32)), (.int (1 : Int32)), .null] 6 = (mkF m 0 #[.val (.ref o0), .val (.ref o1), .val (.int (0 : Int32)), .val (.int (1 : Int32)), .val .null, .unset] []) := by first | (simp [entryFrame, mkF, argsToLocals, Value.category]; done) | rfl
def Q22_1 (Z : State) (o0 : Addr) (o1 : Addr) (kt : ClassId) (ft : Int32 → Value) (c0 : Int32) (zc : Int32) (u5 : Value) (u10 : Value) (h0 : Heap) (n0 : Nat) (v : Option Value) (h : Heap) (L : List Loc) : Prop := ∃ b3_0 : Addr, ∃ k3_0 : ClassId, v = none ∧ Fr n0 L ∧ Keep h0 h [o0] ∧ KF Z h0 h [(o0, Jvm.RoadKit.slotOf Z cB "coder" "B"), (o0, Jvm.RoadKit.slotOf Z cB "value" "[B")] ∧ LE.le (α := Nat) h0.size b3_0 ∧ LT.lt (α := Nat) b3_0 h.size ∧ Fld Z h o0 cB "coder" "B" (.int (nar .byte (nar .byte z0))) ∧ Fld Z h o0 cB "value" "[B" (.ref b3_0) ∧ Arv Z h b3_0 k3_0 .byte z1 [(.int (nar .byte (c0.toInt8.toInt32)))] (.int z0)
theorem rm22_1 (l : Launch) (Z : State) (a0 : Array Value) (hw : ∀ d ∈ tables_1, d.before a0 Z = true) (ws : List Jvm.Cond) (o0 : Addr) (o1 : Addr) (kt : ClassId) (ft : Int32 → Value) (c0 : Int32) (zc : Int32) (u5 : Value) (u10 : Value) (h0 : Heap) (n0 : Nat) (Z0 : n0 ≤ h0.size) (B_t : Arf Z h0 o1 kt .char z1024 ft) (hr0 : ft z0 = .int c0) (S_COMPACT : Sta Z Z.heap cB "COMPACT_STRINGS" "Z" (.int zc)) (Ol : Old Z n0 h0) (F_coder_o0 : Fld Z h0 o0 cB "coder" "B" u5) (E_o0 : Exa Z h0 o0 cB) (g_o0 : n0 ≤ o0) (F_value_o0 : Fld Z h0 o0 cB "value" "[B" u10) (hle0 : ¬ (z255 < c0)) (hc30 : ¬ (zc = z0)) :
    MetFree l (⟨cB, "<init>", "([CIILjava/lang/Void;)V"⟩ : MethodName) (head1 (Jvm.Cond.code (⟨cB, "<init>", "([CIILjava/lang/Void;)V"⟩ : MethodName) jdk_42_method_149_code 6 none :: ws) ({ frames := 2, cells := 1, slots := 1, locals := 35 } : Room)) (fun a U => a = #[(.ref o0), (.ref o1), (.int z0), (.int z1), .null] ∧ Z.Warmed39 U.vm ∧ U.heap = h0) (fun _ _ _ _ _ => True) (fun _ U o U' => ∃ v L, o = .returned v ∧ Q22_1 Z o0 o1 kt ft c0 zc u5 u10 h0 n0 v U'.heap L ∧ FrameEnd U o U' L ({ frames := 2, cells := 1, slots := 1, locals := 35 } : Room).cells ({ frames := 2, cells := 1, slots := 1, locals := 35 } : Room).slots) := by
  refine MetFree.of_bodySF (plainFor_of_name pn_22) hisR ?_
  intro p e s m args below meth c s₁ Bd hml0 hP hK
  obtain ⟨rfl, hZ, hh⟩ := hP
  have hx := Bd.exec
  have hby := Bd.bytes
  have hml : c.maxLocals = 6 := hml0
  have hown : s.vm.findClass cB = some m.cls := findClass_of_methodNamed Bd.named
  have hnm := (name_of_methodNamed Bd.named Bd.method).1
  have hrt := Bd.returns
  have hlk := Bd.notSynchronized
  have X0 : Stand p l e ({ frames := 2, cells := 1, slots := 1, locals := 35 } : Room) s m #[(.ref o0), (.ref o1), (.int z0), (.int z1), .null] below meth c s₁ [] 0 0 := Stand.of_body Bd
  have e0 : s₁.heap = h0 := by rw [← hh, Bd.state]; rfl
  have N0 := Fr.nil n0
  have lt_B_t : LT.lt (α := Nat) o1 h0.size := B_t.lt
  have lt_F_coder_o0 : LT.lt (α := Nat) o0 h0.size := F_coder_o0.lt
  show Go p e below s 1 1 (Q22_1 Z o0 o1 kt ft c0 zc u5 u10 h0 n0) (s₁.setTop (entryFrame m #[(.ref o0), (.ref o1), (.int z0), (.int z1), .null] 6))
  rw [ef_22_1 m o0 o1]
  refine Go.pre (st' := s₁.setTop (mkF m 1 #[sR o0, sR o1, sI z0, sI z1, sN, sU] [(.ref o0)])) (fun target kt => ?_) ?_
  · refine XS.aloadN X0.here hx rfl (hb hby d22_0) rfl rfl ?_
    exact kt
  obtain ⟨T1, X1, e1, st1⟩ := initO X0 hx hZ hown (ow hw 19 rfl) (ow hw 20 rfl) (ow hw 21 rfl) e0 (g := (mkF m 1 #[sR o0, sR o1, sI z0, sI z1, sN, sU] [(.ref o0)])) rfl (by rw [hml]; rfl) rfl (hb hby d22_1) (by decide) (W := 0) (le0 rfl) (by decide)
  refine Go.pre st1 ?_
  refine Go.pre (st' := T1.setTop (mkF m 27 #[sR o0, sR o1, sI z0, sI z1, sN, sU] [])) (fun target kt => ?_) ?_
  · refine XS.iloadN X1.here hx rfl (hb hby d22_4) rfl ?_
    refine XS.ifYes X1.here hx rfl (pc0 := 5) (pc' := 27) rfl (hb hby d22_5) rfl ((if0 _ _).trans (feq (by decide)).2) (by decide) (by decide) ?_
    exact kt
  obtain ⟨T2, X2, e2, st2⟩ := getS2 X1 hx hZ hown (host := "") (Or.inl (ow hw 4 rfl)) Via.refl e1 (S_COMPACT.ext Ol.2) (g := (mkF m 27 #[sR o0, sR o1, sI z0, sI z1, sN, sU] [])) rfl (hb hby d22_27)
  refine Go.pre st2 ?_
  refine Go.pre (st' := T2.setTop (mkF m 36 #[sR o0, sR o1, sI z0, sI z1, sN, sU] [(.int z1), (.int z0), (.ref o1)])) (fun target kt => ?_) ?_
  · refine XS.ifNo X2.here hx rfl (hb hby d22_30) rfl ((if0 _ _).trans (feq hc30).1) ?_
    refine XS.aloadN X2.here hx rfl (hb hby d22_33) rfl rfl ?_
    refine XS.iloadN X2.here hx rfl (hb hby d22_34) rfl ?_
    refine XS.iloadN X2.here hx rfl (hb hby d22_35) rfl ?_
    exact kt
  obtain ⟨_, _, ⟨T3, L3, k3, n3⟩, -, X3, ⟨Lc3, hQ3, l3, y3, z3⟩, st3⟩ := Jvm.LawKit.callS X2 hx (y := (⟨cF, "compress", "([CII)[B"⟩ : MethodName)) hown (mvT hZ (ow hw 169 rfl)) (mvT hZ (ow hw 170 rfl)) (mvT hZ (ow hw 171 rfl)) (mvT hZ (ow hw 172 rfl)) (by decide) (backOf (W := 0) (rm31_1 l Z a0 hw [] o1 kt ft c0 h0 n0 (by omega) B_t hr0 hle0) hZ (ow hw 172 rfl) (ow hw 171 rfl) (by decide) (by decide)) (g := (mkF m 36 #[sR o0, sR o1, sI z0, sI z1, sN, sU] [(.int z1), (.int z0), (.ref o1)])) rfl (by rw [hml]; rfl) (argsL := [(.ref o1), (.int z0), (.int z1)]) (rest := []) (lenOf pd22_1_0 rfl) rfl (le0 rfl) (hb hby d22_36) (fun vm₁ hvm => ⟨rfl, e2, (by decide : 0 + 1 ≤ _), (by decide : 0 + 1 ≤ _)⟩)
  dsimp only [Pt.U, Pt.locs, Pt.cells, Pt.slots] at X3 l3 y3 z3 st3 hQ3
  subst l3 y3 z3
  obtain ⟨b3_0, k3_0, rfl, N3q, K3, KF3, gb3_0, ltb3_0, Y3_0⟩ := hQ3
  have sz3 : h0.size ≤ T3.heap.size := K3.1
  have N3 := Fr.app N0 N3q
  refine Go.pre st3 ?_
  refine Go.pre (st' := T3.setTop (mkF m 45 #[sR o0, sR o1, sI z0, sI z1, sN, sR b3_0] [(.int z1), (.ref b3_0), (.ref o0)])) (fun target kt => ?_) ?_
  · refine XS.astore X3.here hx rfl (hb hby d22_39) rfl rfl (l' := #[.val (.ref o0), .val (.ref o1), .val (.int z0), .val (.int z1), .val .null, .val (.ref b3_0)]) rfl ?_
    refine XS.aloadN X3.here hx rfl (hb hby d22_41) rfl rfl ?_
    refine XS.aload X3.here hx rfl (hb hby d22_42) rfl rfl ?_
    refine XS.iloadN X3.here hx rfl (hb hby d22_44) rfl ?_
    exact kt
  obtain ⟨_, _, ⟨T4, L4, k4, n4⟩, -, X4, ⟨Lc4, hQ4, l4, y4, z4⟩, st4⟩ := Jvm.LawKit.callS X3 hx (y := (⟨cF, "coderFromArrayLen", "([BI)B"⟩ : MethodName)) hown (mvT hZ (ow hw 176 rfl)) (mvT hZ (ow hw 177 rfl)) (mvT hZ (ow hw 171 rfl)) (mvT hZ (ow hw 178 rfl)) (by decide) (backOf (W := 1) (rm33_1 l Z a0 hw [] b3_0 k3_0 (nar .byte (c0.toInt8.toInt32)) T3.heap n0 (by omega) Y3_0) hZ (ow hw 178 rfl) (ow hw 171 rfl) (by decide) (by decide)) (g := (mkF m 45 #[sR o0, sR o1, sI z0, sI z1, sN, sR b3_0] [(.int z1), (.ref b3_0), (.ref o0)])) rfl (by rw [hml]; rfl) (argsL := [(.ref b3_0), (.int z1)]) (rest := [(.ref o0)]) (lenOf pd22_1_1 rfl) rfl (le0 rfl) (hb hby d22_45) (fun vm₁ hvm => ⟨rfl, rfl, (by decide : 1 + 0 ≤ _), (by decide : 1 + 0 ≤ _)⟩)
  dsimp only [Pt.U, Pt.locs, Pt.cells, Pt.slots] at X4 l4 y4 z4 st4 hQ4
  subst l4 y4 z4
  obtain ⟨rfl, N4q, e4⟩ := hQ4
  have N4 := Fr.app N3 N4q
  refine Go.pre st4 ?_
  have Y6 := (F_coder_o0.keep K3 nin0)
  have Y7 := (E_o0.keep K3)
  obtain ⟨T8, h8, X8, e8, W8, st8⟩ := putFN X4 hx hZ hown (ow hw 24 rfl) Via.refl e4 Y6 Y7 (Or.inr ⟨(ow hw 25 rfl), rfl, hnm⟩) (ow hw 10 rfl) (ty := .byte) (v' := (.int (nar .byte (nar .byte z0)))) (by decide) rfl (fits_nar_byte _) (g := (mkF m 48 #[sR o0, sR o1, sI z0, sI z1, sN, sR b3_0] [(.int (nar .byte z0)), (.ref o0)])) rfl rfl (hb hby d22_48)
  have sz8 : T3.heap.size ≤ h8.size := (Keep.of_wr W8).1
  have Y9 : Fld Z h8 o0 cB "coder" "B" (.int (nar .byte (nar .byte z0))) := Y6.same W8
  have N8 := Fr.snoc X8 N4 (by omega)
  refine Go.pre st8 ?_
  refine Go.pre (st' := T8.setTop (mkF m 54 #[sR o0, sR o1, sI z0, sI z1, sN, sR b3_0] [(.ref b3_0), (.ref o0)])) (fun target kt => ?_) ?_
  · refine XS.aloadN X8.here hx rfl (hb hby d22_51) rfl rfl ?_
    refine XS.aload X8.here hx rfl (hb hby d22_52) rfl rfl ?_
    exact kt
  have Y11 := ((F_value_o0.keep K3 nin0).other W8 (Or.inr (slot_ne (Or.inr (ow hw 23 rfl)) (Or.inr (ow hw 25 rfl)) (by decide) (t := (.array .byte)) (t' := .byte) (by decide) (by decide))))
  have Y12 := (Y7.wr W8)
  obtain ⟨T13, h13, X13, e13, W13, st13⟩ := putF X8 hx hZ hown (host := "") (Or.inl (ow hw 22 rfl)) Via.refl e8 Y11 Y12 (Or.inr ⟨(ow hw 23 rfl), rfl, hnm⟩) (ow hw 10 rfl) (ty := (.array .byte)) (by decide) rfl rfl (g := (mkF m 54 #[sR o0, sR o1, sI z0, sI z1, sN, sR b3_0] [(.ref b3_0), (.ref o0)])) rfl rfl (hb hby d22_54)
  have sz13 : h8.size ≤ h13.size := (Keep.of_wr W13).1
  have Y14 : Fld Z h13 o0 cB "value" "[B" (.ref b3_0) := Y11.same W13
  have N13 := Fr.snoc X13 N8 (by omega)
  refine Go.pre st13 ?_
  have Y15 := (Y9.other W13 (Or.inr (slot_ne (Or.inr (ow hw 25 rfl)) (Or.inr (ow hw 23 rfl)) (by decide) (t := .byte) (t' := (.array .byte)) (by decide) (by decide))))
  have Y16 := ((Y3_0.other W8 (neN (by omega))).other W13 (neN (by omega)))
  exact Go.ret0 X13 hx hlk hrt (hb hby d22_57) (by decide) (by decide) (by rw [e13]; exact ⟨b3_0, k3_0, rfl, N13, ((((Keep.refl h0 [o0]).trans K3 all0).wr W8 (Or.inl (List.mem_of_getElem? (i := 0) rfl))).wr W13 (Or.inl (List.mem_of_getElem? (i := 0) rfl))), ((((KF.refl Z h0 [(o0, Jvm.RoadKit.slotOf Z cB "coder" "B"), (o0, Jvm.RoadKit.slotOf Z cB "value" "[B")]).trans KF3 pall0).wr W8 (Or.inl (List.mem_of_getElem? (i := 0) rfl))).wr W13 (Or.inl (List.mem_of_getElem? (i := 1) rfl))), by omega, by omega, Y15, Y14, Y16⟩)
/-! String.<init> (18_1) -/
theorem pd18_1_0 : parseMethodDescriptor "([CII)Ljava/lang/Void;" = some ⟨[(.array .char), .int, .int], some (.object "java/lang/Void")⟩ := by decide +kernel
theorem pd18_1_1 : parseMethodDescriptor "([CIILjava/lang/Void;)V" = some ⟨[(.array .char), .int, .int, (.object "java/lang/Void")], none⟩ := by decide +kernel
theorem ef_18_1 (m : MethodId) (o0 : Addr) (o1 : Addr) : entryFrame m #[(.ref o0), (.ref o1), (.int (0 : Int32)), (.int (1 : Int32))] 4 = (mkF m 0 #[.val (.ref o0), .val (.ref o1), .val (.int (0 : Int32)), .val (.int (1 : Int32))] []) := by first | (simp [entryFrame, mkF, argsToLocals, Value.category]; done) | rfl
def Q18_1 (Z : State) (o0 : Addr) (o1 : Addr) (kt : ClassId) (ft : Int32 → Value) (c0 : Int32) (zc : Int32) (zf : Value) (u3 : Value) (u4 : Value) (h0 : Heap) (n0 : Nat) (v : Option Value) (h : Heap) (L : List Loc) : Prop := ∃ b2_0 : Addr, ∃ k2_0 : ClassId, v = none ∧ Fr n0 L ∧ Keep h0 h [o0] ∧ KF Z h0 h [(o0, Jvm.RoadKit.slotOf Z cB "coder" "B"), (o0, Jvm.RoadKit.slotOf Z cB "value" "[B")] ∧ LE.le (α := Nat) h0.size b2_0 ∧ LT.lt (α := Nat) b2_0 h.size ∧ Fld Z h o0 cB "coder" "B" (.int (nar .byte (nar .byte z0))) ∧ Fld Z h o0 cB "value" "[B" (.ref b2_0) ∧ Arv Z h b2_0 k2_0 .byte z1 [(.int (nar .byte (c0.toInt8.toInt32)))] (.int z0)
theorem rm18_1 (l : Launch) (Z : State) (a0 : Array Value) (hw : ∀ d ∈ tables_1, d.before a0 Z = true) (ws : List Jvm.Cond) (o0 : Addr) (o1 : Addr) (kt : ClassId) (ft : Int32 → Value) (c0 : Int32) (zc : Int32) (zf : Value) (u3 : Value) (u4 : Value) (h0 : Heap) (n0 : Nat) (Z0 : n0 ≤ h0.size) (B_t : Arf Z h0 o1 kt .char z1024 ft) (hr0 : ft z0 = .int c0) (S_COMPACT : Sta Z Z.heap cB "COMPACT_STRINGS" "Z" (.int zc)) (hcs : ¬ (zc = z0)) (S_F : Sta Z Z.heap cE "SIOOBE_FORMATTER" "Ljava/util/function/BiFunction;" zf) (hv_zf : zf.isRef = true) (Ol : Old Z n0 h0) (F_coder_o0 : Fld Z h0 o0 cB "coder" "B" u3) (E_o0 : Exa Z h0 o0 cB) (g_o0 : n0 ≤ o0) (F_value_o0 : Fld Z h0 o0 cB "value" "[B" u4) (hle0 : ¬ (z255 < c0)) :
    MetFree l (⟨cB, "<init>", "([CII)V"⟩ : MethodName) (head1 (Jvm.Cond.code (⟨cB, "<init>", "([CII)V"⟩ : MethodName) jdk_42_method_4_code 4 none :: ws) ({ frames := 3, cells := 1, slots := 1, locals := 52 } : Room)) (fun a U => a = #[(.ref o0), (.ref o1), (.int z0), (.int z1)] ∧ Z.Warmed39 U.vm ∧ U.heap = h0) (fun _ _ _ _ _ => True) (fun _ U o U' => ∃ v L, o = .returned v ∧ Q18_1 Z o0 o1 kt ft c0 zc zf u3 u4 h0 n0 v U'.heap L ∧ FrameEnd U o U' L ({ frames := 3, cells := 1, slots := 1, locals := 52 } : Room).cells ({ frames := 3, cells := 1, slots := 1, locals := 52 } : Room).slots) := by
  refine MetFree.of_bodySF (plainFor_of_name pn_18) hisR ?_
  intro p e s m args below meth c s₁ Bd hml0 hP hK
  obtain ⟨rfl, hZ, hh⟩ := hP
  have hx := Bd.exec
  have hby := Bd.bytes
  have hml : c.maxLocals = 4 := hml0
  have hown : s.vm.findClass cB = some m.cls := findClass_of_methodNamed Bd.named
  have hnm := (name_of_methodNamed Bd.named Bd.method).1
  have hrt := Bd.returns
  have hlk := Bd.notSynchronized
  have X0 : Stand p l e ({ frames := 3, cells := 1, slots := 1, locals := 52 } : Room) s m #[(.ref o0), (.ref o1), (.int z0), (.int z1)] below meth c s₁ [] 0 0 := Stand.of_body Bd
  have e0 : s₁.heap = h0 := by rw [← hh, Bd.state]; rfl
  have N0 := Fr.nil n0
  have lt_B_t : LT.lt (α := Nat) o1 h0.size := B_t.lt
  have lt_F_coder_o0 : LT.lt (α := Nat) o0 h0.size := F_coder_o0.lt
  show Go p e below s 1 1 (Q18_1 Z o0 o1 kt ft c0 zc zf u3 u4 h0 n0) (s₁.setTop (entryFrame m #[(.ref o0), (.ref o1), (.int z0), (.int z1)] 4))
  rw [ef_18_1 m o0 o1]
  refine Go.pre (st' := s₁.setTop (mkF m 7 #[sR o0, sR o1, sI z0, sI z1] [(.int z1), (.int z0), (.ref o1), (.int z1), (.int z0), (.ref o1), (.ref o0)])) (fun target kt => ?_) ?_
  · refine XS.aloadN X0.here hx rfl (hb hby d18_0) rfl rfl ?_
    refine XS.aloadN X0.here hx rfl (hb hby d18_1) rfl rfl ?_
    refine XS.iloadN X0.here hx rfl (hb hby d18_2) rfl ?_
    refine XS.iloadN X0.here hx rfl (hb hby d18_3) rfl ?_
    refine XS.aloadN X0.here hx rfl (hb hby d18_4) rfl rfl ?_
    refine XS.iloadN X0.here hx rfl (hb hby d18_5) rfl ?_
    refine XS.iloadN X0.here hx rfl (hb hby d18_6) rfl ?_
    exact kt
  obtain ⟨_, _, ⟨T1, L1, k1, n1⟩, -, X1, ⟨Lc1, hQ1, l1, y1, z1⟩, st1⟩ := Jvm.LawKit.callS X0 hx (y := (⟨cB, "rangeCheck", "([CII)Ljava/lang/Void;"⟩ : MethodName)) hown (mvT hZ (ow hw 116 rfl)) (mvT hZ (ow hw 117 rfl)) (mvT hZ (ow hw 2 rfl)) (mvT hZ (ow hw 118 rfl)) (by decide) (backOf (W := 4) (rm19_1 l Z a0 hw [] o1 kt ft zf h0 n0 (by omega) B_t S_F hv_zf Ol) hZ (ow hw 118 rfl) (ow hw 2 rfl) (by decide) (by decide)) (g := (mkF m 7 #[sR o0, sR o1, sI z0, sI z1] [(.int z1), (.int z0), (.ref o1), (.int z1), (.int z0), (.ref o1), (.ref o0)])) rfl (by rw [hml]; rfl) (argsL := [(.ref o1), (.int z0), (.int z1)]) (rest := [(.int z1), (.int z0), (.ref o1), (.ref o0)]) (lenOf pd18_1_0 rfl) rfl (le0 rfl) (hb hby d18_7) (fun vm₁ hvm => ⟨rfl, e0, (by decide : 0 + 0 ≤ _), (by decide : 0 + 0 ≤ _)⟩)
  dsimp only [Pt.U, Pt.locs, Pt.cells, Pt.slots] at X1 l1 y1 z1 st1 hQ1
  subst l1 y1 z1
  obtain ⟨rfl, N1q, e1⟩ := hQ1
  have N1 := Fr.app N0 N1q
  refine Go.pre st1 ?_
  obtain ⟨_, _, ⟨T2, L2, k2, n2⟩, -, X2, ⟨Lc2, hQ2, l2, y2, z2⟩, st2⟩ := X1.specialBack hx (y := (⟨cB, "<init>", "([CIILjava/lang/Void;)V"⟩ : MethodName)) rfl hown (mvT hZ (ow hw 127 rfl)) (mvT hZ (ow hw 128 rfl)) (mvT hZ (ow hw 129 rfl)) (by decide) (backOf (W := 0) (rm22_1 l Z a0 hw [] o0 o1 kt ft c0 zc u3 u4 h0 n0 (by omega) B_t hr0 S_COMPACT Ol F_coder_o0 E_o0 (by omega) F_value_o0 hle0 hcs) hZ (ow hw 129 rfl) (ow hw 2 rfl) (by decide) (by decide)) (g := (mkF m 10 #[sR o0, sR o1, sI z0, sI z1] [.null, (.int z1), (.int z0), (.ref o1), (.ref o0)])) rfl (by rw [hml]; rfl) (Steps.refl _) (a := o0) (argsL := [(.ref o1), (.int z0), (.int z1), .null]) (rest := []) (lenOf pd18_1_1 rfl) rfl (le0 rfl) (hb hby d18_10) (fun vm₁ hvm => ⟨rfl, e1, (by decide : 0 + 1 ≤ _), (by decide : 0 + 1 ≤ _)⟩)
  dsimp only [Pt.U, Pt.locs, Pt.cells, Pt.slots] at X2 l2 y2 z2 st2 hQ2
  subst l2 y2 z2
  obtain ⟨b2_0, k2_0, rfl, N2q, K2, KF2, gb2_0, ltb2_0, Y2_0, Y2_1, Y2_2⟩ := hQ2
  have sz2 : h0.size ≤ T2.heap.size := K2.1
  have N2 := Fr.app N1 N2q
  refine Go.trans st2 ?_
  exact Go.ret0 X2 hx hlk hrt (hb hby d18_13) (by decide) (by decide) (by exact ⟨b2_0, k2_0, rfl, N2, ((Keep.refl h0 [o0]).trans K2 (allS (Or.inl (List.mem_of_getElem? (i := 0) rfl)) all0)), ((KF.refl Z h0 [(o0, Jvm.RoadKit.slotOf Z cB "coder" "B"), (o0, Jvm.RoadKit.slotOf Z cB "value" "[B")]).trans KF2 (pallS (Or.inl (List.mem_of_getElem? (i := 0) rfl)) (pallS (Or.inl (List.mem_of_getElem? (i := 1) rfl)) pall0))), by omega, by omega, Y2_0, Y2_1, Y2_2⟩)
/-! Attributes.value (16_1) -/
theorem pd16_1_0 : parseMethodDescriptor "(I)I" = some ⟨[.int], some .int⟩ := by decide +kernel
theorem pd16_1_1 : parseMethodDescriptor "([CII)V" = some ⟨[(.array .char), .int, .int], none⟩ := by decide +kernel
theorem ef_16_1 (m : MethodId) (o0 : Addr) : entryFrame m #[(.ref o0), (.int (0 : Int32))] 3 = (mkF m 0 #[.val (.ref o0), .val (.int (0 : Int32)), .unset] []) := by first | (simp [entryFrame, mkF, argsToLocals, Value.category]; done) | rfl
def Q16_1 (Z : State) (o0 : Addr) (an : Addr) (kan : ClassId) (fan : Int32 → Value) (av : Addr) (kav : ClassId) (fav : Int32 → Value) (ae : Addr) (kae : ClassId) (fae : Int32 → Value) (tx : Addr) (ktx : ClassId) (ftx : Int32 → Value) (us : Value) (ut : Value) (c0 : Int32) (zc : Int32) (zf : Value) (h0 : Heap) (n0 : Nat) (v : Option Value) (h : Heap) (L : List Loc) : Prop := ∃ b5 : Addr, ∃ b12_0 : Addr, ∃ k12_0 : ClassId, v = some (.ref b5) ∧ Fr n0 L ∧ Keep h0 h [av] ∧ KF Z h0 h [(av, (z0).toNatClampNeg)] ∧ LE.le (α := Nat) h0.size b5 ∧ LT.lt (α := Nat) b5 h.size ∧ LE.le (α := Nat) h0.size b12_0 ∧ LT.lt (α := Nat) b12_0 h.size ∧ LT.lt (α := Nat) b5 b12_0 ∧ Arf Z h av kav (.object cB) z16 (own_upd fav z0 (.ref b5)) ∧ Exa Z h b5 cB ∧ Fld Z h b5 cB "hash" "I" (.int z0) ∧ Fld Z h b5 cB "hashIsZero" "Z" (.int z0) ∧ Fld Z h b5 cB "coder" "B" (.int (nar .byte (nar .byte z0))) ∧ Fld Z h b5 cB "value" "[B" (.ref b12_0) ∧ Arv Z h b12_0 k12_0 .byte z1 [(.int (nar .byte (c0.toInt8.toInt32)))] (.int z0)
theorem rm16_1 (l : Launch) (Z : State) (a0 : Array Value) (hw : ∀ d ∈ tables_1, d.before a0 Z = true) (ws : List Jvm.Cond) (o0 : Addr) (an : Addr) (kan : ClassId) (fan : Int32 → Value) (av : Addr) (kav : ClassId) (fav : Int32 → Value) (ae : Addr) (kae : ClassId) (fae : Int32 → Value) (tx : Addr) (ktx : ClassId) (ftx : Int32 → Value) (us : Value) (ut : Value) (c0 : Int32) (zc : Int32) (zf : Value) (h0 : Heap) (n0 : Nat) (Z0 : n0 ≤ h0.size) (E_o0 : Exa Z h0 o0 cA) (F_se : Fld Z h0 o0 cA "size" "I" (.int z1)) (F_sd : Fld Z h0 o0 cA "specified" "I" us) (F_th : Fld Z h0 o0 cA "textLength" "I" ut) (F_ix : Fld Z h0 o0 cA "index" "Ljava/util/Map;" .null) (Fan : Fld Z h0 o0 cA "names" cD (.ref an)) (B_an : Arf Z h0 an kan (.object cB) z16 fan) (Fav : Fld Z h0 o0 cA "values" cD (.ref av)) (B_av : Arf Z h0 av kav (.object cB) z16 fav) (Fae : Fld Z h0 o0 cA "ends" "[I" (.ref ae)) (B_ae : Arf Z h0 ae kae .int z16 fae) (Ftx : Fld Z h0 o0 cA "text" "[C" (.ref tx)) (B_tx : Arf Z h0 tx ktx .char z1024 ftx) (O_an : Ovr Z kan cB) (O_av : Ovr Z kav cB) (n_o0_an : o0 ≠ an) (n_o0_av : o0 ≠ av) (n_o0_ae : o0 ≠ ae) (n_o0_tx : o0 ≠ tx) (n_an_av : an ≠ av) (n_an_ae : an ≠ ae) (n_av_ae : av ≠ ae) (n_an_tx : an ≠ tx) (n_av_tx : av ≠ tx) (n_ae_tx : ae ≠ tx) (hrv : fav z0 = .null) (hre : fae z0 = .int z1) (hr0 : ftx z0 = .int c0) (S_COMPACT : Sta Z Z.heap cB "COMPACT_STRINGS" "Z" (.int zc)) (hcs : ¬ (zc = z0)) (S_F : Sta Z Z.heap cE "SIOOBE_FORMATTER" "Ljava/util/function/BiFunction;" zf) (hv_zf : zf.isRef = true) (Ol : Old Z n0 h0) (g_av : n0 ≤ av) (hle0 : ¬ (z255 < c0)) :
    MetFree l (⟨cA, "value", "(I)Ljava/lang/String;"⟩ : MethodName) (head1 (Jvm.Cond.code (⟨cA, "value", "(I)Ljava/lang/String;"⟩ : MethodName) prog_64_method_6_code 3 (some (.object cB)) :: ws) ({ frames := 4, cells := 2, slots := 5, locals := 70 } : Room)) (fun a U => a = #[(.ref o0), (.int z0)] ∧ Z.Warmed39 U.vm ∧ U.heap = h0) (fun _ _ _ _ _ => True) (fun _ U o U' => ∃ v L, o = .returned v ∧ Q16_1 Z o0 an kan fan av kav fav ae kae fae tx ktx ftx us ut c0 zc zf h0 n0 v U'.heap L ∧ FrameEnd U o U' L ({ frames := 4, cells := 2, slots := 5, locals := 70 } : Room).cells ({ frames := 4, cells := 2, slots := 5, locals := 70 } : Room).slots) := by
  refine MetFree.of_bodySF (plainFor_of_name pn_16) hisR ?_
  intro p e s m args below meth c s₁ Bd hml0 hP hK
  obtain ⟨rfl, hZ, hh⟩ := hP
  have hx := Bd.exec
  have hby := Bd.bytes
  have hml : c.maxLocals = 3 := hml0
  have hown : s.vm.findClass cA = some m.cls := findClass_of_methodNamed Bd.named
  have hnm := (name_of_methodNamed Bd.named Bd.method).1
  have hrt := Bd.returns
  have hlk := Bd.notSynchronized
  have X0 : Stand p l e ({ frames := 4, cells := 2, slots := 5, locals := 70 } : Room) s m #[(.ref o0), (.int z0)] below meth c s₁ [] 0 0 := Stand.of_body Bd
  have e0 : s₁.heap = h0 := by rw [← hh, Bd.state]; rfl
  have N0 := Fr.nil n0
  have lt_E_o0 : LT.lt (α := Nat) o0 h0.size := E_o0.lt
  have lt_B_an : LT.lt (α := Nat) an h0.size := B_an.lt
  have lt_B_av : LT.lt (α := Nat) av h0.size := B_av.lt
  have lt_B_ae : LT.lt (α := Nat) ae h0.size := B_ae.lt
  have lt_B_tx : LT.lt (α := Nat) tx h0.size := B_tx.lt
  show Go p e below s 2 5 (Q16_1 Z o0 an kan fan av kav fav ae kae fae tx ktx ftx us ut c0 zc zf h0 n0) (s₁.setTop (entryFrame m #[(.ref o0), (.int z0)] 3))
  rw [ef_16_1 m o0]
  refine Go.pre (st' := s₁.setTop (mkF m 1 #[sR o0, sI z0, sU] [(.ref o0)])) (fun target kt => ?_) ?_
  · refine XS.aloadN X0.here hx rfl (hb hby d16_0) rfl rfl ?_
    exact kt
  obtain ⟨T1, X1, e1, st1⟩ := getF X0 hx hZ hown (host := "") (Or.inl (ow hw 38 rfl)) Via.refl e0 Fav (g := (mkF m 1 #[sR o0, sI z0, sU] [(.ref o0)])) rfl rfl (hb hby d16_1)
  refine Go.pre st1 ?_
  refine Go.pre (st' := T1.setTop (mkF m 6 #[sR o0, sI z0, sU] [(.int z0), (.ref o0), (.ref av)])) (fun target kt => ?_) ?_
  · refine XS.aloadN X1.here hx rfl (hb hby d16_4) rfl rfl ?_
    refine XS.iloadN X1.here hx rfl (hb hby d16_5) rfl ?_
    exact kt
  obtain ⟨cq2, q2, q2'⟩ := E_o0.cell
  obtain ⟨_, _, ⟨T2, L2, k2, n2⟩, -, X2, ⟨Lc2, hQ2, l2, y2, z2⟩, st2⟩ := X1.privateBack hx (y := (⟨cA, "checked", "(I)I"⟩ : MethodName)) hown (mvT hZ (ow hw 109 rfl)) (mvT hZ (ow hw 110 rfl)) (mvT hZ (selects_private (y := (⟨cA, "checked", "(I)I"⟩ : MethodName)) (ow hw 28 rfl) (ow hw 111 rfl) (ow hw 110 rfl))) (Cond.privateMethod_at (mvP hZ (ow hw 111 rfl) (args := #[]))) (mvT hZ (ow hw 112 rfl)) (by decide) (backOf (W := 1) (rm17 l Z a0 hw [] o0 h0 n0 (by omega) F_se) hZ (ow hw 112 rfl) (ow hw 29 rfl) (by decide) (by decide)) (g := (mkF m 6 #[sR o0, sI z0, sU] [(.int z0), (.ref o0), (.ref av)])) rfl (by rw [hml]; rfl) (Steps.refl _) (a := o0) (by rw [e1]; exact q2) q2' (argsL := [(.int z0)]) (rest := [(.ref av)]) (lenOf pd16_1_0 rfl) rfl (le0 rfl) (hb hby d16_6) (fun vm₁ hvm => ⟨rfl, e1, (by decide : 0 + 0 ≤ _), (by decide : 0 + 0 ≤ _)⟩)
  dsimp only [Pt.U, Pt.locs, Pt.cells, Pt.slots] at X2 l2 y2 z2 st2 hQ2
  subst l2 y2 z2
  obtain ⟨rfl, N2q, e2⟩ := hQ2
  have N2 := Fr.app N0 N2q
  refine Go.trans st2 ?_
  obtain ⟨cl3, Ar3, q3, Sz3, Nn3, Hs3⟩ := id B_av
  have in3 : ¬ (z0 < 0 ∨ cl3.slots.size ≤ (z0).toNatClampNeg) := by rw [Sz3]; exact (by decide)
  have at3 : cl3.slots[(z0).toNatClampNeg]? = some .null := (Hs3 _ in3).1.trans (congrArg some hrv)
  refine Go.pre (X2.aaload hx (j := z0) (v := .null) (by rw [e2]; exact Ar3.1) (State.isArrayOf_alike hZ.alike Ar3.2.1) rfl Ar3.2.2 in3 at3 (g := (mkF m 9 #[sR o0, sI z0, sU] [(.int z0), (.ref av)])) rfl rfl (hb hby d16_9)) ?_
  refine Go.pre (st' := T2.setTop (mkF m 31 #[sR o0, sI z0, sI z0] [(.ref o0)])) (fun target kt => ?_) ?_
  · refine XS.ifnonnullNo X2.here hx rfl (hb hby d16_10) rfl ?_
    refine XS.iloadN X2.here hx rfl (hb hby d16_13) rfl ?_
    refine XS.ifNo X2.here hx rfl (hb hby d16_14) rfl ((if0 _ _).trans (teq (by decide)).2) ?_
    refine XS.iconst X2.here hx rfl (hb hby d16_17) ?_
    refine XS.goto X2.here hx rfl (pc0 := 18) (pc' := 29) rfl (hb hby d16_18) (by decide) (by decide) ?_
    refine XS.istoreN X2.here hx rfl (hb hby d16_29) rfl (l' := #[.val (.ref o0), .val (.int z0), .val (.int z0)]) rfl ?_
    refine XS.aloadN X2.here hx rfl (hb hby d16_30) rfl rfl ?_
    exact kt
  obtain ⟨T4, X4, e4, st4⟩ := getF X2 hx hZ hown (host := "") (Or.inl (ow hw 38 rfl)) Via.refl e2 Fav (g := (mkF m 31 #[sR o0, sI z0, sI z0] [(.ref o0)])) rfl rfl (hb hby d16_31)
  refine Go.pre st4 ?_
  refine Go.pre (st' := T4.setTop (mkF m 35 #[sR o0, sI z0, sI z0] [(.int z0), (.ref av)])) (fun target kt => ?_) ?_
  · refine XS.iloadN X4.here hx rfl (hb hby d16_34) rfl ?_
    exact kt
  obtain ⟨T5, h5, X5, e5, E5, A5, D5, -, st5⟩ := newO X4 hx hZ hown (ow hw 34 rfl) (ow hw 10 rfl) (ow hw 2 rfl) e4 (g := (mkF m 35 #[sR o0, sI z0, sI z0] [(.int z0), (.ref av)])) rfl (hb hby d16_35) (by decide) (by decide)
  obtain ⟨b5, g5⟩ : ∃ z, z = h0.size := ⟨_, rfl⟩
  rw [← g5] at A5 D5 st5
  have sz5 : h0.size ≤ h5.size := E5.1
  have lt5 : b5 < h5.size := A5.lt
  have F5_value : Fld Z h5 b5 cB "value" "[B" .null := D5 (Or.inr (ow hw 23 rfl)) (ty := (.array .byte)) (by decide)
  have F5_coder : Fld Z h5 b5 cB "coder" "B" (.int z0) := D5 (Or.inr (ow hw 25 rfl)) (ty := .byte) (by decide)
  have F5_hash : Fld Z h5 b5 cB "hash" "I" (.int z0) := D5 (Or.inl (ow hw 142 rfl)) (ty := .int) (by decide)
  have F5_hashIsZero : Fld Z h5 b5 cB "hashIsZero" "Z" (.int z0) := D5 (Or.inl (ow hw 144 rfl)) (ty := .boolean) (by decide)
  refine Go.pre st5 ?_
  refine Go.pre (st' := T5.setTop (mkF m 40 #[sR o0, sI z0, sI z0] [(.ref o0), (.ref b5), (.ref b5), (.int z0), (.ref av)])) (fun target kt => ?_) ?_
  · refine XS.dup X5.here hx rfl (hb hby d16_38) rfl rfl ?_
    refine XS.aloadN X5.here hx rfl (hb hby d16_39) rfl rfl ?_
    exact kt
  have Y6 := (Ftx.ext E5)
  obtain ⟨T7, X7, e7, st7⟩ := getF X5 hx hZ hown (host := "") (Or.inl (ow hw 43 rfl)) Via.refl e5 Y6 (g := (mkF m 40 #[sR o0, sI z0, sI z0] [(.ref o0), (.ref b5), (.ref b5), (.int z0), (.ref av)])) rfl rfl (hb hby d16_40)
  refine Go.pre st7 ?_
  refine Go.pre (st' := T7.setTop (mkF m 45 #[sR o0, sI z0, sI z0] [(.ref o0), (.int z0), (.ref tx), (.ref b5), (.ref b5), (.int z0), (.ref av)])) (fun target kt => ?_) ?_
  · refine XS.iloadN X7.here hx rfl (hb hby d16_43) rfl ?_
    refine XS.aloadN X7.here hx rfl (hb hby d16_44) rfl rfl ?_
    exact kt
  have Y8 := (Fae.ext E5)
  obtain ⟨T9, X9, e9, st9⟩ := getF X7 hx hZ hown (host := "") (Or.inl (ow hw 41 rfl)) Via.refl e7 Y8 (g := (mkF m 45 #[sR o0, sI z0, sI z0] [(.ref o0), (.int z0), (.ref tx), (.ref b5), (.ref b5), (.int z0), (.ref av)])) rfl rfl (hb hby d16_45)
  refine Go.pre st9 ?_
  refine Go.pre (st' := T9.setTop (mkF m 49 #[sR o0, sI z0, sI z0] [(.int z0), (.ref ae), (.int z0), (.ref tx), (.ref b5), (.ref b5), (.int z0), (.ref av)])) (fun target kt => ?_) ?_
  · refine XS.iloadN X9.here hx rfl (hb hby d16_48) rfl ?_
    exact kt
  have Y10 := (B_ae.ext E5)
  obtain ⟨cl11, Ar11, q11, Sz11, Nn11, Hs11⟩ := id Y10
  have in11 : ¬ (z0 < 0 ∨ cl11.slots.size ≤ (z0).toNatClampNeg) := by rw [Sz11]; exact (by decide)
  have at11 : cl11.slots[(z0).toNatClampNeg]? = some (.int z1) := (Hs11 _ in11).1.trans (congrArg some hre)
  refine Go.pre (X9.iaload hx (j := z0) (v := (.int z1)) (by rw [e9]; exact Ar11.1) (State.isArrayOf_alike hZ.alike Ar11.2.1) Ar11.2.2 in11 at11 (g := (mkF m 49 #[sR o0, sI z0, sI z0] [(.int z0), (.ref ae), (.int z0), (.ref tx), (.ref b5), (.ref b5), (.int z0), (.ref av)])) rfl rfl (hb hby d16_49)) ?_
  refine Go.pre (st' := T9.setTop (mkF m 52 #[sR o0, sI z0, sI z0] [(.int z1), (.int z0), (.ref tx), (.ref b5), (.ref b5), (.int z0), (.ref av)])) (fun target kt => ?_) ?_
  · refine XS.iloadN X9.here hx rfl (hb hby d16_50) rfl ?_
    refine XS.isub X9.here hx rfl (hb hby d16_51) rfl ?_
    exact kt
  have Y13 := (B_tx.ext E5)
  have Y14 := (Ol.ext E5)
  obtain ⟨_, _, ⟨T12, L12, k12, n12⟩, -, X12, ⟨Lc12, hQ12, l12, y12, z12⟩, st12⟩ := X9.specialBack hx (y := (⟨cB, "<init>", "([CII)V"⟩ : MethodName)) rfl hown (mvT hZ (ow hw 113 rfl)) (mvT hZ (ow hw 114 rfl)) (mvT hZ (ow hw 115 rfl)) (by decide) (backOf (W := 3) (rm18_1 l Z a0 hw [] b5 tx ktx ftx c0 zc zf (.int z0) .null h5 n0 (by omega) Y13 hr0 S_COMPACT hcs S_F hv_zf Y14 F5_coder A5 (by omega) F5_value hle0) hZ (ow hw 115 rfl) (ow hw 2 rfl) (by decide) (by decide)) (g := (mkF m 52 #[sR o0, sI z0, sI z0] [(.int z1), (.int z0), (.ref tx), (.ref b5), (.ref b5), (.int z0), (.ref av)])) rfl (by rw [hml]; rfl) (Steps.refl _) (a := b5) (argsL := [(.ref tx), (.int z0), (.int z1)]) (rest := [(.ref b5), (.int z0), (.ref av)]) (lenOf pd16_1_1 rfl) rfl (le0 rfl) (hb hby d16_52) (fun vm₁ hvm => ⟨rfl, e9, (by decide : 1 + 1 ≤ _), (by decide : 4 + 1 ≤ _)⟩)
  dsimp only [Pt.U, Pt.locs, Pt.cells, Pt.slots] at X12 l12 y12 z12 st12 hQ12
  subst l12 y12 z12
  obtain ⟨b12_0, k12_0, rfl, N12q, K12, KF12, gb12_0, ltb12_0, Y12_0, Y12_1, Y12_2⟩ := hQ12
  have sz12 : h5.size ≤ T12.heap.size := K12.1
  have N12 := Fr.app N2 N12q
  refine Go.trans st12 ?_
  have Y15 := ((B_av.ext E5).keep K12 (ninS (neN (by omega)) nin0))
  obtain ⟨cl16, Ar16, q16, Sz16, Nn16, Hs16⟩ := id Y15
  have in16 : ¬ (z0 < 0 ∨ cl16.slots.size ≤ (z0).toNatClampNeg) := by rw [Sz16]; exact (by decide)
  have Y17 := (A5.keep K12)
  obtain ⟨T16, h16, X16, e16, W16, st16⟩ := stR X12 hx hZ rfl Ar16 (j := z0) in16 rfl (Sto.ofV Ar16 q16 O_av (Ins.self Y17)) (g := (mkF m 55 #[sR o0, sI z0, sI z0] [(.ref b5), (.int z0), (.ref av)])) rfl rfl (hb hby d16_55)
  have sz16 : T12.heap.size ≤ h16.size := (Keep.of_wr W16).1
  have V16 : Arf Z h16 av kav (.object cB) z16 (own_upd fav z0 (.ref b5)) := Arf.set Ar16 q16 Sz16 Nn16 Hs16 rfl in16 W16
  have N16 := Fr.snoc X16 N12 (by omega)
  refine Go.pre st16 ?_
  refine Go.pre (st' := T16.setTop (mkF m 57 #[sR o0, sI z0, sI z0] [(.ref o0)])) (fun target kt => ?_) ?_
  · refine XS.aloadN X16.here hx rfl (hb hby d16_56) rfl rfl ?_
    exact kt
  have Y18 := (((Fav.ext E5).keep K12 (ninS (neN (by omega)) nin0)).other W16 (Or.inl n_o0_av))
  obtain ⟨T19, X19, e19, st19⟩ := getF X16 hx hZ hown (host := "") (Or.inl (ow hw 38 rfl)) Via.refl e16 Y18 (g := (mkF m 57 #[sR o0, sI z0, sI z0] [(.ref o0)])) rfl rfl (hb hby d16_57)
  refine Go.pre st19 ?_
  refine Go.pre (st' := T19.setTop (mkF m 61 #[sR o0, sI z0, sI z0] [(.int z0), (.ref av)])) (fun target kt => ?_) ?_
  · refine XS.iloadN X19.here hx rfl (hb hby d16_60) rfl ?_
    exact kt
  obtain ⟨cl20, Ar20, q20, Sz20, Nn20, Hs20⟩ := id V16
  have in20 : ¬ (z0 < 0 ∨ cl20.slots.size ≤ (z0).toNatClampNeg) := by rw [Sz20]; exact (by decide)
  have at20 : cl20.slots[(z0).toNatClampNeg]? = some (.ref b5) := (Hs20 _ in20).1.trans (congrArg some (own_hit _ _ _))
  refine Go.pre (X19.aaload hx (j := z0) (v := (.ref b5)) (by rw [e19]; exact Ar20.1) (State.isArrayOf_alike hZ.alike Ar20.2.1) rfl Ar20.2.2 in20 at20 (g := (mkF m 61 #[sR o0, sI z0, sI z0] [(.int z0), (.ref av)])) rfl rfl (hb hby d16_61)) ?_
  have Y21 := (Y17.wr W16)
  have Y22 := ((KF12 _ _ _ _ _ F5_hash (pallS (Or.inr (slot_ne (Or.inl (ow hw 142 rfl)) (Or.inr (ow hw 25 rfl)) (by decide) (t := .int) (t' := .byte) (by decide) (by decide))) (pallS (Or.inr (slot_ne (Or.inl (ow hw 142 rfl)) (Or.inr (ow hw 23 rfl)) (by decide) (t := .int) (t' := (.array .byte)) (by decide) (by decide))) pall0))).other W16 (Or.inl (neN (by omega))))
  have Y23 := ((KF12 _ _ _ _ _ F5_hashIsZero (pallS (Or.inr (slot_ne (Or.inl (ow hw 144 rfl)) (Or.inr (ow hw 25 rfl)) (by decide) (t := .boolean) (t' := .byte) (by decide) (by decide))) (pallS (Or.inr (slot_ne (Or.inl (ow hw 144 rfl)) (Or.inr (ow hw 23 rfl)) (by decide) (t := .boolean) (t' := (.array .byte)) (by decide) (by decide))) pall0))).other W16 (Or.inl (neN (by omega))))
  have Y24 := (Y12_0.other W16 (Or.inl (neN (by omega))))
  have Y25 := (Y12_1.other W16 (Or.inl (neN (by omega))))
  have Y26 := (Y12_2.other W16 (neN (by omega)))
  exact Go.retV X19 hx hlk hrt rfl (Or.inr (Or.inr (Or.inr (Or.inr ⟨rfl, rfl, rfl⟩)))) (hb hby d16_62) (by decide) (by decide) (by rw [e19]; exact ⟨b5, b12_0, k12_0, rfl, N16, ((((Keep.refl h0 [av]).ext E5).trans K12 (allS (Or.inr (by omega)) all0)).wr W16 (Or.inl (List.mem_of_getElem? (i := 0) rfl))), ((((KF.refl Z h0 [(av, (z0).toNatClampNeg)]).ext E5).trans KF12 (pallS (Or.inr (by show _ ≤ b5; omega)) (pallS (Or.inr (by show _ ≤ b5; omega)) pall0))).wr W16 (Or.inl (List.mem_of_getElem? (i := 0) rfl))), by omega, by omega, by omega, by omega, by omega, V16, Y21, Y22, Y23, Y24, Y25, Y26⟩)
/-! Attributes.add (13_2) -/
theorem pd13_2_0 : parseMethodDescriptor "(Ljava/lang/String;Ljava/lang/String;)V" = some ⟨[(.object "java/lang/String"), (.object "java/lang/String")], none⟩ := by decide +kernel
theorem ef_13_2 (m : MethodId) (o0 : Addr) (o1 : Addr) (o2 : Addr) : entryFrame m #[(.ref o0), (.ref o1), (.ref o2), (.int (0 : Int32)), (.int (2 : Int32))] 5 = (mkF m 0 #[.val (.ref o0), .val (.ref o1), .val (.ref o2), .val (.int (0 : Int32)), .val (.int (2 : Int32))] []) := by first | (simp [entryFrame, mkF, argsToLocals, Value.category]; done) | rfl
def Q13_2 (Z : State) (o0 : Addr) (o1 : Addr) (o2 : Addr) (an : Addr) (kan : ClassId) (fan : Int32 → Value) (av : Addr) (kav : ClassId) (fav : Int32 → Value) (ae : Addr) (kae : ClassId) (fae : Int32 → Value) (tx : Addr) (ktx : ClassId) (ftx : Int32 → Value) (us : Value) (kg : ClassId) (c0 : Int32) (c1 : Int32) (h0 : Heap) (n0 : Nat) (v : Option Value) (h : Heap) (L : List Loc) : Prop := v = none ∧ Fr n0 L ∧ Keep h0 h [tx, o0, an, av, ae] ∧ True ∧ Arf Z h tx ktx .char z1024 (own_cp (own_lf [(.int c0), (.int c1)] (.int z0)) ftx z2) ∧ Fld Z h o0 cA "size" "I" (.int z1) ∧ Fld Z h o0 cA "specified" "I" (.int z1) ∧ Fld Z h o0 cA "textLength" "I" (.int z2) ∧ Fld Z h o0 cA "index" "Ljava/util/Map;" .null ∧ Fld Z h o0 cA "names" cD (.ref an) ∧ Fld Z h o0 cA "values" cD (.ref av) ∧ Fld Z h o0 cA "ends" "[I" (.ref ae) ∧ Fld Z h o0 cA "text" "[C" (.ref tx) ∧ Arf Z h an kan (.object cB) z16 (own_upd fan z0 (.ref o1)) ∧ Arf Z h av kav (.object cB) z16 (own_upd fav z0 .null) ∧ Arf Z h ae kae .int z16 (own_upd fae z0 (.int z2))
theorem rm13_2 (l : Launch) (Z : State) (a0 : Array Value) (hw : ∀ d ∈ tables_1, d.before a0 Z = true) (ws : List Jvm.Cond) (o0 : Addr) (o1 : Addr) (o2 : Addr) (an : Addr) (kan : ClassId) (fan : Int32 → Value) (av : Addr) (kav : ClassId) (fav : Int32 → Value) (ae : Addr) (kae : ClassId) (fae : Int32 → Value) (tx : Addr) (ktx : ClassId) (ftx : Int32 → Value) (us : Value) (kg : ClassId) (c0 : Int32) (c1 : Int32) (h0 : Heap) (n0 : Nat) (Z0 : n0 ≤ h0.size) (E_o0 : Exa Z h0 o0 cA) (F_se : Fld Z h0 o0 cA "size" "I" (.int z0)) (F_sd : Fld Z h0 o0 cA "specified" "I" us) (F_th : Fld Z h0 o0 cA "textLength" "I" (.int z0)) (F_ix : Fld Z h0 o0 cA "index" "Ljava/util/Map;" .null) (Fan : Fld Z h0 o0 cA "names" cD (.ref an)) (B_an : Arf Z h0 an kan (.object cB) z16 fan) (Fav : Fld Z h0 o0 cA "values" cD (.ref av)) (B_av : Arf Z h0 av kav (.object cB) z16 fav) (Fae : Fld Z h0 o0 cA "ends" "[I" (.ref ae)) (B_ae : Arf Z h0 ae kae .int z16 fae) (Ftx : Fld Z h0 o0 cA "text" "[C" (.ref tx)) (B_tx : Arf Z h0 tx ktx .char z1024 ftx) (O_an : Ovr Z kan cB) (O_av : Ovr Z kav cB) (n_o0_an : o0 ≠ an) (n_o0_av : o0 ≠ av) (n_o0_ae : o0 ≠ ae) (n_o0_tx : o0 ≠ tx) (n_an_av : an ≠ av) (n_an_ae : an ≠ ae) (n_av_ae : av ≠ ae) (n_an_tx : an ≠ tx) (n_av_tx : av ≠ tx) (n_ae_tx : ae ≠ tx) (A_o2 : Arv Z h0 o2 kg .char z2 [(.int c0), (.int c1)] (.int z0)) (E_o1 : Exa Z h0 o1 cB) (n_o2_an : o2 ≠ an) (n_o2_av : o2 ≠ av) (n_o2_ae : o2 ≠ ae) (n_o2_tx : o2 ≠ tx) (n_o0_o2 : o0 ≠ o2) (g_tx : n0 ≤ tx) (g_o0 : n0 ≤ o0) (g_an : n0 ≤ an) (g_av : n0 ≤ av) (g_ae : n0 ≤ ae) :
    MetFree l (⟨cA, "add", "(Ljava/lang/String;[CII)V"⟩ : MethodName) (head1 (Jvm.Cond.code (⟨cA, "add", "(Ljava/lang/String;[CII)V"⟩ : MethodName) prog_64_method_9_code 5 none :: ws) ({ frames := 1, cells := 0, slots := 0, locals := 60 } : Room)) (fun a U => a = #[(.ref o0), (.ref o1), (.ref o2), (.int z0), (.int z2)] ∧ Z.Warmed39 U.vm ∧ U.heap = h0) (fun _ _ _ _ _ => True) (fun _ U o U' => ∃ v L, o = .returned v ∧ Q13_2 Z o0 o1 o2 an kan fan av kav fav ae kae fae tx ktx ftx us kg c0 c1 h0 n0 v U'.heap L ∧ FrameEnd U o U' L ({ frames := 1, cells := 0, slots := 0, locals := 60 } : Room).cells ({ frames := 1, cells := 0, slots := 0, locals := 60 } : Room).slots) := by
  refine MetFree.of_bodySF (plainFor_of_name pn_13) hisR ?_
  intro p e s m args below meth c s₁ Bd hml0 hP hK
  obtain ⟨rfl, hZ, hh⟩ := hP
  have hx := Bd.exec
  have hby := Bd.bytes
  have hml : c.maxLocals = 5 := hml0
  have hown : s.vm.findClass cA = some m.cls := findClass_of_methodNamed Bd.named
  have hnm := (name_of_methodNamed Bd.named Bd.method).1
  have hrt := Bd.returns
  have hlk := Bd.notSynchronized
  have X0 : Stand p l e ({ frames := 1, cells := 0, slots := 0, locals := 60 } : Room) s m #[(.ref o0), (.ref o1), (.ref o2), (.int z0), (.int z2)] below meth c s₁ [] 0 0 := Stand.of_body Bd
  have e0 : s₁.heap = h0 := by rw [← hh, Bd.state]; rfl
  have N0 := Fr.nil n0
  have lt_E_o0 : LT.lt (α := Nat) o0 h0.size := E_o0.lt
  have lt_B_an : LT.lt (α := Nat) an h0.size := B_an.lt
  have lt_B_av : LT.lt (α := Nat) av h0.size := B_av.lt
  have lt_B_ae : LT.lt (α := Nat) ae h0.size := B_ae.lt
  have lt_B_tx : LT.lt (α := Nat) tx h0.size := B_tx.lt
  have lt_A_o2 : LT.lt (α := Nat) o2 h0.size := A_o2.lt
  have lt_E_o1 : LT.lt (α := Nat) o1 h0.size := E_o1.lt
  show Go p e below s 0 0 (Q13_2 Z o0 o1 o2 an kan fan av kav fav ae kae fae tx ktx ftx us kg c0 c1 h0 n0) (s₁.setTop (entryFrame m #[(.ref o0), (.ref o1), (.ref o2), (.int z0), (.int z2)] 5))
  rw [ef_13_2 m o0 o1 o2]
  refine Go.pre (st' := s₁.setTop (mkF m 1 #[sR o0, sR o1, sR o2, sI z0, sI z2] [(.ref o0)])) (fun target kt => ?_) ?_
  · refine XS.aloadN X0.here hx rfl (hb hby d13_0) rfl rfl ?_
    exact kt
  obtain ⟨T1, X1, e1, st1⟩ := getF X0 hx hZ hown (host := "") (Or.inl (ow hw 59 rfl)) Via.refl e0 F_th (g := (mkF m 1 #[sR o0, sR o1, sR o2, sI z0, sI z2] [(.ref o0)])) rfl rfl (hb hby d13_1)
  refine Go.pre st1 ?_
  refine Go.pre (st' := T1.setTop (mkF m 8 #[sR o0, sR o1, sR o2, sI z0, sI z2] [(.ref o0), (.int z2)])) (fun target kt => ?_) ?_
  · refine XS.iload X1.here hx rfl (hb hby d13_4) rfl ?_
    refine XS.iadd X1.here hx rfl (hb hby d13_6) rfl ?_
    refine XS.aloadN X1.here hx rfl (hb hby d13_7) rfl rfl ?_
    exact kt
  obtain ⟨T2, X2, e2, st2⟩ := getF X1 hx hZ hown (host := "") (Or.inl (ow hw 43 rfl)) Via.refl e1 Ftx (g := (mkF m 8 #[sR o0, sR o1, sR o2, sI z0, sI z2] [(.ref o0), (.int z2)])) rfl rfl (hb hby d13_8)
  refine Go.pre st2 ?_
  obtain ⟨cl3, Ar3, -, Sz3, Nn3, -⟩ := id B_tx
  have st3 := X2.arraylength hx (by rw [e2]; exact Ar3.1) (State.isArrayOf_alike hZ.alike Ar3.2.1) (g := (mkF m 11 #[sR o0, sR o1, sR o2, sI z0, sI z2] [(.ref tx), (.int z2)])) rfl rfl (hb hby d13_11)
  rw [len_of Sz3 Nn3] at st3
  refine Go.pre st3 ?_
  refine Go.pre (st' := T2.setTop (mkF m 46 #[sR o0, sR o1, sR o2, sI z0, sI z2] [(.ref o0), (.int z0), (.ref o2)])) (fun target kt => ?_) ?_
  · refine XS.icmpYes X2.here hx rfl (pc0 := 12) (pc' := 43) rfl (hb hby d13_12) rfl (flt (by decide)).2.2.2 (by decide) (by decide) ?_
    refine XS.aloadN X2.here hx rfl (hb hby d13_43) rfl rfl ?_
    refine XS.iloadN X2.here hx rfl (hb hby d13_44) rfl ?_
    refine XS.aloadN X2.here hx rfl (hb hby d13_45) rfl rfl ?_
    exact kt
  obtain ⟨T4, X4, e4, st4⟩ := getF X2 hx hZ hown (host := "") (Or.inl (ow hw 43 rfl)) Via.refl e2 Ftx (g := (mkF m 46 #[sR o0, sR o1, sR o2, sI z0, sI z2] [(.ref o0), (.int z0), (.ref o2)])) rfl rfl (hb hby d13_46)
  refine Go.pre st4 ?_
  refine Go.pre (st' := T4.setTop (mkF m 50 #[sR o0, sR o1, sR o2, sI z0, sI z2] [(.ref o0), (.ref tx), (.int z0), (.ref o2)])) (fun target kt => ?_) ?_
  · refine XS.aloadN X4.here hx rfl (hb hby d13_49) rfl rfl ?_
    exact kt
  obtain ⟨T5, X5, e5, st5⟩ := getF X4 hx hZ hown (host := "") (Or.inl (ow hw 59 rfl)) Via.refl e4 F_th (g := (mkF m 50 #[sR o0, sR o1, sR o2, sI z0, sI z2] [(.ref o0), (.ref tx), (.int z0), (.ref o2)])) rfl rfl (hb hby d13_50)
  refine Go.pre st5 ?_
  refine Go.pre (st' := T5.setTop (mkF m 55 #[sR o0, sR o1, sR o2, sI z0, sI z2] [(.int z2), (.int z0), (.ref tx), (.int z0), (.ref o2)])) (fun target kt => ?_) ?_
  · refine XS.iload X5.here hx rfl (hb hby d13_53) rfl ?_
    exact kt
  obtain ⟨T6, h6, L6, X6, e6, N6, K6, V6, st6⟩ := cpF X5 hx hZ hown (ow hw 91 rfl) (ow hw 94 rfl) (ow hw 92 rfl) (ow hw 93 rfl) e5 (Arf.ofA A_o2) B_tx rfl (nn := z2) (by decide) (by decide) (by decide) N0 (by omega) (g := (mkF m 55 #[sR o0, sR o1, sR o2, sI z0, sI z2] [(.int z2), (.int z0), (.ref tx), (.int z0), (.ref o2)])) rfl (by rw [hml]; rfl) rfl (hb hby d13_55) (by decide) (W := 0) (le0 rfl) (by decide)
  have sz6 : h0.size ≤ h6.size := K6.1
  refine Go.pre st6 ?_
  refine Go.pre (st' := T6.setTop (mkF m 60 #[sR o0, sR o1, sR o2, sI z0, sI z2] [(.ref o0), (.ref o0)])) (fun target kt => ?_) ?_
  · refine XS.aloadN X6.here hx rfl (hb hby d13_58) rfl rfl ?_
    refine XS.dup X6.here hx rfl (hb hby d13_59) rfl rfl ?_
    exact kt
  have Y7 := (F_th.keep K6 (ninS n_o0_tx nin0))
  obtain ⟨T8, X8, e8, st8⟩ := getF X6 hx hZ hown (host := "") (Or.inl (ow hw 59 rfl)) Via.refl e6 Y7 (g := (mkF m 60 #[sR o0, sR o1, sR o2, sI z0, sI z2] [(.ref o0), (.ref o0)])) rfl rfl (hb hby d13_60)
  refine Go.pre st8 ?_
  refine Go.pre (st' := T8.setTop (mkF m 66 #[sR o0, sR o1, sR o2, sI z0, sI z2] [(.int z2), (.ref o0)])) (fun target kt => ?_) ?_
  · refine XS.iload X8.here hx rfl (hb hby d13_63) rfl ?_
    refine XS.iadd X8.here hx rfl (hb hby d13_65) rfl ?_
    exact kt
  have Y9 := (E_o0.keep K6)
  obtain ⟨T10, h10, X10, e10, W10, st10⟩ := putF X8 hx hZ hown (host := "") (Or.inl (ow hw 59 rfl)) Via.refl e8 Y7 Y9 (Or.inl (ow hw 60 rfl)) (ow hw 28 rfl) (ty := .int) (by decide) rfl rfl (g := (mkF m 66 #[sR o0, sR o1, sR o2, sI z0, sI z2] [(.int z2), (.ref o0)])) rfl rfl (hb hby d13_66)
  have sz10 : h6.size ≤ h10.size := (Keep.of_wr W10).1
  have Y11 : Fld Z h10 o0 cA "textLength" "I" (.int z2) := Y7.same W10
  have N10 := Fr.snoc X10 N6 (by omega)
  refine Go.pre st10 ?_
  refine Go.pre (st' := T10.setTop (mkF m 72 #[sR o0, sR o1, sR o2, sI z0, sI z2] [.null, (.ref o1), (.ref o0)])) (fun target kt => ?_) ?_
  · refine XS.aloadN X10.here hx rfl (hb hby d13_69) rfl rfl ?_
    refine XS.aloadN X10.here hx rfl (hb hby d13_70) rfl rfl ?_
    refine XS.aconstNull X10.here hx rfl (hb hby d13_71) ?_
    exact kt
  have Y13 := (Y9.wr W10)
  have Y14 := ((F_se.keep K6 (ninS n_o0_tx nin0)).other W10 (Or.inr (slot_ne (Or.inl (ow hw 58 rfl)) (Or.inl (ow hw 60 rfl)) (by decide) (t := .int) (t' := .int) (by decide) (by decide))))
  have Y15 := ((F_sd.keep K6 (ninS n_o0_tx nin0)).other W10 (Or.inr (slot_ne (Or.inl (ow hw 64 rfl)) (Or.inl (ow hw 60 rfl)) (by decide) (t := .int) (t' := .int) (by decide) (by decide))))
  have Y16 := ((F_ix.keep K6 (ninS n_o0_tx nin0)).other W10 (Or.inr (slot_ne (Or.inl (ow hw 62 rfl)) (Or.inl (ow hw 60 rfl)) (by decide) (t := (.object "java/util/Map")) (t' := .int) (by decide) (by decide))))
  have Y17 := ((Fan.keep K6 (ninS n_o0_tx nin0)).other W10 (Or.inr (slot_ne (Or.inl (ow hw 37 rfl)) (Or.inl (ow hw 60 rfl)) (by decide) (t := (.array (.object cB))) (t' := .int) (by decide) (by decide))))
  have Y18 := ((B_an.keep K6 (ninS n_an_tx nin0)).other W10 (Ne.symm n_o0_an))
  have Y19 := ((Fav.keep K6 (ninS n_o0_tx nin0)).other W10 (Or.inr (slot_ne (Or.inl (ow hw 39 rfl)) (Or.inl (ow hw 60 rfl)) (by decide) (t := (.array (.object cB))) (t' := .int) (by decide) (by decide))))
  have Y20 := ((B_av.keep K6 (ninS n_av_tx nin0)).other W10 (Ne.symm n_o0_av))
  have Y21 := ((Fae.keep K6 (ninS n_o0_tx nin0)).other W10 (Or.inr (slot_ne (Or.inl (ow hw 42 rfl)) (Or.inl (ow hw 60 rfl)) (by decide) (t := (.array .int)) (t' := .int) (by decide) (by decide))))
  have Y22 := ((B_ae.keep K6 (ninS n_ae_tx nin0)).other W10 (Ne.symm n_o0_ae))
  have Y23 := ((Ftx.keep K6 (ninS n_o0_tx nin0)).other W10 (Or.inr (slot_ne (Or.inl (ow hw 44 rfl)) (Or.inl (ow hw 60 rfl)) (by decide) (t := (.array .char)) (t' := .int) (by decide) (by decide))))
  have Y24 := ((E_o1.keep K6).wr W10)
  obtain ⟨cq12, q12, q12'⟩ := Y13.cell
  obtain ⟨_, _, ⟨T12, L12, k12, n12⟩, -, X12, ⟨Lc12, hQ12, l12, y12, z12⟩, st12⟩ := X10.privateBack hx (y := (⟨cA, "append", cC⟩ : MethodName)) hown (mvT hZ (ow hw 53 rfl)) (mvT hZ (ow hw 54 rfl)) (mvT hZ (selects_private (y := (⟨cA, "append", cC⟩ : MethodName)) (ow hw 28 rfl) (ow hw 55 rfl) (ow hw 54 rfl))) (Cond.privateMethod_at (mvP hZ (ow hw 55 rfl) (args := #[]))) (mvT hZ (ow hw 56 rfl)) (by decide) (backOf (W := 0) (rm8_0N_0 l Z a0 hw [] o0 o1 an kan fan av kav fav ae kae fae tx us z2 h10 n0 (by omega) Y13 Y14 Y15 Y11 Y16 Y17 Y18 Y19 Y20 Y21 Y22 Y23 O_an O_av n_o0_an n_o0_av n_o0_ae n_an_av n_an_ae n_av_ae Y24 (by omega) (by omega) (by omega) (by omega)) hZ (ow hw 56 rfl) (ow hw 29 rfl) (by decide) (by decide)) (g := (mkF m 72 #[sR o0, sR o1, sR o2, sI z0, sI z2] [.null, (.ref o1), (.ref o0)])) rfl (by rw [hml]; rfl) (Steps.refl _) (a := o0) (by rw [e10]; exact q12) q12' (argsL := [(.ref o1), .null]) (rest := []) (lenOf pd13_2_0 rfl) rfl (le0 rfl) (hb hby d13_72) (fun vm₁ hvm => ⟨rfl, e10, (by decide : 0 + 0 ≤ _), (by decide : 0 + 0 ≤ _)⟩)
  dsimp only [Pt.U, Pt.locs, Pt.cells, Pt.slots] at X12 l12 y12 z12 st12 hQ12
  subst l12 y12 z12
  obtain ⟨rfl, N12q, K12, KF12, Y12_0, Y12_1, Y12_2, Y12_3, Y12_4, Y12_5, Y12_6, Y12_7, Y12_8, Y12_9, Y12_10⟩ := hQ12
  have sz12 : h10.size ≤ T12.heap.size := K12.1
  have N12 := Fr.app N10 N12q
  refine Go.trans st12 ?_
  refine Go.pre (st' := T12.setTop (mkF m 77 #[sR o0, sR o1, sR o2, sI z0, sI z2] [(.ref o0), (.ref o0)])) (fun target kt => ?_) ?_
  · refine XS.aloadN X12.here hx rfl (hb hby d13_75) rfl rfl ?_
    refine XS.aloadN X12.here hx rfl (hb hby d13_76) rfl rfl ?_
    exact kt
  obtain ⟨T25, X25, e25, st25⟩ := getF X12 hx hZ hown (host := "") (Or.inl (ow hw 57 rfl)) Via.refl rfl Y12_3 (g := (mkF m 77 #[sR o0, sR o1, sR o2, sI z0, sI z2] [(.ref o0), (.ref o0)])) rfl rfl (hb hby d13_77)
  refine Go.pre st25 ?_
  have Y26 := (Y13.keep K12)
  obtain ⟨T27, h27, X27, e27, W27, st27⟩ := putF X25 hx hZ hown (host := "") (Or.inl (ow hw 63 rfl)) Via.refl e25 Y12_4 Y26 (Or.inl (ow hw 64 rfl)) (ow hw 28 rfl) (ty := .int) (by decide) rfl rfl (g := (mkF m 80 #[sR o0, sR o1, sR o2, sI z0, sI z2] [(.int z1), (.ref o0)])) rfl rfl (hb hby d13_80)
  have sz27 : T12.heap.size ≤ h27.size := (Keep.of_wr W27).1
  have Y28 : Fld Z h27 o0 cA "specified" "I" (.int z1) := Y12_4.same W27
  have N27 := Fr.snoc X27 N12 (by omega)
  refine Go.pre st27 ?_
  have Y29 := (((V6.other W10 (Ne.symm n_o0_tx)).keep K12 (ninS (Ne.symm n_an_tx) (ninS (Ne.symm n_av_tx) (ninS (Ne.symm n_ae_tx) (ninS (Ne.symm n_o0_tx) nin0))))).other W27 (Ne.symm n_o0_tx))
  have Y30 := (Y12_3.other W27 (Or.inr (slot_ne (Or.inl (ow hw 58 rfl)) (Or.inl (ow hw 64 rfl)) (by decide) (t := .int) (t' := .int) (by decide) (by decide))))
  have Y31 := (Y12_5.other W27 (Or.inr (slot_ne (Or.inl (ow hw 60 rfl)) (Or.inl (ow hw 64 rfl)) (by decide) (t := .int) (t' := .int) (by decide) (by decide))))
  have Y32 := (Y12_6.other W27 (Or.inr (slot_ne (Or.inl (ow hw 62 rfl)) (Or.inl (ow hw 64 rfl)) (by decide) (t := (.object "java/util/Map")) (t' := .int) (by decide) (by decide))))
  have Y33 := (Y12_7.other W27 (Or.inr (slot_ne (Or.inl (ow hw 37 rfl)) (Or.inl (ow hw 64 rfl)) (by decide) (t := (.array (.object cB))) (t' := .int) (by decide) (by decide))))
  have Y34 := (Y12_8.other W27 (Or.inr (slot_ne (Or.inl (ow hw 39 rfl)) (Or.inl (ow hw 64 rfl)) (by decide) (t := (.array (.object cB))) (t' := .int) (by decide) (by decide))))
  have Y35 := (Y12_9.other W27 (Or.inr (slot_ne (Or.inl (ow hw 42 rfl)) (Or.inl (ow hw 64 rfl)) (by decide) (t := (.array .int)) (t' := .int) (by decide) (by decide))))
  have Y36 := (Y12_10.other W27 (Or.inr (slot_ne (Or.inl (ow hw 44 rfl)) (Or.inl (ow hw 64 rfl)) (by decide) (t := (.array .char)) (t' := .int) (by decide) (by decide))))
  have Y37 := (Y12_0.other W27 (Ne.symm n_o0_an))
  have Y38 := (Y12_1.other W27 (Ne.symm n_o0_av))
  have Y39 := (Y12_2.other W27 (Ne.symm n_o0_ae))
  exact Go.ret0 X27 hx hlk hrt (hb hby d13_83) (by decide) (by decide) (by rw [e27]; exact ⟨rfl, N27, (((((Keep.refl h0 [tx, o0, an, av, ae]).trans K6 (allS (Or.inl (List.mem_of_getElem? (i := 0) rfl)) all0)).wr W10 (Or.inl (List.mem_of_getElem? (i := 1) rfl))).trans K12 (allS (Or.inl (List.mem_of_getElem? (i := 2) rfl)) (allS (Or.inl (List.mem_of_getElem? (i := 3) rfl)) (allS (Or.inl (List.mem_of_getElem? (i := 4) rfl)) (allS (Or.inl (List.mem_of_getElem? (i := 1) rfl)) all0))))).wr W27 (Or.inl (List.mem_of_getElem? (i := 1) rfl))), trivial, Y29, Y30, Y28, Y31, Y32, Y33, Y34, Y35, Y36, Y37, Y38, Y39⟩)
/-! Preconditions.checkFromIndexSize (21_2) -/
theorem ef_21_2 (m : MethodId) (v3 : Value) (hv_v3 : v3.isRef = true) : entryFrame m #[(.int (0 : Int32)), (.int (2 : Int32)), (.int (1024 : Int32)), v3] 4 = (mkF m 0 #[.val (.int (0 : Int32)), .val (.int (2 : Int32)), .val (.int (1024 : Int32)), .val v3] []) := by rcases ref_cases hv_v3 with rfl | ⟨r_v3, rfl⟩ <;> first | (simp [entryFrame, mkF, argsToLocals, Value.category]; done) | rfl
def Q21_2 (Z : State) (v3 : Value) (h0 : Heap) (n0 : Nat) (v : Option Value) (h : Heap) (L : List Loc) : Prop := v = some (.int z0) ∧ Fr n0 L ∧ h = h0
theorem rm21_2 (l : Launch) (Z : State) (a0 : Array Value) (hw : ∀ d ∈ tables_1, d.before a0 Z = true) (ws : List Jvm.Cond) (v3 : Value) (h0 : Heap) (n0 : Nat) (Z0 : n0 ≤ h0.size) (hv_v3 : v3.isRef = true) :
    MetFree l (⟨cE, "checkFromIndexSize", "(IIILjava/util/function/BiFunction;)I"⟩ : MethodName) (head1 (Jvm.Cond.code (⟨cE, "checkFromIndexSize", "(IIILjava/util/function/BiFunction;)I"⟩ : MethodName) jdk_41_method_13_code 4 (some .int) :: ws) ({ frames := 0, cells := 0, slots := 0, locals := 0 } : Room)) (fun a U => a = #[(.int z0), (.int z2), (.int z1024), v3] ∧ Z.Warmed39 U.vm ∧ U.heap = h0) (fun _ _ _ _ _ => True) (fun _ U o U' => ∃ v L, o = .returned v ∧ Q21_2 Z v3 h0 n0 v U'.heap L ∧ FrameEnd U o U' L ({ frames := 0, cells := 0, slots := 0, locals := 0 } : Room).cells ({ frames := 0, cells := 0, slots := 0, locals := 0 } : Room).slots) := by
  refine MetFree.of_bodySF (plainFor_of_name pn_21) hisR ?_
  intro p e s m args below meth c s₁ Bd hml0 hP hK
  obtain ⟨rfl, hZ, hh⟩ := hP
  have hx := Bd.exec
  have hby := Bd.bytes
  have hml : c.maxLocals = 4 := hml0
  have hown : s.vm.findClass cE = some m.cls := findClass_of_methodNamed Bd.named
  have hnm := (name_of_methodNamed Bd.named Bd.method).1
  have hrt := Bd.returns
  have hlk := Bd.notSynchronized
  have X0 : Stand p l e ({ frames := 0, cells := 0, slots := 0, locals := 0 } : Room) s m #[(.int z0), (.int z2), (.int z1024), v3] below meth c s₁ [] 0 0 := Stand.of_body Bd
  have e0 : s₁.heap = h0 := by rw [← hh, Bd.state]; rfl
  have N0 := Fr.nil n0
  show Go p e below s 0 0 (Q21_2 Z v3 h0 n0) (s₁.setTop (entryFrame m #[(.int z0), (.int z2), (.int z1024), v3] 4))
  rw [ef_21_2 m v3 hv_v3]
  refine Go.pre (st' := s₁.setTop (mkF m 24 #[sI z0, sI z2, sI z1024, .val v3] [(.int z0)])) (fun target kt => ?_) ?_
  · refine XS.iloadN X0.here hx rfl (hb hby d21_0) rfl ?_
    refine XS.iloadN X0.here hx rfl (hb hby d21_1) rfl ?_
    refine XS.ior X0.here hx rfl (hb hby d21_2) rfl ?_
    refine XS.iloadN X0.here hx rfl (hb hby d21_3) rfl ?_
    refine XS.ior X0.here hx rfl (hb hby d21_4) rfl ?_
    refine XS.ifNo X0.here hx rfl (hb hby d21_5) rfl ((if0 _ _).trans (flt (by decide)).1) ?_
    refine XS.iloadN X0.here hx rfl (hb hby d21_8) rfl ?_
    refine XS.iloadN X0.here hx rfl (hb hby d21_9) rfl ?_
    refine XS.iloadN X0.here hx rfl (hb hby d21_10) rfl ?_
    refine XS.isub X0.here hx rfl (hb hby d21_11) rfl ?_
    refine XS.icmpYes X0.here hx rfl (pc0 := 12) (pc' := 23) rfl (hb hby d21_12) rfl (flt (by decide)).2.2.2 (by decide) (by decide) ?_
    refine XS.iloadN X0.here hx rfl (hb hby d21_23) rfl ?_
    exact kt
  exact Go.retV X0 hx hlk hrt rfl (Or.inl ⟨rfl, Or.inl rfl, _, rfl⟩) (hb hby d21_24) (by decide) (by decide) (by rw [e0]; exact ⟨rfl, N0, rfl⟩)
/-! String.checkBoundsOffCount (20_2) -/
theorem pd20_2_0 : parseMethodDescriptor "(IIILjava/util/function/BiFunction;)I" = some ⟨[.int, .int, .int, (.object "java/util/function/BiFunction")], some .int⟩ := by decide +kernel
theorem ef_20_2 (m : MethodId)  : entryFrame m #[(.int (0 : Int32)), (.int (2 : Int32)), (.int (1024 : Int32))] 3 = (mkF m 0 #[.val (.int (0 : Int32)), .val (.int (2 : Int32)), .val (.int (1024 : Int32))] []) := by first | (simp [entryFrame, mkF, argsToLocals, Value.category]; done) | rfl
def Q20_2 (Z : State) (zf : Value) (h0 : Heap) (n0 : Nat) (v : Option Value) (h : Heap) (L : List Loc) : Prop := v = some (.int z0) ∧ Fr n0 L ∧ h = h0
theorem rm20_2 (l : Launch) (Z : State) (a0 : Array Value) (hw : ∀ d ∈ tables_1, d.before a0 Z = true) (ws : List Jvm.Cond) (zf : Value) (h0 : Heap) (n0 : Nat) (Z0 : n0 ≤ h0.size) (S_F : Sta Z Z.heap cE "SIOOBE_FORMATTER" "Ljava/util/function/BiFunction;" zf) (hv_zf : zf.isRef = true) (Ol : Old Z n0 h0) :
    MetFree l (⟨cB, "checkBoundsOffCount", "(III)I"⟩ : MethodName) (head1 (Jvm.Cond.code (⟨cB, "checkBoundsOffCount", "(III)I"⟩ : MethodName) jdk_42_method_157_code 3 (some .int) :: ws) ({ frames := 1, cells := 0, slots := 0, locals := 15 } : Room)) (fun a U => a = #[(.int z0), (.int z2), (.int z1024)] ∧ Z.Warmed39 U.vm ∧ U.heap = h0) (fun _ _ _ _ _ => True) (fun _ U o U' => ∃ v L, o = .returned v ∧ Q20_2 Z zf h0 n0 v U'.heap L ∧ FrameEnd U o U' L ({ frames := 1, cells := 0, slots := 0, locals := 15 } : Room).cells ({ frames := 1, cells := 0, slots := 0, locals := 15 } : Room).slots) := by
  refine MetFree.of_bodySF (plainFor_of_name pn_20) hisR ?_
  intro p e s m args below meth c s₁ Bd hml0 hP hK
  obtain ⟨rfl, hZ, hh⟩ := hP
  have hx := Bd.exec
  have hby := Bd.bytes
  have hml : c.maxLocals = 3 := hml0
  have hown : s.vm.findClass cB = some m.cls := findClass_of_methodNamed Bd.named
  have hnm := (name_of_methodNamed Bd.named Bd.method).1
  have hrt := Bd.returns
  have hlk := Bd.notSynchronized
  have X0 : Stand p l e ({ frames := 1, cells := 0, slots := 0, locals := 15 } : Room) s m #[(.int z0), (.int z2), (.int z1024)] below meth c s₁ [] 0 0 := Stand.of_body Bd
  have e0 : s₁.heap = h0 := by rw [← hh, Bd.state]; rfl
  have N0 := Fr.nil n0
  show Go p e below s 0 0 (Q20_2 Z zf h0 n0) (s₁.setTop (entryFrame m #[(.int z0), (.int z2), (.int z1024)] 3))
  rw [ef_20_2 m ]
  refine Go.pre (st' := s₁.setTop (mkF m 3 #[sI z0, sI z2, sI z1024] [(.int z1024), (.int z2), (.int z0)])) (fun target kt => ?_) ?_
  · refine XS.iloadN X0.here hx rfl (hb hby d20_0) rfl ?_
    refine XS.iloadN X0.here hx rfl (hb hby d20_1) rfl ?_
    refine XS.iloadN X0.here hx rfl (hb hby d20_2) rfl ?_
    exact kt
  obtain ⟨T1, X1, e1, st1⟩ := getS2 X0 hx hZ hown (host := "") (Or.inl (ow hw 122 rfl)) Via.refl e0 (S_F.ext Ol.2) (g := (mkF m 3 #[sI z0, sI z2, sI z1024] [(.int z1024), (.int z2), (.int z0)])) rfl (hb hby d20_3)
  refine Go.pre st1 ?_
  obtain ⟨_, _, ⟨T2, L2, k2, n2⟩, -, X2, ⟨Lc2, hQ2, l2, y2, z2⟩, st2⟩ := Jvm.LawKit.callS X1 hx (y := (⟨cE, "checkFromIndexSize", "(IIILjava/util/function/BiFunction;)I"⟩ : MethodName)) hown (mvT hZ (ow hw 124 rfl)) (mvT hZ (ow hw 125 rfl)) (mvT hZ (ow hw 123 rfl)) (mvT hZ (ow hw 126 rfl)) (by decide) (backOf (W := 0) (rm21_2 l Z a0 hw [] zf h0 n0 (by omega) hv_zf) hZ (ow hw 126 rfl) (ow hw 123 rfl) (by decide) (by decide)) (g := (mkF m 6 #[sI z0, sI z2, sI z1024] [zf, (.int z1024), (.int z2), (.int z0)])) rfl (by rw [hml]; rfl) (argsL := [(.int z0), (.int z2), (.int z1024), zf]) (rest := []) (lenOf pd20_2_0 rfl) rfl (le0 rfl) (hb hby d20_6) (fun vm₁ hvm => ⟨rfl, e1, (by decide : 0 + 0 ≤ _), (by decide : 0 + 0 ≤ _)⟩)
  dsimp only [Pt.U, Pt.locs, Pt.cells, Pt.slots] at X2 l2 y2 z2 st2 hQ2
  subst l2 y2 z2
  obtain ⟨rfl, N2q, e2⟩ := hQ2
  have N2 := Fr.app N0 N2q
  refine Go.pre st2 ?_
  exact Go.retV X2 hx hlk hrt rfl (Or.inl ⟨rfl, Or.inl rfl, _, rfl⟩) (hb hby d20_9) (by decide) (by decide) (by rw [e2]; exact ⟨rfl, N2, rfl⟩)
/-! String.rangeCheck (19_2) -/
theorem pd19_2_0 : parseMethodDescriptor "(III)I" = some ⟨[.int, .int, .int], some .int⟩ := by decide +kernel
theorem ef_19_2 (m : MethodId) (o0 : Addr) : entryFrame m #[(.ref o0), (.int (0 : Int32)), (.int (2 : Int32))] 3 = (mkF m 0 #[.val (.ref o0), .val (.int (0 : Int32)), .val (.int (2 : Int32))] []) := by first | (simp [entryFrame, mkF, argsToLocals, Value.category]; done) | rfl
def Q19_2 (Z : State) (o0 : Addr) (kt : ClassId) (ft : Int32 → Value) (zf : Value) (h0 : Heap) (n0 : Nat) (v : Option Value) (h : Heap) (L : List Loc) : Prop := v = some .null ∧ Fr n0 L ∧ h = h0
theorem rm19_2 (l : Launch) (Z : State) (a0 : Array Value) (hw : ∀ d ∈ tables_1, d.before a0 Z = true) (ws : List Jvm.Cond) (o0 : Addr) (kt : ClassId) (ft : Int32 → Value) (zf : Value) (h0 : Heap) (n0 : Nat) (Z0 : n0 ≤ h0.size) (B_t : Arf Z h0 o0 kt .char z1024 ft) (S_F : Sta Z Z.heap cE "SIOOBE_FORMATTER" "Ljava/util/function/BiFunction;" zf) (hv_zf : zf.isRef = true) (Ol : Old Z n0 h0) :
    MetFree l (⟨cB, "rangeCheck", "([CII)Ljava/lang/Void;"⟩ : MethodName) (head1 (Jvm.Cond.code (⟨cB, "rangeCheck", "([CII)Ljava/lang/Void;"⟩ : MethodName) jdk_42_method_5_code 3 (some (.object "java/lang/Void")) :: ws) ({ frames := 2, cells := 0, slots := 0, locals := 29 } : Room)) (fun a U => a = #[(.ref o0), (.int z0), (.int z2)] ∧ Z.Warmed39 U.vm ∧ U.heap = h0) (fun _ _ _ _ _ => True) (fun _ U o U' => ∃ v L, o = .returned v ∧ Q19_2 Z o0 kt ft zf h0 n0 v U'.heap L ∧ FrameEnd U o U' L ({ frames := 2, cells := 0, slots := 0, locals := 29 } : Room).cells ({ frames := 2, cells := 0, slots := 0, locals := 29 } : Room).slots) := by
  refine MetFree.of_bodySF (plainFor_of_name pn_19) hisR ?_
  intro p e s m args below meth c s₁ Bd hml0 hP hK
  obtain ⟨rfl, hZ, hh⟩ := hP
  have hx := Bd.exec
  have hby := Bd.bytes
  have hml : c.maxLocals = 3 := hml0
  have hown : s.vm.findClass cB = some m.cls := findClass_of_methodNamed Bd.named
  have hnm := (name_of_methodNamed Bd.named Bd.method).1
  have hrt := Bd.returns
  have hlk := Bd.notSynchronized
  have X0 : Stand p l e ({ frames := 2, cells := 0, slots := 0, locals := 29 } : Room) s m #[(.ref o0), (.int z0), (.int z2)] below meth c s₁ [] 0 0 := Stand.of_body Bd
  have e0 : s₁.heap = h0 := by rw [← hh, Bd.state]; rfl
  have N0 := Fr.nil n0
  have lt_B_t : LT.lt (α := Nat) o0 h0.size := B_t.lt
  show Go p e below s 0 0 (Q19_2 Z o0 kt ft zf h0 n0) (s₁.setTop (entryFrame m #[(.ref o0), (.int z0), (.int z2)] 3))
  rw [ef_19_2 m o0]
  refine Go.pre (st' := s₁.setTop (mkF m 3 #[sR o0, sI z0, sI z2] [(.ref o0), (.int z2), (.int z0)])) (fun target kt => ?_) ?_
  · refine XS.iloadN X0.here hx rfl (hb hby d19_0) rfl ?_
    refine XS.iloadN X0.here hx rfl (hb hby d19_1) rfl ?_
    refine XS.aloadN X0.here hx rfl (hb hby d19_2) rfl rfl ?_
    exact kt
  obtain ⟨cl1, Ar1, -, Sz1, Nn1, -⟩ := id B_t
  have st1 := X0.arraylength hx (by rw [e0]; exact Ar1.1) (State.isArrayOf_alike hZ.alike Ar1.2.1) (g := (mkF m 3 #[sR o0, sI z0, sI z2] [(.ref o0), (.int z2), (.int z0)])) rfl rfl (hb hby d19_3)
  rw [len_of Sz1 Nn1] at st1
  refine Go.pre st1 ?_
  obtain ⟨_, _, ⟨T2, L2, k2, n2⟩, -, X2, ⟨Lc2, hQ2, l2, y2, z2⟩, st2⟩ := Jvm.LawKit.callS X0 hx (y := (⟨cB, "checkBoundsOffCount", "(III)I"⟩ : MethodName)) hown (mvT hZ (ow hw 119 rfl)) (mvT hZ (ow hw 120 rfl)) (mvT hZ (ow hw 2 rfl)) (mvT hZ (ow hw 121 rfl)) (by decide) (backOf (W := 0) (rm20_2 l Z a0 hw [] zf h0 n0 (by omega) S_F hv_zf Ol) hZ (ow hw 121 rfl) (ow hw 2 rfl) (by decide) (by decide)) (g := (mkF m 4 #[sR o0, sI z0, sI z2] [(.int z1024), (.int z2), (.int z0)])) rfl (by rw [hml]; rfl) (argsL := [(.int z0), (.int z2), (.int z1024)]) (rest := []) (lenOf pd19_2_0 rfl) rfl (le0 rfl) (hb hby d19_4) (fun vm₁ hvm => ⟨rfl, e0, (by decide : 0 + 0 ≤ _), (by decide : 0 + 0 ≤ _)⟩)
  dsimp only [Pt.U, Pt.locs, Pt.cells, Pt.slots] at X2 l2 y2 z2 st2 hQ2
  subst l2 y2 z2
  obtain ⟨rfl, N2q, e2⟩ := hQ2
  have N2 := Fr.app N0 N2q
  refine Go.pre st2 ?_
  refine Go.pre (st' := T2.setTop (mkF m 9 #[sR o0, sI z0, sI z2] [.null])) (fun target kt => ?_) ?_
  · refine XS.pop X2.here hx rfl (hb hby d19_7) rfl rfl ?_
    refine XS.aconstNull X2.here hx rfl (hb hby d19_8) ?_
    exact kt
  exact Go.retV X2 hx hlk hrt rfl (Or.inr (Or.inr (Or.inr (Or.inr ⟨rfl, rfl, rfl⟩)))) (hb hby d19_9) (by decide) (by decide) (by rw [e2]; exact ⟨rfl, N2, rfl⟩)
/-! StringUTF16.compress (32_2) -/
theorem ef_32_2 (m : MethodId) (o0 : Addr) (o2 : Addr) : entryFrame m #[(.ref o0), (.int (0 : Int32)), (.ref o2), (.int (0 : Int32)), (.int (2 : Int32))] 7 = (mkF m 0 #[.val (.ref o0), .val (.int (0 : Int32)), .val (.ref o2), .val (.int (0 : Int32)), .val (.int (2 : Int32)), .unset, .unset] []) := by first | (simp [entryFrame, mkF, argsToLocals, Value.category]; done) | rfl
def Q32_2 (Z : State) (o0 : Addr) (o2 : Addr) (kt : ClassId) (ft : Int32 → Value) (c0 : Int32) (c1 : Int32) (kb : ClassId) (h0 : Heap) (n0 : Nat) (v : Option Value) (h : Heap) (L : List Loc) : Prop := v = some (.int z2) ∧ Fr n0 L ∧ Keep h0 h [o2] ∧ KF Z h0 h [(o2, (z0).toNatClampNeg), (o2, (z1).toNatClampNeg)] ∧ Arv Z h o2 kb .byte z2 [(.int (nar .byte (c0.toInt8.toInt32))), (.int (nar .byte (c1.toInt8.toInt32)))] (.int z0)
theorem rm32_2 (l : Launch) (Z : State) (a0 : Array Value) (hw : ∀ d ∈ tables_1, d.before a0 Z = true) (ws : List Jvm.Cond) (o0 : Addr) (o2 : Addr) (kt : ClassId) (ft : Int32 → Value) (c0 : Int32) (c1 : Int32) (kb : ClassId) (h0 : Heap) (n0 : Nat) (Z0 : n0 ≤ h0.size) (B_t : Arf Z h0 o0 kt .char z1024 ft) (hr0 : ft z0 = .int c0) (hr1 : ft z1 = .int c1) (A_d : Arv Z h0 o2 kb .byte z2 [(.int z0), (.int z0)] (.int z0)) (n_o0_o2 : o0 ≠ o2) (g_o2 : n0 ≤ o2) (hle0 : ¬ (z255 < c0)) (hle1 : ¬ (z255 < c1)) :
    MetFree l (⟨cF, "compress", "([CI[BII)I"⟩ : MethodName) (head1 (Jvm.Cond.code (⟨cF, "compress", "([CI[BII)I"⟩ : MethodName) jdk_52_method_21_code 7 (some .int) :: ws) ({ frames := 0, cells := 0, slots := 0, locals := 0 } : Room)) (fun a U => a = #[(.ref o0), (.int z0), (.ref o2), (.int z0), (.int z2)] ∧ Z.Warmed39 U.vm ∧ U.heap = h0) (fun _ _ _ _ _ => True) (fun _ U o U' => ∃ v L, o = .returned v ∧ Q32_2 Z o0 o2 kt ft c0 c1 kb h0 n0 v U'.heap L ∧ FrameEnd U o U' L ({ frames := 0, cells := 0, slots := 0, locals := 0 } : Room).cells ({ frames := 0, cells := 0, slots := 0, locals := 0 } : Room).slots) := by
  refine MetFree.of_bodySF (plainFor_of_name pn_32) hisR ?_
  intro p e s m args below meth c s₁ Bd hml0 hP hK
  obtain ⟨rfl, hZ, hh⟩ := hP
  have hx := Bd.exec
  have hby := Bd.bytes
  have hml : c.maxLocals = 7 := hml0
  have hown : s.vm.findClass cF = some m.cls := findClass_of_methodNamed Bd.named
  have hnm := (name_of_methodNamed Bd.named Bd.method).1
  have hrt := Bd.returns
  have hlk := Bd.notSynchronized
  have X0 : Stand p l e ({ frames := 0, cells := 0, slots := 0, locals := 0 } : Room) s m #[(.ref o0), (.int z0), (.ref o2), (.int z0), (.int z2)] below meth c s₁ [] 0 0 := Stand.of_body Bd
  have e0 : s₁.heap = h0 := by rw [← hh, Bd.state]; rfl
  have N0 := Fr.nil n0
  have lt_B_t : LT.lt (α := Nat) o0 h0.size := B_t.lt
  have lt_A_d : LT.lt (α := Nat) o2 h0.size := A_d.lt
  show Go p e below s 0 0 (Q32_2 Z o0 o2 kt ft c0 c1 kb h0 n0) (s₁.setTop (entryFrame m #[(.ref o0), (.int z0), (.ref o2), (.int z0), (.int z2)] 7))
  rw [ef_32_2 m o0 o2]
  refine Go.pre (st' := s₁.setTop (mkF m 12 #[sR o0, sI z0, sR o2, sI z0, sI z2, sI z0, sU] [(.int z0), (.ref o0)])) (fun target kt => ?_) ?_
  · refine XS.iconst X0.here hx rfl (hb hby d32_0) ?_
    refine XS.istore X0.here hx rfl (hb hby d32_1) rfl (l' := #[.val (.ref o0), .val (.int z0), .val (.ref o2), .val (.int z0), .val (.int z2), .val (.int z0), .unset]) rfl ?_
    refine XS.iload X0.here hx rfl (hb hby d32_3) rfl ?_
    refine XS.iload X0.here hx rfl (hb hby d32_5) rfl ?_
    refine XS.icmpNo X0.here hx rfl (hb hby d32_7) rfl (tlt (by decide)).2.1 ?_
    refine XS.aloadN X0.here hx rfl (hb hby d32_10) rfl rfl ?_
    refine XS.iloadN X0.here hx rfl (hb hby d32_11) rfl ?_
    exact kt
  obtain ⟨cl1, Ar1, q1, Sz1, Nn1, Hs1⟩ := id B_t
  have in1 : ¬ (z0 < 0 ∨ cl1.slots.size ≤ (z0).toNatClampNeg) := by rw [Sz1]; exact (by decide)
  have at1 : cl1.slots[(z0).toNatClampNeg]? = some (.int c0) := (Hs1 _ in1).1.trans (congrArg some hr0)
  refine Go.pre (X0.caload hx (j := z0) (v := (.int c0)) (by rw [e0]; exact Ar1.1) (State.isArrayOf_alike hZ.alike Ar1.2.1) Ar1.2.2 in1 at1 (g := (mkF m 12 #[sR o0, sI z0, sR o2, sI z0, sI z2, sI z0, sU] [(.int z0), (.ref o0)])) rfl rfl (hb hby d32_12)) ?_
  refine Go.pre (st' := s₁.setTop (mkF m 31 #[sR o0, sI z0, sR o2, sI z0, sI z2, sI z0, sI c0] [(.int (c0.toInt8.toInt32)), (.int z0), (.ref o2)])) (fun target kt => ?_) ?_
  · refine XS.istore X0.here hx rfl (hb hby d32_13) rfl (l' := #[.val (.ref o0), .val (.int z0), .val (.ref o2), .val (.int z0), .val (.int z2), .val (.int z0), .val (.int c0)]) rfl ?_
    refine XS.iload X0.here hx rfl (hb hby d32_15) rfl ?_
    refine XS.sipush X0.here hx rfl (hb hby d32_17) ?_
    refine XS.icmpYes X0.here hx rfl (pc0 := 20) (pc' := 26) rfl (hb hby d32_20) rfl (flt hle0).2.2.2 (by decide) (by decide) ?_
    refine XS.aloadN X0.here hx rfl (hb hby d32_26) rfl rfl ?_
    refine XS.iloadN X0.here hx rfl (hb hby d32_27) rfl ?_
    refine XS.iload X0.here hx rfl (hb hby d32_28) rfl ?_
    refine XS.i2b X0.here hx rfl (hb hby d32_30) rfl ?_
    exact kt
  obtain ⟨cl2, Ar2, q2, Sz2, Nn2, Hs2, Gs2⟩ := id A_d
  have in2 := inb_of (j := z0) Sz2 ⟨by decide, by decide⟩
  obtain ⟨T2, h2, X2, e2, W2, st2⟩ := stB X0 hx hZ e0 Ar2 (j := z0) in2 (g := (mkF m 31 #[sR o0, sI z0, sR o2, sI z0, sI z2, sI z0, sI c0] [(.int (c0.toInt8.toInt32)), (.int z0), (.ref o2)])) rfl rfl (hb hby d32_31)
  have sz2 : h0.size ≤ h2.size := (Keep.of_wr W2).1
  have V2 : Arv Z h2 o2 kb .byte z2 [(.int (nar .byte (c0.toInt8.toInt32))), (.int z0)] (.int z0) := Arv.set Ar2 q2 Sz2 Nn2 Hs2 Gs2 (fits_nar_byte _) W2 0 rfl (Nat.le_of_ble_eq_true rfl)
  have N2 := Fr.snoc X2 N0 (by omega)
  refine Go.pre st2 ?_
  refine Go.pre (st' := T2.setTop (mkF m 12 #[sR o0, sI z1, sR o2, sI z1, sI z2, sI z1, sI c0] [(.int z1), (.ref o0)])) (fun target kt => ?_) ?_
  · refine XS.iinc X2.here hx rfl (hb hby d32_32) rfl (l' := #[.val (.ref o0), .val (.int z1), .val (.ref o2), .val (.int z0), .val (.int z2), .val (.int z0), .val (.int c0)]) rfl ?_
    refine XS.iinc X2.here hx rfl (hb hby d32_35) rfl (l' := #[.val (.ref o0), .val (.int z1), .val (.ref o2), .val (.int z1), .val (.int z2), .val (.int z0), .val (.int c0)]) rfl ?_
    refine XS.iinc X2.here hx rfl (hb hby d32_38) rfl (l' := #[.val (.ref o0), .val (.int z1), .val (.ref o2), .val (.int z1), .val (.int z2), .val (.int z1), .val (.int c0)]) rfl ?_
    refine XS.goto X2.here hx rfl (pc0 := 41) (pc' := 3) rfl (hb hby d32_41) (by decide) (by decide) ?_
    refine XS.iload X2.here hx rfl (hb hby d32_3) rfl ?_
    refine XS.iload X2.here hx rfl (hb hby d32_5) rfl ?_
    refine XS.icmpNo X2.here hx rfl (hb hby d32_7) rfl (tlt (by decide)).2.1 ?_
    refine XS.aloadN X2.here hx rfl (hb hby d32_10) rfl rfl ?_
    refine XS.iloadN X2.here hx rfl (hb hby d32_11) rfl ?_
    exact kt
  have Y3 := (B_t.other W2 n_o0_o2)
  obtain ⟨cl4, Ar4, q4, Sz4, Nn4, Hs4⟩ := id Y3
  have in4 : ¬ (z1 < 0 ∨ cl4.slots.size ≤ (z1).toNatClampNeg) := by rw [Sz4]; exact (by decide)
  have at4 : cl4.slots[(z1).toNatClampNeg]? = some (.int c1) := (Hs4 _ in4).1.trans (congrArg some hr1)
  refine Go.pre (X2.caload hx (j := z1) (v := (.int c1)) (by rw [e2]; exact Ar4.1) (State.isArrayOf_alike hZ.alike Ar4.2.1) Ar4.2.2 in4 at4 (g := (mkF m 12 #[sR o0, sI z1, sR o2, sI z1, sI z2, sI z1, sI c0] [(.int z1), (.ref o0)])) rfl rfl (hb hby d32_12)) ?_
  refine Go.pre (st' := T2.setTop (mkF m 31 #[sR o0, sI z1, sR o2, sI z1, sI z2, sI z1, sI c1] [(.int (c1.toInt8.toInt32)), (.int z1), (.ref o2)])) (fun target kt => ?_) ?_
  · refine XS.istore X2.here hx rfl (hb hby d32_13) rfl (l' := #[.val (.ref o0), .val (.int z1), .val (.ref o2), .val (.int z1), .val (.int z2), .val (.int z1), .val (.int c1)]) rfl ?_
    refine XS.iload X2.here hx rfl (hb hby d32_15) rfl ?_
    refine XS.sipush X2.here hx rfl (hb hby d32_17) ?_
    refine XS.icmpYes X2.here hx rfl (pc0 := 20) (pc' := 26) rfl (hb hby d32_20) rfl (flt hle1).2.2.2 (by decide) (by decide) ?_
    refine XS.aloadN X2.here hx rfl (hb hby d32_26) rfl rfl ?_
    refine XS.iloadN X2.here hx rfl (hb hby d32_27) rfl ?_
    refine XS.iload X2.here hx rfl (hb hby d32_28) rfl ?_
    refine XS.i2b X2.here hx rfl (hb hby d32_30) rfl ?_
    exact kt
  obtain ⟨cl5, Ar5, q5, Sz5, Nn5, Hs5, Gs5⟩ := id V2
  have in5 := inb_of (j := z1) Sz5 ⟨by decide, by decide⟩
  obtain ⟨T5, h5, X5, e5, W5, st5⟩ := stB X2 hx hZ e2 Ar5 (j := z1) in5 (g := (mkF m 31 #[sR o0, sI z1, sR o2, sI z1, sI z2, sI z1, sI c1] [(.int (c1.toInt8.toInt32)), (.int z1), (.ref o2)])) rfl rfl (hb hby d32_31)
  have sz5 : h2.size ≤ h5.size := (Keep.of_wr W5).1
  have V5 : Arv Z h5 o2 kb .byte z2 [(.int (nar .byte (c0.toInt8.toInt32))), (.int (nar .byte (c1.toInt8.toInt32)))] (.int z0) := Arv.set Ar5 q5 Sz5 Nn5 Hs5 Gs5 (fits_nar_byte _) W5 1 rfl (Nat.le_of_ble_eq_true rfl)
  have N5 := Fr.snoc X5 N2 (by omega)
  refine Go.pre st5 ?_
  refine Go.pre (st' := T5.setTop (mkF m 46 #[sR o0, sI z2, sR o2, sI z2, sI z2, sI z2, sI c1] [(.int z2)])) (fun target kt => ?_) ?_
  · refine XS.iinc X5.here hx rfl (hb hby d32_32) rfl (l' := #[.val (.ref o0), .val (.int z2), .val (.ref o2), .val (.int z1), .val (.int z2), .val (.int z1), .val (.int c1)]) rfl ?_
    refine XS.iinc X5.here hx rfl (hb hby d32_35) rfl (l' := #[.val (.ref o0), .val (.int z2), .val (.ref o2), .val (.int z2), .val (.int z2), .val (.int z1), .val (.int c1)]) rfl ?_
    refine XS.iinc X5.here hx rfl (hb hby d32_38) rfl (l' := #[.val (.ref o0), .val (.int z2), .val (.ref o2), .val (.int z2), .val (.int z2), .val (.int z2), .val (.int c1)]) rfl ?_
    refine XS.goto X5.here hx rfl (pc0 := 41) (pc' := 3) rfl (hb hby d32_41) (by decide) (by decide) ?_
    refine XS.iload X5.here hx rfl (hb hby d32_3) rfl ?_
    refine XS.iload X5.here hx rfl (hb hby d32_5) rfl ?_
    refine XS.icmpYes X5.here hx rfl (pc0 := 7) (pc' := 44) rfl (hb hby d32_7) rfl (flt (by decide)).2.1 (by decide) (by decide) ?_
    refine XS.iload X5.here hx rfl (hb hby d32_44) rfl ?_
    exact kt
  exact Go.retV X5 hx hlk hrt rfl (Or.inl ⟨rfl, Or.inl rfl, _, rfl⟩) (hb hby d32_46) (by decide) (by decide) (by rw [e5]; exact ⟨rfl, N5, (((Keep.refl h0 [o2]).wr W2 (Or.inl (List.mem_of_getElem? (i := 0) rfl))).wr W5 (Or.inl (List.mem_of_getElem? (i := 0) rfl))), (((KF.refl Z h0 [(o2, (z0).toNatClampNeg), (o2, (z1).toNatClampNeg)]).wr W2 (Or.inl (List.mem_of_getElem? (i := 0) rfl))).wr W5 (Or.inl (List.mem_of_getElem? (i := 1) rfl))), V5⟩)
/-! StringUTF16.compress (31_2) -/
theorem pd31_2_0 : parseMethodDescriptor "([CI[BII)I" = some ⟨[(.array .char), .int, (.array .byte), .int, .int], some .int⟩ := by decide +kernel
theorem ef_31_2 (m : MethodId) (o0 : Addr) : entryFrame m #[(.ref o0), (.int (0 : Int32)), (.int (2 : Int32))] 6 = (mkF m 0 #[.val (.ref o0), .val (.int (0 : Int32)), .val (.int (2 : Int32)), .unset, .unset, .unset] []) := by first | (simp [entryFrame, mkF, argsToLocals, Value.category]; done) | rfl
def Q31_2 (Z : State) (o0 : Addr) (kt : ClassId) (ft : Int32 → Value) (c0 : Int32) (c1 : Int32) (h0 : Heap) (n0 : Nat) (v : Option Value) (h : Heap) (L : List Loc) : Prop := ∃ b1 : Addr, ∃ k1 : ClassId, v = some (.ref b1) ∧ Fr n0 L ∧ Keep h0 h [] ∧ KF Z h0 h [] ∧ LE.le (α := Nat) h0.size b1 ∧ LT.lt (α := Nat) b1 h.size ∧ Arv Z h b1 k1 .byte z2 [(.int (nar .byte (c0.toInt8.toInt32))), (.int (nar .byte (c1.toInt8.toInt32)))] (.int z0)
theorem rm31_2 (l : Launch) (Z : State) (a0 : Array Value) (hw : ∀ d ∈ tables_1, d.before a0 Z = true) (ws : List Jvm.Cond) (o0 : Addr) (kt : ClassId) (ft : Int32 → Value) (c0 : Int32) (c1 : Int32) (h0 : Heap) (n0 : Nat) (Z0 : n0 ≤ h0.size) (B_t : Arf Z h0 o0 kt .char z1024 ft) (hr0 : ft z0 = .int c0) (hr1 : ft z1 = .int c1) (hle0 : ¬ (z255 < c0)) (hle1 : ¬ (z255 < c1)) :
    MetFree l (⟨cF, "compress", "([CII)[B"⟩ : MethodName) (head1 (Jvm.Cond.code (⟨cF, "compress", "([CII)[B"⟩ : MethodName) jdk_52_method_16_code 6 (some (.array .byte)) :: ws) ({ frames := 1, cells := 1, slots := 2, locals := 18 } : Room)) (fun a U => a = #[(.ref o0), (.int z0), (.int z2)] ∧ Z.Warmed39 U.vm ∧ U.heap = h0) (fun _ _ _ _ _ => True) (fun _ U o U' => ∃ v L, o = .returned v ∧ Q31_2 Z o0 kt ft c0 c1 h0 n0 v U'.heap L ∧ FrameEnd U o U' L ({ frames := 1, cells := 1, slots := 2, locals := 18 } : Room).cells ({ frames := 1, cells := 1, slots := 2, locals := 18 } : Room).slots) := by
  refine MetFree.of_bodySF (plainFor_of_name pn_31) hisR ?_
  intro p e s m args below meth c s₁ Bd hml0 hP hK
  obtain ⟨rfl, hZ, hh⟩ := hP
  have hx := Bd.exec
  have hby := Bd.bytes
  have hml : c.maxLocals = 6 := hml0
  have hown : s.vm.findClass cF = some m.cls := findClass_of_methodNamed Bd.named
  have hnm := (name_of_methodNamed Bd.named Bd.method).1
  have hrt := Bd.returns
  have hlk := Bd.notSynchronized
  have X0 : Stand p l e ({ frames := 1, cells := 1, slots := 2, locals := 18 } : Room) s m #[(.ref o0), (.int z0), (.int z2)] below meth c s₁ [] 0 0 := Stand.of_body Bd
  have e0 : s₁.heap = h0 := by rw [← hh, Bd.state]; rfl
  have N0 := Fr.nil n0
  have lt_B_t : LT.lt (α := Nat) o0 h0.size := B_t.lt
  show Go p e below s 1 2 (Q31_2 Z o0 kt ft c0 c1 h0 n0) (s₁.setTop (entryFrame m #[(.ref o0), (.int z0), (.int z2)] 6))
  rw [ef_31_2 m o0]
  refine Go.pre (st' := s₁.setTop (mkF m 1 #[sR o0, sI z0, sI z2, sU, sU, sU] [(.int z2)])) (fun target kt => ?_) ?_
  · refine XS.iloadN X0.here hx rfl (hb hby d31_0) rfl ?_
    exact kt
  obtain ⟨T1, h1, k1, X1, e1, E1, A1, st1⟩ := newP X0 hx hZ (ow hw 14 rfl) e0 (g := (mkF m 1 #[sR o0, sI z0, sI z2, sU, sU, sU] [(.int z2)])) rfl (hb hby d31_1) rfl (by decide) (cap := 2) (by decide) (by decide) (by decide) (by decide)
  obtain ⟨b1, g1⟩ : ∃ z, z = h0.size := ⟨_, rfl⟩
  rw [← g1] at A1 st1
  have sz1 : h0.size ≤ h1.size := E1.1
  have V1 : Arv Z h1 b1 k1 .byte z2 [(.int z0), (.int z0)] (.int z0) := (Arv.new A1 (by decide)).pad (pad_rep [] (.int z0) 2)
  have lt1 : b1 < h1.size := V1.lt
  refine Go.pre st1 ?_
  refine Go.pre (st' := T1.setTop (mkF m 9 #[sR o0, sI z0, sI z2, sR b1, sU, sU] [(.int z2), (.int z0), (.ref b1), (.int z0), (.ref o0)])) (fun target kt => ?_) ?_
  · refine XS.astoreN X1.here hx rfl (hb hby d31_3) rfl rfl (l' := #[.val (.ref o0), .val (.int z0), .val (.int z2), .val (.ref b1), .unset, .unset]) rfl ?_
    refine XS.aloadN X1.here hx rfl (hb hby d31_4) rfl rfl ?_
    refine XS.iloadN X1.here hx rfl (hb hby d31_5) rfl ?_
    refine XS.aloadN X1.here hx rfl (hb hby d31_6) rfl rfl ?_
    refine XS.iconst X1.here hx rfl (hb hby d31_7) ?_
    refine XS.iloadN X1.here hx rfl (hb hby d31_8) rfl ?_
    exact kt
  have Y3 := (B_t.ext E1)
  obtain ⟨_, _, ⟨T2, L2, k2, n2⟩, -, X2, ⟨Lc2, hQ2, l2, y2, z2⟩, st2⟩ := Jvm.LawKit.callS X1 hx (y := (⟨cF, "compress", "([CI[BII)I"⟩ : MethodName)) hown (mvT hZ (ow hw 173 rfl)) (mvT hZ (ow hw 174 rfl)) (mvT hZ (ow hw 171 rfl)) (mvT hZ (ow hw 175 rfl)) (by decide) (backOf (W := 0) (rm32_2 l Z a0 hw [] o0 b1 kt ft c0 c1 k1 h1 n0 (by omega) Y3 hr0 hr1 V1 (neN (by omega)) (by omega) hle0 hle1) hZ (ow hw 175 rfl) (ow hw 171 rfl) (by decide) (by decide)) (g := (mkF m 9 #[sR o0, sI z0, sI z2, sR b1, sU, sU] [(.int z2), (.int z0), (.ref b1), (.int z0), (.ref o0)])) rfl (by rw [hml]; rfl) (argsL := [(.ref o0), (.int z0), (.ref b1), (.int z0), (.int z2)]) (rest := []) (lenOf pd31_2_0 rfl) rfl (le0 rfl) (hb hby d31_9) (fun vm₁ hvm => ⟨rfl, e1, (by decide : 1 + 0 ≤ _), (by decide : 2 + 0 ≤ _)⟩)
  dsimp only [Pt.U, Pt.locs, Pt.cells, Pt.slots] at X2 l2 y2 z2 st2 hQ2
  subst l2 y2 z2
  obtain ⟨rfl, N2q, K2, KF2, Y2_0⟩ := hQ2
  have sz2 : h1.size ≤ T2.heap.size := K2.1
  have N2 := Fr.app N0 N2q
  refine Go.pre st2 ?_
  refine Go.pre (st' := T2.setTop (mkF m 58 #[sR o0, sI z0, sI z2, sR b1, sI z2, sU] [(.ref b1)])) (fun target kt => ?_) ?_
  · refine XS.istore X2.here hx rfl (hb hby d31_12) rfl (l' := #[.val (.ref o0), .val (.int z0), .val (.int z2), .val (.ref b1), .val (.int z2), .unset]) rfl ?_
    refine XS.iload X2.here hx rfl (hb hby d31_14) rfl ?_
    refine XS.iloadN X2.here hx rfl (hb hby d31_16) rfl ?_
    refine XS.icmpYes X2.here hx rfl (pc0 := 17) (pc' := 57) rfl (hb hby d31_17) rfl (teq (by decide)).1 (by decide) (by decide) ?_
    refine XS.aloadN X2.here hx rfl (hb hby d31_57) rfl rfl ?_
    exact kt
  exact Go.retV X2 hx hlk hrt rfl (Or.inr (Or.inr (Or.inr (Or.inr ⟨rfl, rfl, rfl⟩)))) (hb hby d31_58) (by decide) (by decide) (by exact ⟨b1, k1, rfl, N2, (((Keep.refl h0 []).ext E1).trans K2 (allS (Or.inr (by omega)) all0)), (((KF.refl Z h0 []).ext E1).trans KF2 (pallS (Or.inr (by show _ ≤ b1; omega)) (pallS (Or.inr (by show _ ≤ b1; omega)) pall0))), by omega, by omega, Y2_0⟩)
/-! StringUTF16.coderFromArrayLen (33_2) -/
theorem ef_33_2 (m : MethodId) (o0 : Addr) : entryFrame m #[(.ref o0), (.int (2 : Int32))] 2 = (mkF m 0 #[.val (.ref o0), .val (.int (2 : Int32))] []) := by first | (simp [entryFrame, mkF, argsToLocals, Value.category]; done) | rfl
def Q33_2 (Z : State) (o0 : Addr) (ka : ClassId) (c0 : Int32) (c1 : Int32) (h0 : Heap) (n0 : Nat) (v : Option Value) (h : Heap) (L : List Loc) : Prop := v = some (.int (nar .byte z0)) ∧ Fr n0 L ∧ h = h0
theorem rm33_2 (l : Launch) (Z : State) (a0 : Array Value) (hw : ∀ d ∈ tables_1, d.before a0 Z = true) (ws : List Jvm.Cond) (o0 : Addr) (ka : ClassId) (c0 : Int32) (c1 : Int32) (h0 : Heap) (n0 : Nat) (Z0 : n0 ≤ h0.size) (A_c : Arv Z h0 o0 ka .byte z2 [(.int c0), (.int c1)] (.int z0)) :
    MetFree l (⟨cF, "coderFromArrayLen", "([BI)B"⟩ : MethodName) (head1 (Jvm.Cond.code (⟨cF, "coderFromArrayLen", "([BI)B"⟩ : MethodName) jdk_52_method_15_code 2 (some .byte) :: ws) ({ frames := 0, cells := 0, slots := 0, locals := 0 } : Room)) (fun a U => a = #[(.ref o0), (.int z2)] ∧ Z.Warmed39 U.vm ∧ U.heap = h0) (fun _ _ _ _ _ => True) (fun _ U o U' => ∃ v L, o = .returned v ∧ Q33_2 Z o0 ka c0 c1 h0 n0 v U'.heap L ∧ FrameEnd U o U' L ({ frames := 0, cells := 0, slots := 0, locals := 0 } : Room).cells ({ frames := 0, cells := 0, slots := 0, locals := 0 } : Room).slots) := by
  refine MetFree.of_bodySF (plainFor_of_name pn_33) hisR ?_
  intro p e s m args below meth c s₁ Bd hml0 hP hK
  obtain ⟨rfl, hZ, hh⟩ := hP
  have hx := Bd.exec
  have hby := Bd.bytes
  have hml : c.maxLocals = 2 := hml0
  have hown : s.vm.findClass cF = some m.cls := findClass_of_methodNamed Bd.named
  have hnm := (name_of_methodNamed Bd.named Bd.method).1
  have hrt := Bd.returns
  have hlk := Bd.notSynchronized
  have X0 : Stand p l e ({ frames := 0, cells := 0, slots := 0, locals := 0 } : Room) s m #[(.ref o0), (.int z2)] below meth c s₁ [] 0 0 := Stand.of_body Bd
  have e0 : s₁.heap = h0 := by rw [← hh, Bd.state]; rfl
  have N0 := Fr.nil n0
  have lt_A_c : LT.lt (α := Nat) o0 h0.size := A_c.lt
  show Go p e below s 0 0 (Q33_2 Z o0 ka c0 c1 h0 n0) (s₁.setTop (entryFrame m #[(.ref o0), (.int z2)] 2))
  rw [ef_33_2 m o0]
  refine Go.pre (st' := s₁.setTop (mkF m 2 #[sR o0, sI z2] [(.ref o0), (.int z2)])) (fun target kt => ?_) ?_
  · refine XS.iloadN X0.here hx rfl (hb hby d33_0) rfl ?_
    refine XS.aloadN X0.here hx rfl (hb hby d33_1) rfl rfl ?_
    exact kt
  obtain ⟨cl1, Ar1, -, Sz1, Nn1, -, -⟩ := id A_c
  have st1 := X0.arraylength hx (by rw [e0]; exact Ar1.1) (State.isArrayOf_alike hZ.alike Ar1.2.1) (g := (mkF m 2 #[sR o0, sI z2] [(.ref o0), (.int z2)])) rfl rfl (hb hby d33_2)
  rw [len_of Sz1 Nn1] at st1
  refine Go.pre st1 ?_
  refine Go.pre (st' := s₁.setTop (mkF m 8 #[sR o0, sI z2] [(.int z0)])) (fun target kt => ?_) ?_
  · refine XS.isub X0.here hx rfl (hb hby d33_3) rfl ?_
    refine XS.bipush X0.here hx rfl (hb hby d33_4) ?_
    refine XS.iushr X0.here hx rfl (hb hby d33_6) rfl ?_
    refine XS.i2b X0.here hx rfl (hb hby d33_7) rfl ?_
    exact kt
  exact Go.retN X0 hx hlk hrt (z' := (nar .byte z0)) (by simp) (hb hby d33_8) rfl (by decide) (by decide) (by rw [e0]; exact ⟨rfl, N0, rfl⟩)
/-! String.<init> (22_2) -/
theorem pd22_2_0 : parseMethodDescriptor "([CII)[B" = some ⟨[(.array .char), .int, .int], some (.array .byte)⟩ := by decide +kernel
theorem pd22_2_1 : parseMethodDescriptor "([BI)B" = some ⟨[(.array .byte), .int], some .byte⟩ := by decide +kernel
theorem ef_22_2 (m : MethodId) (o0 : Addr) (o1 : Addr) : entryFrame m #[(.ref o0), (.ref o1), (.int (0 : Int32)), (.int (2 : Int32)), .null] 6 = (mkF m 0 #[.val (.ref o0), .val (.ref o1), .val (.int (0 : Int32)), .val (.int (2 : Int32)), .val .null, .unset] []) := by first | (simp [entryFrame, mkF, argsToLocals, Value.category]; done) | rfl
def Q22_2 (Z : State) (o0 : Addr) (o1 : Addr) (kt : ClassId) (ft : Int32 → Value) (c0 : Int32) (c1 : Int32) (zc : Int32) (u5 : Value) (u10 : Value) (h0 : Heap) (n0 : Nat) (v : Option Value) (h : Heap) (L : List Loc) : Prop := ∃ b3_0 : Addr, ∃ k3_0 : ClassId, v = none ∧ Fr n0 L ∧ Keep h0 h [o0] ∧ KF Z h0 h [(o0, Jvm.RoadKit.slotOf Z cB "coder" "B"), (o0, Jvm.RoadKit.slotOf Z cB "value" "[B")] ∧ LE.le (α := Nat) h0.size b3_0 ∧ LT.lt (α := Nat) b3_0 h.size ∧ Fld Z h o0 cB "coder" "B" (.int (nar .byte (nar .byte z0))) ∧ Fld Z h o0 cB "value" "[B" (.ref b3_0) ∧ Arv Z h b3_0 k3_0 .byte z2 [(.int (nar .byte (c0.toInt8.toInt32))), (.int (nar .byte (c1.toInt8.toInt32)))] (.int z0)
theorem rm22_2 (l : Launch) (Z : State) (a0 : Array Value) (hw : ∀ d ∈ tables_1, d.before a0 Z = true) (ws : List Jvm.Cond) (o0 : Addr) (o1 : Addr) (kt : ClassId) (ft : Int32 → Value) (c0 : Int32) (c1 : Int32) (zc : Int32) (u5 : Value) (u10 : Value) (h0 : Heap) (n0 : Nat) (Z0 : n0 ≤ h0.size) (B_t : Arf Z h0 o1 kt .char z1024 ft) (hr0 : ft z0 = .int c0) (hr1 : ft z1 = .int c1) (S_COMPACT : Sta Z Z.heap cB "COMPACT_STRINGS" "Z" (.int zc)) (Ol : Old Z n0 h0) (F_coder_o0 : Fld Z h0 o0 cB "coder" "B" u5) (E_o0 : Exa Z h0 o0 cB) (g_o0 : n0 ≤ o0) (F_value_o0 : Fld Z h0 o0 cB "value" "[B" u10) (hle0 : ¬ (z255 < c0)) (hle1 : ¬ (z255 < c1)) (hc30 : ¬ (zc = z0)) :
    MetFree l (⟨cB, "<init>", "([CIILjava/lang/Void;)V"⟩ : MethodName) (head1 (Jvm.Cond.code (⟨cB, "<init>", "([CIILjava/lang/Void;)V"⟩ : MethodName) jdk_42_method_149_code 6 none :: ws) ({ frames := 2, cells := 1, slots := 2, locals := 35 } : Room)) (fun a U => a = #[(.ref o0), (.ref o1), (.int z0), (.int z2), .null] ∧ Z.Warmed39 U.vm ∧ U.heap = h0) (fun _ _ _ _ _ => True) (fun _ U o U' => ∃ v L, o = .returned v ∧ Q22_2 Z o0 o1 kt ft c0 c1 zc u5 u10 h0 n0 v U'.heap L ∧ FrameEnd U o U' L ({ frames := 2, cells := 1, slots := 2, locals := 35 } : Room).cells ({ frames := 2, cells := 1, slots := 2, locals := 35 } : Room).slots) := by
  refine MetFree.of_bodySF (plainFor_of_name pn_22) hisR ?_
  intro p e s m args below meth c s₁ Bd hml0 hP hK
  obtain ⟨rfl, hZ, hh⟩ := hP
  have hx := Bd.exec
  have hby := Bd.bytes
  have hml : c.maxLocals = 6 := hml0
  have hown : s.vm.findClass cB = some m.cls := findClass_of_methodNamed Bd.named
  have hnm := (name_of_methodNamed Bd.named Bd.method).1
  have hrt := Bd.returns
  have hlk := Bd.notSynchronized
  have X0 : Stand p l e ({ frames := 2, cells := 1, slots := 2, locals := 35 } : Room) s m #[(.ref o0), (.ref o1), (.int z0), (.int z2), .null] below meth c s₁ [] 0 0 := Stand.of_body Bd
  have e0 : s₁.heap = h0 := by rw [← hh, Bd.state]; rfl
  have N0 := Fr.nil n0
  have lt_B_t : LT.lt (α := Nat) o1 h0.size := B_t.lt
  have lt_F_coder_o0 : LT.lt (α := Nat) o0 h0.size := F_coder_o0.lt
  show Go p e below s 1 2 (Q22_2 Z o0 o1 kt ft c0 c1 zc u5 u10 h0 n0) (s₁.setTop (entryFrame m #[(.ref o0), (.ref o1), (.int z0), (.int z2), .null] 6))
  rw [ef_22_2 m o0 o1]
  refine Go.pre (st' := s₁.setTop (mkF m 1 #[sR o0, sR o1, sI z0, sI z2, sN, sU] [(.ref o0)])) (fun target kt => ?_) ?_
  · refine XS.aloadN X0.here hx rfl (hb hby d22_0) rfl rfl ?_
    exact kt
  obtain ⟨T1, X1, e1, st1⟩ := initO X0 hx hZ hown (ow hw 19 rfl) (ow hw 20 rfl) (ow hw 21 rfl) e0 (g := (mkF m 1 #[sR o0, sR o1, sI z0, sI z2, sN, sU] [(.ref o0)])) rfl (by rw [hml]; rfl) rfl (hb hby d22_1) (by decide) (W := 0) (le0 rfl) (by decide)
  refine Go.pre st1 ?_
  refine Go.pre (st' := T1.setTop (mkF m 27 #[sR o0, sR o1, sI z0, sI z2, sN, sU] [])) (fun target kt => ?_) ?_
  · refine XS.iloadN X1.here hx rfl (hb hby d22_4) rfl ?_
    refine XS.ifYes X1.here hx rfl (pc0 := 5) (pc' := 27) rfl (hb hby d22_5) rfl ((if0 _ _).trans (feq (by decide)).2) (by decide) (by decide) ?_
    exact kt
  obtain ⟨T2, X2, e2, st2⟩ := getS2 X1 hx hZ hown (host := "") (Or.inl (ow hw 4 rfl)) Via.refl e1 (S_COMPACT.ext Ol.2) (g := (mkF m 27 #[sR o0, sR o1, sI z0, sI z2, sN, sU] [])) rfl (hb hby d22_27)
  refine Go.pre st2 ?_
  refine Go.pre (st' := T2.setTop (mkF m 36 #[sR o0, sR o1, sI z0, sI z2, sN, sU] [(.int z2), (.int z0), (.ref o1)])) (fun target kt => ?_) ?_
  · refine XS.ifNo X2.here hx rfl (hb hby d22_30) rfl ((if0 _ _).trans (feq hc30).1) ?_
    refine XS.aloadN X2.here hx rfl (hb hby d22_33) rfl rfl ?_
    refine XS.iloadN X2.here hx rfl (hb hby d22_34) rfl ?_
    refine XS.iloadN X2.here hx rfl (hb hby d22_35) rfl ?_
    exact kt
  obtain ⟨_, _, ⟨T3, L3, k3, n3⟩, -, X3, ⟨Lc3, hQ3, l3, y3, z3⟩, st3⟩ := Jvm.LawKit.callS X2 hx (y := (⟨cF, "compress", "([CII)[B"⟩ : MethodName)) hown (mvT hZ (ow hw 169 rfl)) (mvT hZ (ow hw 170 rfl)) (mvT hZ (ow hw 171 rfl)) (mvT hZ (ow hw 172 rfl)) (by decide) (backOf (W := 0) (rm31_2 l Z a0 hw [] o1 kt ft c0 c1 h0 n0 (by omega) B_t hr0 hr1 hle0 hle1) hZ (ow hw 172 rfl) (ow hw 171 rfl) (by decide) (by decide)) (g := (mkF m 36 #[sR o0, sR o1, sI z0, sI z2, sN, sU] [(.int z2), (.int z0), (.ref o1)])) rfl (by rw [hml]; rfl) (argsL := [(.ref o1), (.int z0), (.int z2)]) (rest := []) (lenOf pd22_2_0 rfl) rfl (le0 rfl) (hb hby d22_36) (fun vm₁ hvm => ⟨rfl, e2, (by decide : 0 + 1 ≤ _), (by decide : 0 + 2 ≤ _)⟩)
  dsimp only [Pt.U, Pt.locs, Pt.cells, Pt.slots] at X3 l3 y3 z3 st3 hQ3
  subst l3 y3 z3
  obtain ⟨b3_0, k3_0, rfl, N3q, K3, KF3, gb3_0, ltb3_0, Y3_0⟩ := hQ3
  have sz3 : h0.size ≤ T3.heap.size := K3.1
  have N3 := Fr.app N0 N3q
  refine Go.pre st3 ?_
  refine Go.pre (st' := T3.setTop (mkF m 45 #[sR o0, sR o1, sI z0, sI z2, sN, sR b3_0] [(.int z2), (.ref b3_0), (.ref o0)])) (fun target kt => ?_) ?_
  · refine XS.astore X3.here hx rfl (hb hby d22_39) rfl rfl (l' := #[.val (.ref o0), .val (.ref o1), .val (.int z0), .val (.int z2), .val .null, .val (.ref b3_0)]) rfl ?_
    refine XS.aloadN X3.here hx rfl (hb hby d22_41) rfl rfl ?_
    refine XS.aload X3.here hx rfl (hb hby d22_42) rfl rfl ?_
    refine XS.iloadN X3.here hx rfl (hb hby d22_44) rfl ?_
    exact kt
  obtain ⟨_, _, ⟨T4, L4, k4, n4⟩, -, X4, ⟨Lc4, hQ4, l4, y4, z4⟩, st4⟩ := Jvm.LawKit.callS X3 hx (y := (⟨cF, "coderFromArrayLen", "([BI)B"⟩ : MethodName)) hown (mvT hZ (ow hw 176 rfl)) (mvT hZ (ow hw 177 rfl)) (mvT hZ (ow hw 171 rfl)) (mvT hZ (ow hw 178 rfl)) (by decide) (backOf (W := 1) (rm33_2 l Z a0 hw [] b3_0 k3_0 (nar .byte (c0.toInt8.toInt32)) (nar .byte (c1.toInt8.toInt32)) T3.heap n0 (by omega) Y3_0) hZ (ow hw 178 rfl) (ow hw 171 rfl) (by decide) (by decide)) (g := (mkF m 45 #[sR o0, sR o1, sI z0, sI z2, sN, sR b3_0] [(.int z2), (.ref b3_0), (.ref o0)])) rfl (by rw [hml]; rfl) (argsL := [(.ref b3_0), (.int z2)]) (rest := [(.ref o0)]) (lenOf pd22_2_1 rfl) rfl (le0 rfl) (hb hby d22_45) (fun vm₁ hvm => ⟨rfl, rfl, (by decide : 1 + 0 ≤ _), (by decide : 2 + 0 ≤ _)⟩)
  dsimp only [Pt.U, Pt.locs, Pt.cells, Pt.slots] at X4 l4 y4 z4 st4 hQ4
  subst l4 y4 z4
  obtain ⟨rfl, N4q, e4⟩ := hQ4
  have N4 := Fr.app N3 N4q
  refine Go.pre st4 ?_
  have Y6 := (F_coder_o0.keep K3 nin0)
  have Y7 := (E_o0.keep K3)
  obtain ⟨T8, h8, X8, e8, W8, st8⟩ := putFN X4 hx hZ hown (ow hw 24 rfl) Via.refl e4 Y6 Y7 (Or.inr ⟨(ow hw 25 rfl), rfl, hnm⟩) (ow hw 10 rfl) (ty := .byte) (v' := (.int (nar .byte (nar .byte z0)))) (by decide) rfl (fits_nar_byte _) (g := (mkF m 48 #[sR o0, sR o1, sI z0, sI z2, sN, sR b3_0] [(.int (nar .byte z0)), (.ref o0)])) rfl rfl (hb hby d22_48)
  have sz8 : T3.heap.size ≤ h8.size := (Keep.of_wr W8).1
  have Y9 : Fld Z h8 o0 cB "coder" "B" (.int (nar .byte (nar .byte z0))) := Y6.same W8
  have N8 := Fr.snoc X8 N4 (by omega)
  refine Go.pre st8 ?_
  refine Go.pre (st' := T8.setTop (mkF m 54 #[sR o0, sR o1, sI z0, sI z2, sN, sR b3_0] [(.ref b3_0), (.ref o0)])) (fun target kt => ?_) ?_
  · refine XS.aloadN X8.here hx rfl (hb hby d22_51) rfl rfl ?_
    refine XS.aload X8.here hx rfl (hb hby d22_52) rfl rfl ?_
    exact kt
  have Y11 := ((F_value_o0.keep K3 nin0).other W8 (Or.inr (slot_ne (Or.inr (ow hw 23 rfl)) (Or.inr (ow hw 25 rfl)) (by decide) (t := (.array .byte)) (t' := .byte) (by decide) (by decide))))
  have Y12 := (Y7.wr W8)
  obtain ⟨T13, h13, X13, e13, W13, st13⟩ := putF X8 hx hZ hown (host := "") (Or.inl (ow hw 22 rfl)) Via.refl e8 Y11 Y12 (Or.inr ⟨(ow hw 23 rfl), rfl, hnm⟩) (ow hw 10 rfl) (ty := (.array .byte)) (by decide) rfl rfl (g := (mkF m 54 #[sR o0, sR o1, sI z0, sI z2, sN, sR b3_0] [(.ref b3_0), (.ref o0)])) rfl rfl (hb hby d22_54)
  have sz13 : h8.size ≤ h13.size := (Keep.of_wr W13).1
  have Y14 : Fld Z h13 o0 cB "value" "[B" (.ref b3_0) := Y11.same W13
  have N13 := Fr.snoc X13 N8 (by omega)
  refine Go.pre st13 ?_
  have Y15 := (Y9.other W13 (Or.inr (slot_ne (Or.inr (ow hw 25 rfl)) (Or.inr (ow hw 23 rfl)) (by decide) (t := .byte) (t' := (.array .byte)) (by decide) (by decide))))
  have Y16 := ((Y3_0.other W8 (neN (by omega))).other W13 (neN (by omega)))
  exact Go.ret0 X13 hx hlk hrt (hb hby d22_57) (by decide) (by decide) (by rw [e13]; exact ⟨b3_0, k3_0, rfl, N13, ((((Keep.refl h0 [o0]).trans K3 all0).wr W8 (Or.inl (List.mem_of_getElem? (i := 0) rfl))).wr W13 (Or.inl (List.mem_of_getElem? (i := 0) rfl))), ((((KF.refl Z h0 [(o0, Jvm.RoadKit.slotOf Z cB "coder" "B"), (o0, Jvm.RoadKit.slotOf Z cB "value" "[B")]).trans KF3 pall0).wr W8 (Or.inl (List.mem_of_getElem? (i := 0) rfl))).wr W13 (Or.inl (List.mem_of_getElem? (i := 1) rfl))), by omega, by omega, Y15, Y14, Y16⟩)
/-! String.<init> (18_2) -/
theorem pd18_2_0 : parseMethodDescriptor "([CII)Ljava/lang/Void;" = some ⟨[(.array .char), .int, .int], some (.object "java/lang/Void")⟩ := by decide +kernel
theorem pd18_2_1 : parseMethodDescriptor "([CIILjava/lang/Void;)V" = some ⟨[(.array .char), .int, .int, (.object "java/lang/Void")], none⟩ := by decide +kernel
theorem ef_18_2 (m : MethodId) (o0 : Addr) (o1 : Addr) : entryFrame m #[(.ref o0), (.ref o1), (.int (0 : Int32)), (.int (2 : Int32))] 4 = (mkF m 0 #[.val (.ref o0), .val (.ref o1), .val (.int (0 : Int32)), .val (.int (2 : Int32))] []) := by first | (simp [entryFrame, mkF, argsToLocals, Value.category]; done) | rfl
def Q18_2 (Z : State) (o0 : Addr) (o1 : Addr) (kt : ClassId) (ft : Int32 → Value) (c0 : Int32) (c1 : Int32) (zc : Int32) (zf : Value) (u3 : Value) (u4 : Value) (h0 : Heap) (n0 : Nat) (v : Option Value) (h : Heap) (L : List Loc) : Prop := ∃ b2_0 : Addr, ∃ k2_0 : ClassId, v = none ∧ Fr n0 L ∧ Keep h0 h [o0] ∧ KF Z h0 h [(o0, Jvm.RoadKit.slotOf Z cB "coder" "B"), (o0, Jvm.RoadKit.slotOf Z cB "value" "[B")] ∧ LE.le (α := Nat) h0.size b2_0 ∧ LT.lt (α := Nat) b2_0 h.size ∧ Fld Z h o0 cB "coder" "B" (.int (nar .byte (nar .byte z0))) ∧ Fld Z h o0 cB "value" "[B" (.ref b2_0) ∧ Arv Z h b2_0 k2_0 .byte z2 [(.int (nar .byte (c0.toInt8.toInt32))), (.int (nar .byte (c1.toInt8.toInt32)))] (.int z0)
theorem rm18_2 (l : Launch) (Z : State) (a0 : Array Value) (hw : ∀ d ∈ tables_1, d.before a0 Z = true) (ws : List Jvm.Cond) (o0 : Addr) (o1 : Addr) (kt : ClassId) (ft : Int32 → Value) (c0 : Int32) (c1 : Int32) (zc : Int32) (zf : Value) (u3 : Value) (u4 : Value) (h0 : Heap) (n0 : Nat) (Z0 : n0 ≤ h0.size) (B_t : Arf Z h0 o1 kt .char z1024 ft) (hr0 : ft z0 = .int c0) (hr1 : ft z1 = .int c1) (S_COMPACT : Sta Z Z.heap cB "COMPACT_STRINGS" "Z" (.int zc)) (hcs : ¬ (zc = z0)) (S_F : Sta Z Z.heap cE "SIOOBE_FORMATTER" "Ljava/util/function/BiFunction;" zf) (hv_zf : zf.isRef = true) (Ol : Old Z n0 h0) (F_coder_o0 : Fld Z h0 o0 cB "coder" "B" u3) (E_o0 : Exa Z h0 o0 cB) (g_o0 : n0 ≤ o0) (F_value_o0 : Fld Z h0 o0 cB "value" "[B" u4) (hle0 : ¬ (z255 < c0)) (hle1 : ¬ (z255 < c1)) :
    MetFree l (⟨cB, "<init>", "([CII)V"⟩ : MethodName) (head1 (Jvm.Cond.code (⟨cB, "<init>", "([CII)V"⟩ : MethodName) jdk_42_method_4_code 4 none :: ws) ({ frames := 3, cells := 1, slots := 2, locals := 52 } : Room)) (fun a U => a = #[(.ref o0), (.ref o1), (.int z0), (.int z2)] ∧ Z.Warmed39 U.vm ∧ U.heap = h0) (fun _ _ _ _ _ => True) (fun _ U o U' => ∃ v L, o = .returned v ∧ Q18_2 Z o0 o1 kt ft c0 c1 zc zf u3 u4 h0 n0 v U'.heap L ∧ FrameEnd U o U' L ({ frames := 3, cells := 1, slots := 2, locals := 52 } : Room).cells ({ frames := 3, cells := 1, slots := 2, locals := 52 } : Room).slots) := by
  refine MetFree.of_bodySF (plainFor_of_name pn_18) hisR ?_
  intro p e s m args below meth c s₁ Bd hml0 hP hK
  obtain ⟨rfl, hZ, hh⟩ := hP
  have hx := Bd.exec
  have hby := Bd.bytes
  have hml : c.maxLocals = 4 := hml0
  have hown : s.vm.findClass cB = some m.cls := findClass_of_methodNamed Bd.named
  have hnm := (name_of_methodNamed Bd.named Bd.method).1
  have hrt := Bd.returns
  have hlk := Bd.notSynchronized
  have X0 : Stand p l e ({ frames := 3, cells := 1, slots := 2, locals := 52 } : Room) s m #[(.ref o0), (.ref o1), (.int z0), (.int z2)] below meth c s₁ [] 0 0 := Stand.of_body Bd
  have e0 : s₁.heap = h0 := by rw [← hh, Bd.state]; rfl
  have N0 := Fr.nil n0
  have lt_B_t : LT.lt (α := Nat) o1 h0.size := B_t.lt
  have lt_F_coder_o0 : LT.lt (α := Nat) o0 h0.size := F_coder_o0.lt
  show Go p e below s 1 2 (Q18_2 Z o0 o1 kt ft c0 c1 zc zf u3 u4 h0 n0) (s₁.setTop (entryFrame m #[(.ref o0), (.ref o1), (.int z0), (.int z2)] 4))
  rw [ef_18_2 m o0 o1]
  refine Go.pre (st' := s₁.setTop (mkF m 7 #[sR o0, sR o1, sI z0, sI z2] [(.int z2), (.int z0), (.ref o1), (.int z2), (.int z0), (.ref o1), (.ref o0)])) (fun target kt => ?_) ?_
  · refine XS.aloadN X0.here hx rfl (hb hby d18_0) rfl rfl ?_
    refine XS.aloadN X0.here hx rfl (hb hby d18_1) rfl rfl ?_
    refine XS.iloadN X0.here hx rfl (hb hby d18_2) rfl ?_
    refine XS.iloadN X0.here hx rfl (hb hby d18_3) rfl ?_
    refine XS.aloadN X0.here hx rfl (hb hby d18_4) rfl rfl ?_
    refine XS.iloadN X0.here hx rfl (hb hby d18_5) rfl ?_
    refine XS.iloadN X0.here hx rfl (hb hby d18_6) rfl ?_
    exact kt
  obtain ⟨_, _, ⟨T1, L1, k1, n1⟩, -, X1, ⟨Lc1, hQ1, l1, y1, z1⟩, st1⟩ := Jvm.LawKit.callS X0 hx (y := (⟨cB, "rangeCheck", "([CII)Ljava/lang/Void;"⟩ : MethodName)) hown (mvT hZ (ow hw 116 rfl)) (mvT hZ (ow hw 117 rfl)) (mvT hZ (ow hw 2 rfl)) (mvT hZ (ow hw 118 rfl)) (by decide) (backOf (W := 4) (rm19_2 l Z a0 hw [] o1 kt ft zf h0 n0 (by omega) B_t S_F hv_zf Ol) hZ (ow hw 118 rfl) (ow hw 2 rfl) (by decide) (by decide)) (g := (mkF m 7 #[sR o0, sR o1, sI z0, sI z2] [(.int z2), (.int z0), (.ref o1), (.int z2), (.int z0), (.ref o1), (.ref o0)])) rfl (by rw [hml]; rfl) (argsL := [(.ref o1), (.int z0), (.int z2)]) (rest := [(.int z2), (.int z0), (.ref o1), (.ref o0)]) (lenOf pd18_2_0 rfl) rfl (le0 rfl) (hb hby d18_7) (fun vm₁ hvm => ⟨rfl, e0, (by decide : 0 + 0 ≤ _), (by decide : 0 + 0 ≤ _)⟩)
  dsimp only [Pt.U, Pt.locs, Pt.cells, Pt.slots] at X1 l1 y1 z1 st1 hQ1
  subst l1 y1 z1
  obtain ⟨rfl, N1q, e1⟩ := hQ1
  have N1 := Fr.app N0 N1q
  refine Go.pre st1 ?_
  obtain ⟨_, _, ⟨T2, L2, k2, n2⟩, -, X2, ⟨Lc2, hQ2, l2, y2, z2⟩, st2⟩ := X1.specialBack hx (y := (⟨cB, "<init>", "([CIILjava/lang/Void;)V"⟩ : MethodName)) rfl hown (mvT hZ (ow hw 127 rfl)) (mvT hZ (ow hw 128 rfl)) (mvT hZ (ow hw 129 rfl)) (by decide) (backOf (W := 0) (rm22_2 l Z a0 hw [] o0 o1 kt ft c0 c1 zc u3 u4 h0 n0 (by omega) B_t hr0 hr1 S_COMPACT Ol F_coder_o0 E_o0 (by omega) F_value_o0 hle0 hle1 hcs) hZ (ow hw 129 rfl) (ow hw 2 rfl) (by decide) (by decide)) (g := (mkF m 10 #[sR o0, sR o1, sI z0, sI z2] [.null, (.int z2), (.int z0), (.ref o1), (.ref o0)])) rfl (by rw [hml]; rfl) (Steps.refl _) (a := o0) (argsL := [(.ref o1), (.int z0), (.int z2), .null]) (rest := []) (lenOf pd18_2_1 rfl) rfl (le0 rfl) (hb hby d18_10) (fun vm₁ hvm => ⟨rfl, e1, (by decide : 0 + 1 ≤ _), (by decide : 0 + 2 ≤ _)⟩)
  dsimp only [Pt.U, Pt.locs, Pt.cells, Pt.slots] at X2 l2 y2 z2 st2 hQ2
  subst l2 y2 z2
  obtain ⟨b2_0, k2_0, rfl, N2q, K2, KF2, gb2_0, ltb2_0, Y2_0, Y2_1, Y2_2⟩ := hQ2
  have sz2 : h0.size ≤ T2.heap.size := K2.1
  have N2 := Fr.app N1 N2q
  refine Go.trans st2 ?_
  exact Go.ret0 X2 hx hlk hrt (hb hby d18_13) (by decide) (by decide) (by exact ⟨b2_0, k2_0, rfl, N2, ((Keep.refl h0 [o0]).trans K2 (allS (Or.inl (List.mem_of_getElem? (i := 0) rfl)) all0)), ((KF.refl Z h0 [(o0, Jvm.RoadKit.slotOf Z cB "coder" "B"), (o0, Jvm.RoadKit.slotOf Z cB "value" "[B")]).trans KF2 (pallS (Or.inl (List.mem_of_getElem? (i := 0) rfl)) (pallS (Or.inl (List.mem_of_getElem? (i := 1) rfl)) pall0))), by omega, by omega, Y2_0, Y2_1, Y2_2⟩)
/-! Attributes.value (16_2) -/
theorem pd16_2_0 : parseMethodDescriptor "(I)I" = some ⟨[.int], some .int⟩ := by decide +kernel
theorem pd16_2_1 : parseMethodDescriptor "([CII)V" = some ⟨[(.array .char), .int, .int], none⟩ := by decide +kernel
theorem ef_16_2 (m : MethodId) (o0 : Addr) : entryFrame m #[(.ref o0), (.int (0 : Int32))] 3 = (mkF m 0 #[.val (.ref o0), .val (.int (0 : Int32)), .unset] []) := by first | (simp [entryFrame, mkF, argsToLocals, Value.category]; done) | rfl
def Q16_2 (Z : State) (o0 : Addr) (an : Addr) (kan : ClassId) (fan : Int32 → Value) (av : Addr) (kav : ClassId) (fav : Int32 → Value) (ae : Addr) (kae : ClassId) (fae : Int32 → Value) (tx : Addr) (ktx : ClassId) (ftx : Int32 → Value) (us : Value) (ut : Value) (c0 : Int32) (c1 : Int32) (zc : Int32) (zf : Value) (h0 : Heap) (n0 : Nat) (v : Option Value) (h : Heap) (L : List Loc) : Prop := ∃ b5 : Addr, ∃ b12_0 : Addr, ∃ k12_0 : ClassId, v = some (.ref b5) ∧ Fr n0 L ∧ Keep h0 h [av] ∧ KF Z h0 h [(av, (z0).toNatClampNeg)] ∧ LE.le (α := Nat) h0.size b5 ∧ LT.lt (α := Nat) b5 h.size ∧ LE.le (α := Nat) h0.size b12_0 ∧ LT.lt (α := Nat) b12_0 h.size ∧ LT.lt (α := Nat) b5 b12_0 ∧ Arf Z h av kav (.object cB) z16 (own_upd fav z0 (.ref b5)) ∧ Exa Z h b5 cB ∧ Fld Z h b5 cB "hash" "I" (.int z0) ∧ Fld Z h b5 cB "hashIsZero" "Z" (.int z0) ∧ Fld Z h b5 cB "coder" "B" (.int (nar .byte (nar .byte z0))) ∧ Fld Z h b5 cB "value" "[B" (.ref b12_0) ∧ Arv Z h b12_0 k12_0 .byte z2 [(.int (nar .byte (c0.toInt8.toInt32))), (.int (nar .byte (c1.toInt8.toInt32)))] (.int z0)
theorem rm16_2 (l : Launch) (Z : State) (a0 : Array Value) (hw : ∀ d ∈ tables_1, d.before a0 Z = true) (ws : List Jvm.Cond) (o0 : Addr) (an : Addr) (kan : ClassId) (fan : Int32 → Value) (av : Addr) (kav : ClassId) (fav : Int32 → Value) (ae : Addr) (kae : ClassId) (fae : Int32 → Value) (tx : Addr) (ktx : ClassId) (ftx : Int32 → Value) (us : Value) (ut : Value) (c0 : Int32) (c1 : Int32) (zc : Int32) (zf : Value) (h0 : Heap) (n0 : Nat) (Z0 : n0 ≤ h0.size) (E_o0 : Exa Z h0 o0 cA) (F_se : Fld Z h0 o0 cA "size" "I" (.int z1)) (F_sd : Fld Z h0 o0 cA "specified" "I" us) (F_th : Fld Z h0 o0 cA "textLength" "I" ut) (F_ix : Fld Z h0 o0 cA "index" "Ljava/util/Map;" .null) (Fan : Fld Z h0 o0 cA "names" cD (.ref an)) (B_an : Arf Z h0 an kan (.object cB) z16 fan) (Fav : Fld Z h0 o0 cA "values" cD (.ref av)) (B_av : Arf Z h0 av kav (.object cB) z16 fav) (Fae : Fld Z h0 o0 cA "ends" "[I" (.ref ae)) (B_ae : Arf Z h0 ae kae .int z16 fae) (Ftx : Fld Z h0 o0 cA "text" "[C" (.ref tx)) (B_tx : Arf Z h0 tx ktx .char z1024 ftx) (O_an : Ovr Z kan cB) (O_av : Ovr Z kav cB) (n_o0_an : o0 ≠ an) (n_o0_av : o0 ≠ av) (n_o0_ae : o0 ≠ ae) (n_o0_tx : o0 ≠ tx) (n_an_av : an ≠ av) (n_an_ae : an ≠ ae) (n_av_ae : av ≠ ae) (n_an_tx : an ≠ tx) (n_av_tx : av ≠ tx) (n_ae_tx : ae ≠ tx) (hrv : fav z0 = .null) (hre : fae z0 = .int z2) (hr0 : ftx z0 = .int c0) (hr1 : ftx z1 = .int c1) (S_COMPACT : Sta Z Z.heap cB "COMPACT_STRINGS" "Z" (.int zc)) (hcs : ¬ (zc = z0)) (S_F : Sta Z Z.heap cE "SIOOBE_FORMATTER" "Ljava/util/function/BiFunction;" zf) (hv_zf : zf.isRef = true) (Ol : Old Z n0 h0) (g_av : n0 ≤ av) (hle0 : ¬ (z255 < c0)) (hle1 : ¬ (z255 < c1)) :
    MetFree l (⟨cA, "value", "(I)Ljava/lang/String;"⟩ : MethodName) (head1 (Jvm.Cond.code (⟨cA, "value", "(I)Ljava/lang/String;"⟩ : MethodName) prog_64_method_6_code 3 (some (.object cB)) :: ws) ({ frames := 4, cells := 2, slots := 6, locals := 70 } : Room)) (fun a U => a = #[(.ref o0), (.int z0)] ∧ Z.Warmed39 U.vm ∧ U.heap = h0) (fun _ _ _ _ _ => True) (fun _ U o U' => ∃ v L, o = .returned v ∧ Q16_2 Z o0 an kan fan av kav fav ae kae fae tx ktx ftx us ut c0 c1 zc zf h0 n0 v U'.heap L ∧ FrameEnd U o U' L ({ frames := 4, cells := 2, slots := 6, locals := 70 } : Room).cells ({ frames := 4, cells := 2, slots := 6, locals := 70 } : Room).slots) := by
  refine MetFree.of_bodySF (plainFor_of_name pn_16) hisR ?_
  intro p e s m args below meth c s₁ Bd hml0 hP hK
  obtain ⟨rfl, hZ, hh⟩ := hP
  have hx := Bd.exec
  have hby := Bd.bytes
  have hml : c.maxLocals = 3 := hml0
  have hown : s.vm.findClass cA = some m.cls := findClass_of_methodNamed Bd.named
  have hnm := (name_of_methodNamed Bd.named Bd.method).1
  have hrt := Bd.returns
  have hlk := Bd.notSynchronized
  have X0 : Stand p l e ({ frames := 4, cells := 2, slots := 6, locals := 70 } : Room) s m #[(.ref o0), (.int z0)] below meth c s₁ [] 0 0 := Stand.of_body Bd
  have e0 : s₁.heap = h0 := by rw [← hh, Bd.state]; rfl
  have N0 := Fr.nil n0
  have lt_E_o0 : LT.lt (α := Nat) o0 h0.size := E_o0.lt
  have lt_B_an : LT.lt (α := Nat) an h0.size := B_an.lt
  have lt_B_av : LT.lt (α := Nat) av h0.size := B_av.lt
  have lt_B_ae : LT.lt (α := Nat) ae h0.size := B_ae.lt
  have lt_B_tx : LT.lt (α := Nat) tx h0.size := B_tx.lt
  show Go p e below s 2 6 (Q16_2 Z o0 an kan fan av kav fav ae kae fae tx ktx ftx us ut c0 c1 zc zf h0 n0) (s₁.setTop (entryFrame m #[(.ref o0), (.int z0)] 3))
  rw [ef_16_2 m o0]
  refine Go.pre (st' := s₁.setTop (mkF m 1 #[sR o0, sI z0, sU] [(.ref o0)])) (fun target kt => ?_) ?_
  · refine XS.aloadN X0.here hx rfl (hb hby d16_0) rfl rfl ?_
    exact kt
  obtain ⟨T1, X1, e1, st1⟩ := getF X0 hx hZ hown (host := "") (Or.inl (ow hw 38 rfl)) Via.refl e0 Fav (g := (mkF m 1 #[sR o0, sI z0, sU] [(.ref o0)])) rfl rfl (hb hby d16_1)
  refine Go.pre st1 ?_
  refine Go.pre (st' := T1.setTop (mkF m 6 #[sR o0, sI z0, sU] [(.int z0), (.ref o0), (.ref av)])) (fun target kt => ?_) ?_
  · refine XS.aloadN X1.here hx rfl (hb hby d16_4) rfl rfl ?_
    refine XS.iloadN X1.here hx rfl (hb hby d16_5) rfl ?_
    exact kt
  obtain ⟨cq2, q2, q2'⟩ := E_o0.cell
  obtain ⟨_, _, ⟨T2, L2, k2, n2⟩, -, X2, ⟨Lc2, hQ2, l2, y2, z2⟩, st2⟩ := X1.privateBack hx (y := (⟨cA, "checked", "(I)I"⟩ : MethodName)) hown (mvT hZ (ow hw 109 rfl)) (mvT hZ (ow hw 110 rfl)) (mvT hZ (selects_private (y := (⟨cA, "checked", "(I)I"⟩ : MethodName)) (ow hw 28 rfl) (ow hw 111 rfl) (ow hw 110 rfl))) (Cond.privateMethod_at (mvP hZ (ow hw 111 rfl) (args := #[]))) (mvT hZ (ow hw 112 rfl)) (by decide) (backOf (W := 1) (rm17 l Z a0 hw [] o0 h0 n0 (by omega) F_se) hZ (ow hw 112 rfl) (ow hw 29 rfl) (by decide) (by decide)) (g := (mkF m 6 #[sR o0, sI z0, sU] [(.int z0), (.ref o0), (.ref av)])) rfl (by rw [hml]; rfl) (Steps.refl _) (a := o0) (by rw [e1]; exact q2) q2' (argsL := [(.int z0)]) (rest := [(.ref av)]) (lenOf pd16_2_0 rfl) rfl (le0 rfl) (hb hby d16_6) (fun vm₁ hvm => ⟨rfl, e1, (by decide : 0 + 0 ≤ _), (by decide : 0 + 0 ≤ _)⟩)
  dsimp only [Pt.U, Pt.locs, Pt.cells, Pt.slots] at X2 l2 y2 z2 st2 hQ2
  subst l2 y2 z2
  obtain ⟨rfl, N2q, e2⟩ := hQ2
  have N2 := Fr.app N0 N2q
  refine Go.trans st2 ?_
  obtain ⟨cl3, Ar3, q3, Sz3, Nn3, Hs3⟩ := id B_av
  have in3 : ¬ (z0 < 0 ∨ cl3.slots.size ≤ (z0).toNatClampNeg) := by rw [Sz3]; exact (by decide)
  have at3 : cl3.slots[(z0).toNatClampNeg]? = some .null := (Hs3 _ in3).1.trans (congrArg some hrv)
  refine Go.pre (X2.aaload hx (j := z0) (v := .null) (by rw [e2]; exact Ar3.1) (State.isArrayOf_alike hZ.alike Ar3.2.1) rfl Ar3.2.2 in3 at3 (g := (mkF m 9 #[sR o0, sI z0, sU] [(.int z0), (.ref av)])) rfl rfl (hb hby d16_9)) ?_
  refine Go.pre (st' := T2.setTop (mkF m 31 #[sR o0, sI z0, sI z0] [(.ref o0)])) (fun target kt => ?_) ?_
  · refine XS.ifnonnullNo X2.here hx rfl (hb hby d16_10) rfl ?_
    refine XS.iloadN X2.here hx rfl (hb hby d16_13) rfl ?_
    refine XS.ifNo X2.here hx rfl (hb hby d16_14) rfl ((if0 _ _).trans (teq (by decide)).2) ?_
    refine XS.iconst X2.here hx rfl (hb hby d16_17) ?_
    refine XS.goto X2.here hx rfl (pc0 := 18) (pc' := 29) rfl (hb hby d16_18) (by decide) (by decide) ?_
    refine XS.istoreN X2.here hx rfl (hb hby d16_29) rfl (l' := #[.val (.ref o0), .val (.int z0), .val (.int z0)]) rfl ?_
    refine XS.aloadN X2.here hx rfl (hb hby d16_30) rfl rfl ?_
    exact kt
  obtain ⟨T4, X4, e4, st4⟩ := getF X2 hx hZ hown (host := "") (Or.inl (ow hw 38 rfl)) Via.refl e2 Fav (g := (mkF m 31 #[sR o0, sI z0, sI z0] [(.ref o0)])) rfl rfl (hb hby d16_31)
  refine Go.pre st4 ?_
  refine Go.pre (st' := T4.setTop (mkF m 35 #[sR o0, sI z0, sI z0] [(.int z0), (.ref av)])) (fun target kt => ?_) ?_
  · refine XS.iloadN X4.here hx rfl (hb hby d16_34) rfl ?_
    exact kt
  obtain ⟨T5, h5, X5, e5, E5, A5, D5, -, st5⟩ := newO X4 hx hZ hown (ow hw 34 rfl) (ow hw 10 rfl) (ow hw 2 rfl) e4 (g := (mkF m 35 #[sR o0, sI z0, sI z0] [(.int z0), (.ref av)])) rfl (hb hby d16_35) (by decide) (by decide)
  obtain ⟨b5, g5⟩ : ∃ z, z = h0.size := ⟨_, rfl⟩
  rw [← g5] at A5 D5 st5
  have sz5 : h0.size ≤ h5.size := E5.1
  have lt5 : b5 < h5.size := A5.lt
  have F5_value : Fld Z h5 b5 cB "value" "[B" .null := D5 (Or.inr (ow hw 23 rfl)) (ty := (.array .byte)) (by decide)
  have F5_coder : Fld Z h5 b5 cB "coder" "B" (.int z0) := D5 (Or.inr (ow hw 25 rfl)) (ty := .byte) (by decide)
  have F5_hash : Fld Z h5 b5 cB "hash" "I" (.int z0) := D5 (Or.inl (ow hw 142 rfl)) (ty := .int) (by decide)
  have F5_hashIsZero : Fld Z h5 b5 cB "hashIsZero" "Z" (.int z0) := D5 (Or.inl (ow hw 144 rfl)) (ty := .boolean) (by decide)
  refine Go.pre st5 ?_
  refine Go.pre (st' := T5.setTop (mkF m 40 #[sR o0, sI z0, sI z0] [(.ref o0), (.ref b5), (.ref b5), (.int z0), (.ref av)])) (fun target kt => ?_) ?_
  · refine XS.dup X5.here hx rfl (hb hby d16_38) rfl rfl ?_
    refine XS.aloadN X5.here hx rfl (hb hby d16_39) rfl rfl ?_
    exact kt
  have Y6 := (Ftx.ext E5)
  obtain ⟨T7, X7, e7, st7⟩ := getF X5 hx hZ hown (host := "") (Or.inl (ow hw 43 rfl)) Via.refl e5 Y6 (g := (mkF m 40 #[sR o0, sI z0, sI z0] [(.ref o0), (.ref b5), (.ref b5), (.int z0), (.ref av)])) rfl rfl (hb hby d16_40)
  refine Go.pre st7 ?_
  refine Go.pre (st' := T7.setTop (mkF m 45 #[sR o0, sI z0, sI z0] [(.ref o0), (.int z0), (.ref tx), (.ref b5), (.ref b5), (.int z0), (.ref av)])) (fun target kt => ?_) ?_
  · refine XS.iloadN X7.here hx rfl (hb hby d16_43) rfl ?_
    refine XS.aloadN X7.here hx rfl (hb hby d16_44) rfl rfl ?_
    exact kt
  have Y8 := (Fae.ext E5)
  obtain ⟨T9, X9, e9, st9⟩ := getF X7 hx hZ hown (host := "") (Or.inl (ow hw 41 rfl)) Via.refl e7 Y8 (g := (mkF m 45 #[sR o0, sI z0, sI z0] [(.ref o0), (.int z0), (.ref tx), (.ref b5), (.ref b5), (.int z0), (.ref av)])) rfl rfl (hb hby d16_45)
  refine Go.pre st9 ?_
  refine Go.pre (st' := T9.setTop (mkF m 49 #[sR o0, sI z0, sI z0] [(.int z0), (.ref ae), (.int z0), (.ref tx), (.ref b5), (.ref b5), (.int z0), (.ref av)])) (fun target kt => ?_) ?_
  · refine XS.iloadN X9.here hx rfl (hb hby d16_48) rfl ?_
    exact kt
  have Y10 := (B_ae.ext E5)
  obtain ⟨cl11, Ar11, q11, Sz11, Nn11, Hs11⟩ := id Y10
  have in11 : ¬ (z0 < 0 ∨ cl11.slots.size ≤ (z0).toNatClampNeg) := by rw [Sz11]; exact (by decide)
  have at11 : cl11.slots[(z0).toNatClampNeg]? = some (.int z2) := (Hs11 _ in11).1.trans (congrArg some hre)
  refine Go.pre (X9.iaload hx (j := z0) (v := (.int z2)) (by rw [e9]; exact Ar11.1) (State.isArrayOf_alike hZ.alike Ar11.2.1) Ar11.2.2 in11 at11 (g := (mkF m 49 #[sR o0, sI z0, sI z0] [(.int z0), (.ref ae), (.int z0), (.ref tx), (.ref b5), (.ref b5), (.int z0), (.ref av)])) rfl rfl (hb hby d16_49)) ?_
  refine Go.pre (st' := T9.setTop (mkF m 52 #[sR o0, sI z0, sI z0] [(.int z2), (.int z0), (.ref tx), (.ref b5), (.ref b5), (.int z0), (.ref av)])) (fun target kt => ?_) ?_
  · refine XS.iloadN X9.here hx rfl (hb hby d16_50) rfl ?_
    refine XS.isub X9.here hx rfl (hb hby d16_51) rfl ?_
    exact kt
  have Y13 := (B_tx.ext E5)
  have Y14 := (Ol.ext E5)
  obtain ⟨_, _, ⟨T12, L12, k12, n12⟩, -, X12, ⟨Lc12, hQ12, l12, y12, z12⟩, st12⟩ := X9.specialBack hx (y := (⟨cB, "<init>", "([CII)V"⟩ : MethodName)) rfl hown (mvT hZ (ow hw 113 rfl)) (mvT hZ (ow hw 114 rfl)) (mvT hZ (ow hw 115 rfl)) (by decide) (backOf (W := 3) (rm18_2 l Z a0 hw [] b5 tx ktx ftx c0 c1 zc zf (.int z0) .null h5 n0 (by omega) Y13 hr0 hr1 S_COMPACT hcs S_F hv_zf Y14 F5_coder A5 (by omega) F5_value hle0 hle1) hZ (ow hw 115 rfl) (ow hw 2 rfl) (by decide) (by decide)) (g := (mkF m 52 #[sR o0, sI z0, sI z0] [(.int z2), (.int z0), (.ref tx), (.ref b5), (.ref b5), (.int z0), (.ref av)])) rfl (by rw [hml]; rfl) (Steps.refl _) (a := b5) (argsL := [(.ref tx), (.int z0), (.int z2)]) (rest := [(.ref b5), (.int z0), (.ref av)]) (lenOf pd16_2_1 rfl) rfl (le0 rfl) (hb hby d16_52) (fun vm₁ hvm => ⟨rfl, e9, (by decide : 1 + 1 ≤ _), (by decide : 4 + 2 ≤ _)⟩)
  dsimp only [Pt.U, Pt.locs, Pt.cells, Pt.slots] at X12 l12 y12 z12 st12 hQ12
  subst l12 y12 z12
  obtain ⟨b12_0, k12_0, rfl, N12q, K12, KF12, gb12_0, ltb12_0, Y12_0, Y12_1, Y12_2⟩ := hQ12
  have sz12 : h5.size ≤ T12.heap.size := K12.1
  have N12 := Fr.app N2 N12q
  refine Go.trans st12 ?_
  have Y15 := ((B_av.ext E5).keep K12 (ninS (neN (by omega)) nin0))
  obtain ⟨cl16, Ar16, q16, Sz16, Nn16, Hs16⟩ := id Y15
  have in16 : ¬ (z0 < 0 ∨ cl16.slots.size ≤ (z0).toNatClampNeg) := by rw [Sz16]; exact (by decide)
  have Y17 := (A5.keep K12)
  obtain ⟨T16, h16, X16, e16, W16, st16⟩ := stR X12 hx hZ rfl Ar16 (j := z0) in16 rfl (Sto.ofV Ar16 q16 O_av (Ins.self Y17)) (g := (mkF m 55 #[sR o0, sI z0, sI z0] [(.ref b5), (.int z0), (.ref av)])) rfl rfl (hb hby d16_55)
  have sz16 : T12.heap.size ≤ h16.size := (Keep.of_wr W16).1
  have V16 : Arf Z h16 av kav (.object cB) z16 (own_upd fav z0 (.ref b5)) := Arf.set Ar16 q16 Sz16 Nn16 Hs16 rfl in16 W16
  have N16 := Fr.snoc X16 N12 (by omega)
  refine Go.pre st16 ?_
  refine Go.pre (st' := T16.setTop (mkF m 57 #[sR o0, sI z0, sI z0] [(.ref o0)])) (fun target kt => ?_) ?_
  · refine XS.aloadN X16.here hx rfl (hb hby d16_56) rfl rfl ?_
    exact kt
  have Y18 := (((Fav.ext E5).keep K12 (ninS (neN (by omega)) nin0)).other W16 (Or.inl n_o0_av))
  obtain ⟨T19, X19, e19, st19⟩ := getF X16 hx hZ hown (host := "") (Or.inl (ow hw 38 rfl)) Via.refl e16 Y18 (g := (mkF m 57 #[sR o0, sI z0, sI z0] [(.ref o0)])) rfl rfl (hb hby d16_57)
  refine Go.pre st19 ?_
  refine Go.pre (st' := T19.setTop (mkF m 61 #[sR o0, sI z0, sI z0] [(.int z0), (.ref av)])) (fun target kt => ?_) ?_
  · refine XS.iloadN X19.here hx rfl (hb hby d16_60) rfl ?_
    exact kt
  obtain ⟨cl20, Ar20, q20, Sz20, Nn20, Hs20⟩ := id V16
  have in20 : ¬ (z0 < 0 ∨ cl20.slots.size ≤ (z0).toNatClampNeg) := by rw [Sz20]; exact (by decide)
  have at20 : cl20.slots[(z0).toNatClampNeg]? = some (.ref b5) := (Hs20 _ in20).1.trans (congrArg some (own_hit _ _ _))
  refine Go.pre (X19.aaload hx (j := z0) (v := (.ref b5)) (by rw [e19]; exact Ar20.1) (State.isArrayOf_alike hZ.alike Ar20.2.1) rfl Ar20.2.2 in20 at20 (g := (mkF m 61 #[sR o0, sI z0, sI z0] [(.int z0), (.ref av)])) rfl rfl (hb hby d16_61)) ?_
  have Y21 := (Y17.wr W16)
  have Y22 := ((KF12 _ _ _ _ _ F5_hash (pallS (Or.inr (slot_ne (Or.inl (ow hw 142 rfl)) (Or.inr (ow hw 25 rfl)) (by decide) (t := .int) (t' := .byte) (by decide) (by decide))) (pallS (Or.inr (slot_ne (Or.inl (ow hw 142 rfl)) (Or.inr (ow hw 23 rfl)) (by decide) (t := .int) (t' := (.array .byte)) (by decide) (by decide))) pall0))).other W16 (Or.inl (neN (by omega))))
  have Y23 := ((KF12 _ _ _ _ _ F5_hashIsZero (pallS (Or.inr (slot_ne (Or.inl (ow hw 144 rfl)) (Or.inr (ow hw 25 rfl)) (by decide) (t := .boolean) (t' := .byte) (by decide) (by decide))) (pallS (Or.inr (slot_ne (Or.inl (ow hw 144 rfl)) (Or.inr (ow hw 23 rfl)) (by decide) (t := .boolean) (t' := (.array .byte)) (by decide) (by decide))) pall0))).other W16 (Or.inl (neN (by omega))))
  have Y24 := (Y12_0.other W16 (Or.inl (neN (by omega))))
  have Y25 := (Y12_1.other W16 (Or.inl (neN (by omega))))
  have Y26 := (Y12_2.other W16 (neN (by omega)))
  exact Go.retV X19 hx hlk hrt rfl (Or.inr (Or.inr (Or.inr (Or.inr ⟨rfl, rfl, rfl⟩)))) (hb hby d16_62) (by decide) (by decide) (by rw [e19]; exact ⟨b5, b12_0, k12_0, rfl, N16, ((((Keep.refl h0 [av]).ext E5).trans K12 (allS (Or.inr (by omega)) all0)).wr W16 (Or.inl (List.mem_of_getElem? (i := 0) rfl))), ((((KF.refl Z h0 [(av, (z0).toNatClampNeg)]).ext E5).trans KF12 (pallS (Or.inr (by show _ ≤ b5; omega)) (pallS (Or.inr (by show _ ≤ b5; omega)) pall0))).wr W16 (Or.inl (List.mem_of_getElem? (i := 0) rfl))), by omega, by omega, by omega, by omega, by omega, V16, Y21, Y22, Y23, Y24, Y25, Y26⟩)
/-! Attributes.indexOf (23T) -/
theorem d23_0 : decode q29 0 = .ok (.iconst (-1), 1) := by decide +kernel
theorem d23_1 : decode q29 1 = .ok (.istore_n 2, 1) := by decide +kernel
theorem d23_2 : decode q29 2 = .ok (.aload_n 0, 1) := by decide +kernel
theorem d23_3 : decode q29 3 = .ok (.getfield 40, 3) := by decide +kernel
theorem d23_6 : decode q29 6 = .ok (.ifnull 27, 3) := by decide +kernel
theorem d23_33 : decode q29 33 = .ok (.aload_n 1, 1) := by decide +kernel
theorem d23_34 : decode q29 34 = .ok (.invokevirtual 60, 3) := by decide +kernel
theorem d23_37 : decode q29 37 = .ok (.istore_n 3, 1) := by decide +kernel
theorem d23_38 : decode q29 38 = .ok (.iconst 0, 1) := by decide +kernel
theorem d23_39 : decode q29 39 = .ok (.istore 4, 2) := by decide +kernel
theorem d23_41 : decode q29 41 = .ok (.iload 4, 2) := by decide +kernel
theorem d23_43 : decode q29 43 = .ok (.aload_n 0, 1) := by decide +kernel
theorem d23_44 : decode q29 44 = .ok (.getfield 26, 3) := by decide +kernel
theorem d23_47 : decode q29 47 = .ok (.if_icmp .ge 44, 3) := by decide +kernel
theorem d23_50 : decode q29 50 = .ok (.iload_n 2, 1) := by decide +kernel
theorem d23_51 : decode q29 51 = .ok (.ifCond .ge 40, 3) := by decide +kernel
theorem d23_54 : decode q29 54 = .ok (.aload_n 0, 1) := by decide +kernel
theorem d23_55 : decode q29 55 = .ok (.getfield 11, 3) := by decide +kernel
theorem d23_58 : decode q29 58 = .ok (.iload 4, 2) := by decide +kernel
theorem d23_60 : decode q29 60 = .ok (.aaload, 1) := by decide +kernel
theorem d23_61 : decode q29 61 = .ok (.invokevirtual 60, 3) := by decide +kernel
theorem d23_64 : decode q29 64 = .ok (.iload_n 3, 1) := by decide +kernel
theorem d23_65 : decode q29 65 = .ok (.if_icmp .ne 20, 3) := by decide +kernel
theorem d23_68 : decode q29 68 = .ok (.aload_n 0, 1) := by decide +kernel
theorem d23_69 : decode q29 69 = .ok (.getfield 11, 3) := by decide +kernel
theorem d23_72 : decode q29 72 = .ok (.iload 4, 2) := by decide +kernel
theorem d23_74 : decode q29 74 = .ok (.aaload, 1) := by decide +kernel
theorem d23_75 : decode q29 75 = .ok (.aload_n 1, 1) := by decide +kernel
theorem d23_76 : decode q29 76 = .ok (.invokevirtual 63, 3) := by decide +kernel
theorem d23_79 : decode q29 79 = .ok (.ifCond .eq 6, 3) := by decide +kernel
theorem d23_82 : decode q29 82 = .ok (.iload 4, 2) := by decide +kernel
theorem d23_84 : decode q29 84 = .ok (.istore_n 2, 1) := by decide +kernel
theorem d23_85 : decode q29 85 = .ok (.iinc 4 1, 3) := by decide +kernel
theorem d23_88 : decode q29 88 = .ok (.goto (-47), 3) := by decide +kernel
theorem d23_91 : decode q29 91 = .ok (.iload_n 2, 1) := by decide +kernel
theorem d23_92 : decode q29 92 = .ok (.ireturn, 1) := by decide +kernel
theorem pn_23 : plainName "com/example/satzung/satzung/parse/Attributes" = true := by first | (simp [plainName, overriddenIn]; done) | decide +kernel
theorem pd23T_0 : parseMethodDescriptor "()I" = some ⟨[], some .int⟩ := by decide +kernel
theorem pd23T_1 : parseMethodDescriptor "(Ljava/lang/Object;)Z" = some ⟨[(.object "java/lang/Object")], some .boolean⟩ := by decide +kernel
theorem ef_23T (m : MethodId) (o0 : Addr) (o1 : Addr) : entryFrame m #[(.ref o0), (.ref o1)] 5 = (mkF m 0 #[.val (.ref o0), .val (.ref o1), .unset, .unset, .unset] []) := by first | (simp [entryFrame, mkF, argsToLocals, Value.category]; done) | rfl
def Q23T (Z : State) (o0 : Addr) (o1 : Addr) (an : Addr) (kan : ClassId) (fan : Int32 → Value) (av : Addr) (kav : ClassId) (fav : Int32 → Value) (ae : Addr) (kae : ClassId) (fae : Int32 → Value) (tx : Addr) (ktx : ClassId) (ftx : Int32 → Value) (us : Value) (ut : Value) (r2 : Addr) (zc : Int32) (ga : Int32) (va : Addr) (ka : ClassId) (x0 : Int32) (gb : Int32) (vb : Addr) (kb : ClassId) (y0 : Int32) (h0 : Heap) (n0 : Nat) (v : Option Value) (h : Heap) (L : List Loc) : Prop := v = some (.int z0) ∧ Fr n0 L ∧ Keep h0 h [o1, r2] ∧ True ∧ Fld Z h o1 cB "coder" "B" (.int ga) ∧ Fld Z h o1 cB "value" "[B" (.ref va) ∧ Fld Z h r2 cB "coder" "B" (.int gb) ∧ Fld Z h r2 cB "value" "[B" (.ref vb)
theorem rm23T (l : Launch) (Z : State) (a0 : Array Value) (hw : ∀ d ∈ tables_1, d.before a0 Z = true) (ws : List Jvm.Cond) (o0 : Addr) (o1 : Addr) (an : Addr) (kan : ClassId) (fan : Int32 → Value) (av : Addr) (kav : ClassId) (fav : Int32 → Value) (ae : Addr) (kae : ClassId) (fae : Int32 → Value) (tx : Addr) (ktx : ClassId) (ftx : Int32 → Value) (us : Value) (ut : Value) (r2 : Addr) (zc : Int32) (ga : Int32) (va : Addr) (ka : ClassId) (x0 : Int32) (gb : Int32) (vb : Addr) (kb : ClassId) (y0 : Int32) (h0 : Heap) (n0 : Nat) (Z0 : n0 ≤ h0.size) (E_o0 : Exa Z h0 o0 cA) (F_se : Fld Z h0 o0 cA "size" "I" (.int z1)) (F_sd : Fld Z h0 o0 cA "specified" "I" us) (F_th : Fld Z h0 o0 cA "textLength" "I" ut) (F_ix : Fld Z h0 o0 cA "index" "Ljava/util/Map;" .null) (Fan : Fld Z h0 o0 cA "names" cD (.ref an)) (B_an : Arf Z h0 an kan (.object cB) z16 fan) (Fav : Fld Z h0 o0 cA "values" cD (.ref av)) (B_av : Arf Z h0 av kav (.object cB) z16 fav) (Fae : Fld Z h0 o0 cA "ends" "[I" (.ref ae)) (B_ae : Arf Z h0 ae kae .int z16 fae) (Ftx : Fld Z h0 o0 cA "text" "[C" (.ref tx)) (B_tx : Arf Z h0 tx ktx .char z1024 ftx) (O_an : Ovr Z kan cB) (O_av : Ovr Z kav cB) (n_o0_an : o0 ≠ an) (n_o0_av : o0 ≠ av) (n_o0_ae : o0 ≠ ae) (n_o0_tx : o0 ≠ tx) (n_an_av : an ≠ av) (n_an_ae : an ≠ ae) (n_av_ae : av ≠ ae) (n_an_tx : an ≠ tx) (n_av_tx : av ≠ tx) (n_ae_tx : ae ≠ tx) (S_COMPACT : Sta Z Z.heap cB "COMPACT_STRINGS" "Z" (.int zc)) (hcs : ¬ (zc = z0)) (E_o1 : Exa Z h0 o1 cB) (F_ca : Fld Z h0 o1 cB "coder" "B" (.int ga)) (F_va : Fld Z h0 o1 cB "value" "[B" (.ref va)) (A_a : Arv Z h0 va ka .byte z1 [(.int x0)] (.int z0)) (F_ha : Fld Z h0 o1 cB "hash" "I" (.int z0)) (F_za : Fld Z h0 o1 cB "hashIsZero" "Z" (.int z0)) (E_r2 : Exa Z h0 r2 cB) (F_cb : Fld Z h0 r2 cB "coder" "B" (.int gb)) (F_vb : Fld Z h0 r2 cB "value" "[B" (.ref vb)) (A_b : Arv Z h0 vb kb .byte z1 [(.int y0)] (.int z0)) (F_hb : Fld Z h0 r2 cB "hash" "I" (.int z0)) (F_zb : Fld Z h0 r2 cB "hashIsZero" "Z" (.int z0)) (n_o1_r2 : o1 ≠ r2) (n_o1_o0 : o1 ≠ o0) (n_o1_an : o1 ≠ an) (n_o1_av : o1 ≠ av) (n_o1_ae : o1 ≠ ae) (n_o1_tx : o1 ≠ tx) (n_o1_va : o1 ≠ va) (n_o1_vb : o1 ≠ vb) (n_r2_o0 : r2 ≠ o0) (n_r2_an : r2 ≠ an) (n_r2_av : r2 ≠ av) (n_r2_ae : r2 ≠ ae) (n_r2_tx : r2 ≠ tx) (n_r2_va : r2 ≠ va) (n_r2_vb : r2 ≠ vb) (hga : ga = z0) (hgb : gb = z0) (hrn : fan z0 = .ref r2) (Ol : Old Z n0 h0) (g_o1 : n0 ≤ o1) (g_r2 : n0 ≤ r2) (hab : y0 = x0) (hc65 : (y0 &&& z255) = (x0 &&& z255)) :
    MetFree l (⟨cA, "indexOf", "(Ljava/lang/String;)I"⟩ : MethodName) (head1 (Jvm.Cond.code (⟨cA, "indexOf", "(Ljava/lang/String;)I"⟩ : MethodName) prog_64_method_7_code 5 (some .int) :: ws) ({ frames := 2, cells := 0, slots := 0, locals := 28 } : Room)) (fun a U => a = #[(.ref o0), (.ref o1)] ∧ Z.Warmed39 U.vm ∧ U.heap = h0) (fun _ _ _ _ _ => True) (fun _ U o U' => ∃ v L, o = .returned v ∧ Q23T Z o0 o1 an kan fan av kav fav ae kae fae tx ktx ftx us ut r2 zc ga va ka x0 gb vb kb y0 h0 n0 v U'.heap L ∧ FrameEnd U o U' L ({ frames := 2, cells := 0, slots := 0, locals := 28 } : Room).cells ({ frames := 2, cells := 0, slots := 0, locals := 28 } : Room).slots) := by
  refine MetFree.of_bodySF (plainFor_of_name pn_23) hisR ?_
  intro p e s m args below meth c s₁ Bd hml0 hP hK
  obtain ⟨rfl, hZ, hh⟩ := hP
  have hx := Bd.exec
  have hby := Bd.bytes
  have hml : c.maxLocals = 5 := hml0
  have hown : s.vm.findClass cA = some m.cls := findClass_of_methodNamed Bd.named
  have hnm := (name_of_methodNamed Bd.named Bd.method).1
  have hrt := Bd.returns
  have hlk := Bd.notSynchronized
  have X0 : Stand p l e ({ frames := 2, cells := 0, slots := 0, locals := 28 } : Room) s m #[(.ref o0), (.ref o1)] below meth c s₁ [] 0 0 := Stand.of_body Bd
  have e0 : s₁.heap = h0 := by rw [← hh, Bd.state]; rfl
  have N0 := Fr.nil n0
  have lt_E_o0 : LT.lt (α := Nat) o0 h0.size := E_o0.lt
  have lt_B_an : LT.lt (α := Nat) an h0.size := B_an.lt
  have lt_B_av : LT.lt (α := Nat) av h0.size := B_av.lt
  have lt_B_ae : LT.lt (α := Nat) ae h0.size := B_ae.lt
  have lt_B_tx : LT.lt (α := Nat) tx h0.size := B_tx.lt
  have lt_E_o1 : LT.lt (α := Nat) o1 h0.size := E_o1.lt
  have lt_A_a : LT.lt (α := Nat) va h0.size := A_a.lt
  have lt_E_r2 : LT.lt (α := Nat) r2 h0.size := E_r2.lt
  have lt_A_b : LT.lt (α := Nat) vb h0.size := A_b.lt
  show Go p e below s 0 0 (Q23T Z o0 o1 an kan fan av kav fav ae kae fae tx ktx ftx us ut r2 zc ga va ka x0 gb vb kb y0 h0 n0) (s₁.setTop (entryFrame m #[(.ref o0), (.ref o1)] 5))
  rw [ef_23T m o0 o1]
  refine Go.pre (st' := s₁.setTop (mkF m 3 #[sR o0, sR o1, sI (-1 : Int32), sU, sU] [(.ref o0)])) (fun target kt => ?_) ?_
  · refine XS.iconst X0.here hx rfl (hb hby d23_0) ?_
    refine XS.istoreN X0.here hx rfl (hb hby d23_1) rfl (l' := #[.val (.ref o0), .val (.ref o1), .val (.int (-1 : Int32)), .unset, .unset]) rfl ?_
    refine XS.aloadN X0.here hx rfl (hb hby d23_2) rfl rfl ?_
    exact kt
  obtain ⟨T1, X1, e1, st1⟩ := getF X0 hx hZ hown (host := "") (Or.inl (ow hw 61 rfl)) Via.refl e0 F_ix (g := (mkF m 3 #[sR o0, sR o1, sI (-1 : Int32), sU, sU] [(.ref o0)])) rfl rfl (hb hby d23_3)
  refine Go.pre st1 ?_
  refine Go.pre (st' := T1.setTop (mkF m 34 #[sR o0, sR o1, sI (-1 : Int32), sU, sU] [(.ref o1)])) (fun target kt => ?_) ?_
  · refine XS.ifnullYes X1.here hx rfl (pc0 := 6) (pc' := 33) rfl (hb hby d23_6) rfl (by decide) (by decide) ?_
    refine XS.aloadN X1.here hx rfl (hb hby d23_33) rfl rfl ?_
    exact kt
  obtain ⟨cq2, kq2, q2a, q2b, q2c⟩ := isOf hZ e1 E_o1
  obtain ⟨_, _, ⟨T2, L2, k2, n2⟩, -, X2, ⟨Lc2, hQ2, l2, y2, z2⟩, st2⟩ := X1.virtualBack hx (y := (⟨cB, "hashCode", "()I"⟩ : MethodName)) (z := (⟨cB, "hashCode", "()I"⟩ : MethodName)) hown (mvT hZ (ow hw 136 rfl)) (mvT hZ (ow hw 137 rfl)) (notFace_of_selects (args := #[]) (mvT hZ (ow hw 139 rfl))) (mvT hZ (ow hw 139 rfl)) (mvT hZ (ow hw 138 rfl)) (by decide) (backOf (W := 0) (rm24 l Z a0 hw [] o1 zc ga va ka x0 h0 n0 (by omega) S_COMPACT hcs E_o1 F_ca F_va A_a F_ha F_za (by first | assumption | decide) Ol (by omega)) hZ (ow hw 140 rfl) (ow hw 2 rfl) (by decide) (by decide)) q2a q2c (g := (mkF m 34 #[sR o0, sR o1, sI (-1 : Int32), sU, sU] [(.ref o1)])) rfl (by rw [hml]; rfl) (Steps.refl _) (argsL := []) (rest := []) (lenOf pd23T_0 rfl) rfl (le0 rfl) (hb hby d23_34) (fun vm₁ hvm => ⟨rfl, e1, (by decide : 0 + 0 ≤ _), (by decide : 0 + 0 ≤ _)⟩)
  dsimp only [Pt.U, Pt.locs, Pt.cells, Pt.slots] at X2 l2 y2 z2 st2 hQ2
  subst l2 y2 z2
  obtain ⟨rfl, N2q, K2, KF2, Y2_0, Y2_1⟩ := hQ2
  have sz2 : h0.size ≤ T2.heap.size := K2.1
  have N2 := Fr.app N0 N2q
  refine Go.trans st2 ?_
  refine Go.pre (st' := T2.setTop (mkF m 44 #[sR o0, sR o1, sI (-1 : Int32), .val (.int (x0 &&& z255)), sI z0] [(.ref o0), (.int z0)])) (fun target kt => ?_) ?_
  · refine XS.istoreN X2.here hx rfl (hb hby d23_37) rfl (l' := #[.val (.ref o0), .val (.ref o1), .val (.int (-1 : Int32)), .val (.int (x0 &&& z255)), .unset]) rfl ?_
    refine XS.iconst X2.here hx rfl (hb hby d23_38) ?_
    refine XS.istore X2.here hx rfl (hb hby d23_39) rfl (l' := #[.val (.ref o0), .val (.ref o1), .val (.int (-1 : Int32)), .val (.int (x0 &&& z255)), .val (.int z0)]) rfl ?_
    refine XS.iload X2.here hx rfl (hb hby d23_41) rfl ?_
    refine XS.aloadN X2.here hx rfl (hb hby d23_43) rfl rfl ?_
    exact kt
  have Y3 := (F_se.keep K2 (ninS (Ne.symm n_o1_o0) nin0))
  obtain ⟨T4, X4, e4, st4⟩ := getF X2 hx hZ hown (host := "") (Or.inl (ow hw 57 rfl)) Via.refl rfl Y3 (g := (mkF m 44 #[sR o0, sR o1, sI (-1 : Int32), .val (.int (x0 &&& z255)), sI z0] [(.ref o0), (.int z0)])) rfl rfl (hb hby d23_44)
  refine Go.pre st4 ?_
  refine Go.pre (st' := T4.setTop (mkF m 55 #[sR o0, sR o1, sI (-1 : Int32), .val (.int (x0 &&& z255)), sI z0] [(.ref o0)])) (fun target kt => ?_) ?_
  · refine XS.icmpNo X4.here hx rfl (hb hby d23_47) rfl (tlt (by decide)).2.1 ?_
    refine XS.iloadN X4.here hx rfl (hb hby d23_50) rfl ?_
    refine XS.ifNo X4.here hx rfl (hb hby d23_51) rfl ((if0 _ _).trans (tlt (by decide)).2.1) ?_
    refine XS.aloadN X4.here hx rfl (hb hby d23_54) rfl rfl ?_
    exact kt
  have Y5 := (Fan.keep K2 (ninS (Ne.symm n_o1_o0) nin0))
  obtain ⟨T6, X6, e6, st6⟩ := getF X4 hx hZ hown (host := "") (Or.inl (ow hw 36 rfl)) Via.refl e4 Y5 (g := (mkF m 55 #[sR o0, sR o1, sI (-1 : Int32), .val (.int (x0 &&& z255)), sI z0] [(.ref o0)])) rfl rfl (hb hby d23_55)
  refine Go.pre st6 ?_
  refine Go.pre (st' := T6.setTop (mkF m 60 #[sR o0, sR o1, sI (-1 : Int32), .val (.int (x0 &&& z255)), sI z0] [(.int z0), (.ref an)])) (fun target kt => ?_) ?_
  · refine XS.iload X6.here hx rfl (hb hby d23_58) rfl ?_
    exact kt
  have Y7 := (B_an.keep K2 (ninS (Ne.symm n_o1_an) nin0))
  obtain ⟨cl8, Ar8, q8, Sz8, Nn8, Hs8⟩ := id Y7
  have in8 : ¬ (z0 < 0 ∨ cl8.slots.size ≤ (z0).toNatClampNeg) := by rw [Sz8]; exact (by decide)
  have at8 : cl8.slots[(z0).toNatClampNeg]? = some (.ref r2) := (Hs8 _ in8).1.trans (congrArg some hrn)
  refine Go.pre (X6.aaload hx (j := z0) (v := (.ref r2)) (by rw [e6]; exact Ar8.1) (State.isArrayOf_alike hZ.alike Ar8.2.1) rfl Ar8.2.2 in8 at8 (g := (mkF m 60 #[sR o0, sR o1, sI (-1 : Int32), .val (.int (x0 &&& z255)), sI z0] [(.int z0), (.ref an)])) rfl rfl (hb hby d23_60)) ?_
  have Y10 := (Ol.keep K2 (allS (by omega) all0))
  have Y11 := (E_r2.keep K2)
  have Y12 := (F_cb.keep K2 (ninS (Ne.symm n_o1_r2) nin0))
  have Y13 := (F_vb.keep K2 (ninS (Ne.symm n_o1_r2) nin0))
  have Y14 := (A_b.keep K2 (ninS (Ne.symm n_o1_vb) nin0))
  have Y15 := (F_hb.keep K2 (ninS (Ne.symm n_o1_r2) nin0))
  have Y16 := (F_zb.keep K2 (ninS (Ne.symm n_o1_r2) nin0))
  obtain ⟨cq9, kq9, q9a, q9b, q9c⟩ := isOf hZ e6 Y11
  obtain ⟨_, _, ⟨T9, L9, k9, n9⟩, -, X9, ⟨Lc9, hQ9, l9, y9, z9⟩, st9⟩ := X6.virtualBack hx (y := (⟨cB, "hashCode", "()I"⟩ : MethodName)) (z := (⟨cB, "hashCode", "()I"⟩ : MethodName)) hown (mvT hZ (ow hw 136 rfl)) (mvT hZ (ow hw 137 rfl)) (notFace_of_selects (args := #[]) (mvT hZ (ow hw 139 rfl))) (mvT hZ (ow hw 139 rfl)) (mvT hZ (ow hw 138 rfl)) (by decide) (backOf (W := 0) (rm24 l Z a0 hw [] r2 zc gb vb kb y0 T2.heap n0 (by omega) S_COMPACT hcs Y11 Y12 Y13 Y14 Y15 Y16 (by first | assumption | decide) Y10 (by omega)) hZ (ow hw 140 rfl) (ow hw 2 rfl) (by decide) (by decide)) q9a q9c (g := (mkF m 61 #[sR o0, sR o1, sI (-1 : Int32), .val (.int (x0 &&& z255)), sI z0] [(.ref r2)])) rfl (by rw [hml]; rfl) (Steps.refl _) (argsL := []) (rest := []) (lenOf pd23T_0 rfl) rfl (le0 rfl) (hb hby d23_61) (fun vm₁ hvm => ⟨rfl, e6, (by decide : 0 + 0 ≤ _), (by decide : 0 + 0 ≤ _)⟩)
  dsimp only [Pt.U, Pt.locs, Pt.cells, Pt.slots] at X9 l9 y9 z9 st9 hQ9
  subst l9 y9 z9
  obtain ⟨rfl, N9q, K9, KF9, Y9_0, Y9_1⟩ := hQ9
  have sz9 : T2.heap.size ≤ T9.heap.size := K9.1
  have N9 := Fr.app N2 N9q
  refine Go.trans st9 ?_
  refine Go.pre (st' := T9.setTop (mkF m 69 #[sR o0, sR o1, sI (-1 : Int32), .val (.int (x0 &&& z255)), sI z0] [(.ref o0)])) (fun target kt => ?_) ?_
  · refine XS.iloadN X9.here hx rfl (hb hby d23_64) rfl ?_
    refine XS.icmpNo X9.here hx rfl (hb hby d23_65) rfl (teq hc65).2 ?_
    refine XS.aloadN X9.here hx rfl (hb hby d23_68) rfl rfl ?_
    exact kt
  have Y17 := (Y5.keep K9 (ninS (Ne.symm n_r2_o0) nin0))
  obtain ⟨T18, X18, e18, st18⟩ := getF X9 hx hZ hown (host := "") (Or.inl (ow hw 36 rfl)) Via.refl rfl Y17 (g := (mkF m 69 #[sR o0, sR o1, sI (-1 : Int32), .val (.int (x0 &&& z255)), sI z0] [(.ref o0)])) rfl rfl (hb hby d23_69)
  refine Go.pre st18 ?_
  refine Go.pre (st' := T18.setTop (mkF m 74 #[sR o0, sR o1, sI (-1 : Int32), .val (.int (x0 &&& z255)), sI z0] [(.int z0), (.ref an)])) (fun target kt => ?_) ?_
  · refine XS.iload X18.here hx rfl (hb hby d23_72) rfl ?_
    exact kt
  have Y19 := (Y7.keep K9 (ninS (Ne.symm n_r2_an) nin0))
  obtain ⟨cl20, Ar20, q20, Sz20, Nn20, Hs20⟩ := id Y19
  have in20 : ¬ (z0 < 0 ∨ cl20.slots.size ≤ (z0).toNatClampNeg) := by rw [Sz20]; exact (by decide)
  have at20 : cl20.slots[(z0).toNatClampNeg]? = some (.ref r2) := (Hs20 _ in20).1.trans (congrArg some hrn)
  refine Go.pre (X18.aaload hx (j := z0) (v := (.ref r2)) (by rw [e18]; exact Ar20.1) (State.isArrayOf_alike hZ.alike Ar20.2.1) rfl Ar20.2.2 in20 at20 (g := (mkF m 74 #[sR o0, sR o1, sI (-1 : Int32), .val (.int (x0 &&& z255)), sI z0] [(.int z0), (.ref an)])) rfl rfl (hb hby d23_74)) ?_
  refine Go.pre (st' := T18.setTop (mkF m 76 #[sR o0, sR o1, sI (-1 : Int32), .val (.int (x0 &&& z255)), sI z0] [(.ref o1), (.ref r2)])) (fun target kt => ?_) ?_
  · refine XS.aloadN X18.here hx rfl (hb hby d23_75) rfl rfl ?_
    exact kt
  have Y22 := (Y10.keep K9 (allS (by omega) all0))
  have Y23 := (Y11.keep K9)
  have Y24 := (Y14.keep K9 (ninS (Ne.symm n_r2_vb) nin0))
  have Y25 := ((E_o1.keep K2).keep K9)
  have Y26 := (Y2_0.keep K9 (ninS n_o1_r2 nin0))
  have Y27 := (Y2_1.keep K9 (ninS n_o1_r2 nin0))
  have Y28 := ((A_a.keep K2 (ninS (Ne.symm n_o1_va) nin0)).keep K9 (ninS (Ne.symm n_r2_va) nin0))
  obtain ⟨cq21, kq21, q21a, q21b, q21c⟩ := isOf hZ e18 Y23
  obtain ⟨_, _, ⟨T21, L21, k21, n21⟩, -, X21, ⟨Lc21, hQ21, l21, y21, z21⟩, st21⟩ := X18.virtualBack hx (y := (⟨cB, "equals", cH⟩ : MethodName)) (z := (⟨cB, "equals", cH⟩ : MethodName)) hown (mvT hZ (ow hw 179 rfl)) (mvT hZ (ow hw 97 rfl)) (notFace_of_selects (args := #[]) (mvT hZ (ow hw 99 rfl))) (mvT hZ (ow hw 99 rfl)) (mvT hZ (ow hw 98 rfl)) (by decide) (backOf (W := 0) (rm14_1T l Z a0 hw [] r2 o1 zc gb vb kb y0 ga va ka x0 T9.heap n0 (by omega) S_COMPACT Y23 Y9_0 Y9_1 Y24 Y25 Y26 Y27 Y28 (Ne.symm n_o1_r2) Y22 hab hcs (hgb.trans hga.symm)) hZ (ow hw 100 rfl) (ow hw 2 rfl) (by decide) (by decide)) q21a q21c (g := (mkF m 76 #[sR o0, sR o1, sI (-1 : Int32), .val (.int (x0 &&& z255)), sI z0] [(.ref o1), (.ref r2)])) rfl (by rw [hml]; rfl) (Steps.refl _) (argsL := [(.ref o1)]) (rest := []) (lenOf pd23T_1 rfl) rfl (le0 rfl) (hb hby d23_76) (fun vm₁ hvm => ⟨rfl, e18, (by decide : 0 + 0 ≤ _), (by decide : 0 + 0 ≤ _)⟩)
  dsimp only [Pt.U, Pt.locs, Pt.cells, Pt.slots] at X21 l21 y21 z21 st21 hQ21
  subst l21 y21 z21
  obtain ⟨rfl, N21q, e21⟩ := hQ21
  have N21 := Fr.app N9 N21q
  refine Go.trans st21 ?_
  refine Go.pre (st' := T21.setTop (mkF m 44 #[sR o0, sR o1, sI z0, .val (.int (x0 &&& z255)), sI z1] [(.ref o0), (.int z1)])) (fun target kt => ?_) ?_
  · refine XS.ifNo X21.here hx rfl (hb hby d23_79) rfl ((if0 _ _).trans (feq (by decide)).1) ?_
    refine XS.iload X21.here hx rfl (hb hby d23_82) rfl ?_
    refine XS.istoreN X21.here hx rfl (hb hby d23_84) rfl (l' := #[.val (.ref o0), .val (.ref o1), .val (.int z0), .val (.int (x0 &&& z255)), .val (.int z0)]) rfl ?_
    refine XS.iinc X21.here hx rfl (hb hby d23_85) rfl (l' := #[.val (.ref o0), .val (.ref o1), .val (.int z0), .val (.int (x0 &&& z255)), .val (.int z1)]) rfl ?_
    refine XS.goto X21.here hx rfl (pc0 := 88) (pc' := 41) rfl (hb hby d23_88) (by decide) (by decide) ?_
    refine XS.iload X21.here hx rfl (hb hby d23_41) rfl ?_
    refine XS.aloadN X21.here hx rfl (hb hby d23_43) rfl rfl ?_
    exact kt
  have Y29 := (Y3.keep K9 (ninS (Ne.symm n_r2_o0) nin0))
  obtain ⟨T30, X30, e30, st30⟩ := getF X21 hx hZ hown (host := "") (Or.inl (ow hw 57 rfl)) Via.refl e21 Y29 (g := (mkF m 44 #[sR o0, sR o1, sI z0, .val (.int (x0 &&& z255)), sI z1] [(.ref o0), (.int z1)])) rfl rfl (hb hby d23_44)
  refine Go.pre st30 ?_
  refine Go.pre (st' := T30.setTop (mkF m 92 #[sR o0, sR o1, sI z0, .val (.int (x0 &&& z255)), sI z1] [(.int z0)])) (fun target kt => ?_) ?_
  · refine XS.icmpYes X30.here hx rfl (pc0 := 47) (pc' := 91) rfl (hb hby d23_47) rfl (flt (by decide)).2.1 (by decide) (by decide) ?_
    refine XS.iloadN X30.here hx rfl (hb hby d23_91) rfl ?_
    exact kt
  exact Go.retV X30 hx hlk hrt rfl (Or.inl ⟨rfl, Or.inl rfl, _, rfl⟩) (hb hby d23_92) (by decide) (by decide) (by rw [e30]; exact ⟨rfl, N21, (((Keep.refl h0 [o1, r2]).trans K2 (allS (Or.inl (List.mem_of_getElem? (i := 0) rfl)) all0)).trans K9 (allS (Or.inl (List.mem_of_getElem? (i := 1) rfl)) all0)), trivial, Y26, Y27, Y9_0, Y9_1⟩)
/-! Attributes.indexOf (23F) -/
theorem pd23F_0 : parseMethodDescriptor "()I" = some ⟨[], some .int⟩ := by decide +kernel
theorem ef_23F (m : MethodId) (o0 : Addr) (o1 : Addr) : entryFrame m #[(.ref o0), (.ref o1)] 5 = (mkF m 0 #[.val (.ref o0), .val (.ref o1), .unset, .unset, .unset] []) := by first | (simp [entryFrame, mkF, argsToLocals, Value.category]; done) | rfl
def Q23F (Z : State) (o0 : Addr) (o1 : Addr) (an : Addr) (kan : ClassId) (fan : Int32 → Value) (av : Addr) (kav : ClassId) (fav : Int32 → Value) (ae : Addr) (kae : ClassId) (fae : Int32 → Value) (tx : Addr) (ktx : ClassId) (ftx : Int32 → Value) (us : Value) (ut : Value) (r2 : Addr) (zc : Int32) (ga : Int32) (va : Addr) (ka : ClassId) (x0 : Int32) (gb : Int32) (vb : Addr) (kb : ClassId) (y0 : Int32) (h0 : Heap) (n0 : Nat) (v : Option Value) (h : Heap) (L : List Loc) : Prop := v = some (.int (-1 : Int32)) ∧ Fr n0 L ∧ Keep h0 h [o1, r2] ∧ True ∧ Fld Z h o1 cB "coder" "B" (.int ga) ∧ Fld Z h o1 cB "value" "[B" (.ref va) ∧ Fld Z h r2 cB "coder" "B" (.int gb) ∧ Fld Z h r2 cB "value" "[B" (.ref vb)
theorem rm23F (l : Launch) (Z : State) (a0 : Array Value) (hw : ∀ d ∈ tables_1, d.before a0 Z = true) (ws : List Jvm.Cond) (o0 : Addr) (o1 : Addr) (an : Addr) (kan : ClassId) (fan : Int32 → Value) (av : Addr) (kav : ClassId) (fav : Int32 → Value) (ae : Addr) (kae : ClassId) (fae : Int32 → Value) (tx : Addr) (ktx : ClassId) (ftx : Int32 → Value) (us : Value) (ut : Value) (r2 : Addr) (zc : Int32) (ga : Int32) (va : Addr) (ka : ClassId) (x0 : Int32) (gb : Int32) (vb : Addr) (kb : ClassId) (y0 : Int32) (h0 : Heap) (n0 : Nat) (Z0 : n0 ≤ h0.size) (E_o0 : Exa Z h0 o0 cA) (F_se : Fld Z h0 o0 cA "size" "I" (.int z1)) (F_sd : Fld Z h0 o0 cA "specified" "I" us) (F_th : Fld Z h0 o0 cA "textLength" "I" ut) (F_ix : Fld Z h0 o0 cA "index" "Ljava/util/Map;" .null) (Fan : Fld Z h0 o0 cA "names" cD (.ref an)) (B_an : Arf Z h0 an kan (.object cB) z16 fan) (Fav : Fld Z h0 o0 cA "values" cD (.ref av)) (B_av : Arf Z h0 av kav (.object cB) z16 fav) (Fae : Fld Z h0 o0 cA "ends" "[I" (.ref ae)) (B_ae : Arf Z h0 ae kae .int z16 fae) (Ftx : Fld Z h0 o0 cA "text" "[C" (.ref tx)) (B_tx : Arf Z h0 tx ktx .char z1024 ftx) (O_an : Ovr Z kan cB) (O_av : Ovr Z kav cB) (n_o0_an : o0 ≠ an) (n_o0_av : o0 ≠ av) (n_o0_ae : o0 ≠ ae) (n_o0_tx : o0 ≠ tx) (n_an_av : an ≠ av) (n_an_ae : an ≠ ae) (n_av_ae : av ≠ ae) (n_an_tx : an ≠ tx) (n_av_tx : av ≠ tx) (n_ae_tx : ae ≠ tx) (S_COMPACT : Sta Z Z.heap cB "COMPACT_STRINGS" "Z" (.int zc)) (hcs : ¬ (zc = z0)) (E_o1 : Exa Z h0 o1 cB) (F_ca : Fld Z h0 o1 cB "coder" "B" (.int ga)) (F_va : Fld Z h0 o1 cB "value" "[B" (.ref va)) (A_a : Arv Z h0 va ka .byte z1 [(.int x0)] (.int z0)) (F_ha : Fld Z h0 o1 cB "hash" "I" (.int z0)) (F_za : Fld Z h0 o1 cB "hashIsZero" "Z" (.int z0)) (E_r2 : Exa Z h0 r2 cB) (F_cb : Fld Z h0 r2 cB "coder" "B" (.int gb)) (F_vb : Fld Z h0 r2 cB "value" "[B" (.ref vb)) (A_b : Arv Z h0 vb kb .byte z1 [(.int y0)] (.int z0)) (F_hb : Fld Z h0 r2 cB "hash" "I" (.int z0)) (F_zb : Fld Z h0 r2 cB "hashIsZero" "Z" (.int z0)) (n_o1_r2 : o1 ≠ r2) (n_o1_o0 : o1 ≠ o0) (n_o1_an : o1 ≠ an) (n_o1_av : o1 ≠ av) (n_o1_ae : o1 ≠ ae) (n_o1_tx : o1 ≠ tx) (n_o1_va : o1 ≠ va) (n_o1_vb : o1 ≠ vb) (n_r2_o0 : r2 ≠ o0) (n_r2_an : r2 ≠ an) (n_r2_av : r2 ≠ av) (n_r2_ae : r2 ≠ ae) (n_r2_tx : r2 ≠ tx) (n_r2_va : r2 ≠ va) (n_r2_vb : r2 ≠ vb) (hga : ga = z0) (hgb : gb = z0) (hrn : fan z0 = .ref r2) (Ol : Old Z n0 h0) (g_o1 : n0 ≤ o1) (g_r2 : n0 ≤ r2) (hc65 : ¬ ((y0 &&& z255) = (x0 &&& z255))) :
    MetFree l (⟨cA, "indexOf", "(Ljava/lang/String;)I"⟩ : MethodName) (head1 (Jvm.Cond.code (⟨cA, "indexOf", "(Ljava/lang/String;)I"⟩ : MethodName) prog_64_method_7_code 5 (some .int) :: ws) ({ frames := 2, cells := 0, slots := 0, locals := 25 } : Room)) (fun a U => a = #[(.ref o0), (.ref o1)] ∧ Z.Warmed39 U.vm ∧ U.heap = h0) (fun _ _ _ _ _ => True) (fun _ U o U' => ∃ v L, o = .returned v ∧ Q23F Z o0 o1 an kan fan av kav fav ae kae fae tx ktx ftx us ut r2 zc ga va ka x0 gb vb kb y0 h0 n0 v U'.heap L ∧ FrameEnd U o U' L ({ frames := 2, cells := 0, slots := 0, locals := 25 } : Room).cells ({ frames := 2, cells := 0, slots := 0, locals := 25 } : Room).slots) := by
  refine MetFree.of_bodySF (plainFor_of_name pn_23) hisR ?_
  intro p e s m args below meth c s₁ Bd hml0 hP hK
  obtain ⟨rfl, hZ, hh⟩ := hP
  have hx := Bd.exec
  have hby := Bd.bytes
  have hml : c.maxLocals = 5 := hml0
  have hown : s.vm.findClass cA = some m.cls := findClass_of_methodNamed Bd.named
  have hnm := (name_of_methodNamed Bd.named Bd.method).1
  have hrt := Bd.returns
  have hlk := Bd.notSynchronized
  have X0 : Stand p l e ({ frames := 2, cells := 0, slots := 0, locals := 25 } : Room) s m #[(.ref o0), (.ref o1)] below meth c s₁ [] 0 0 := Stand.of_body Bd
  have e0 : s₁.heap = h0 := by rw [← hh, Bd.state]; rfl
  have N0 := Fr.nil n0
  have lt_E_o0 : LT.lt (α := Nat) o0 h0.size := E_o0.lt
  have lt_B_an : LT.lt (α := Nat) an h0.size := B_an.lt
  have lt_B_av : LT.lt (α := Nat) av h0.size := B_av.lt
  have lt_B_ae : LT.lt (α := Nat) ae h0.size := B_ae.lt
  have lt_B_tx : LT.lt (α := Nat) tx h0.size := B_tx.lt
  have lt_E_o1 : LT.lt (α := Nat) o1 h0.size := E_o1.lt
  have lt_A_a : LT.lt (α := Nat) va h0.size := A_a.lt
  have lt_E_r2 : LT.lt (α := Nat) r2 h0.size := E_r2.lt
  have lt_A_b : LT.lt (α := Nat) vb h0.size := A_b.lt
  show Go p e below s 0 0 (Q23F Z o0 o1 an kan fan av kav fav ae kae fae tx ktx ftx us ut r2 zc ga va ka x0 gb vb kb y0 h0 n0) (s₁.setTop (entryFrame m #[(.ref o0), (.ref o1)] 5))
  rw [ef_23F m o0 o1]
  refine Go.pre (st' := s₁.setTop (mkF m 3 #[sR o0, sR o1, sI (-1 : Int32), sU, sU] [(.ref o0)])) (fun target kt => ?_) ?_
  · refine XS.iconst X0.here hx rfl (hb hby d23_0) ?_
    refine XS.istoreN X0.here hx rfl (hb hby d23_1) rfl (l' := #[.val (.ref o0), .val (.ref o1), .val (.int (-1 : Int32)), .unset, .unset]) rfl ?_
    refine XS.aloadN X0.here hx rfl (hb hby d23_2) rfl rfl ?_
    exact kt
  obtain ⟨T1, X1, e1, st1⟩ := getF X0 hx hZ hown (host := "") (Or.inl (ow hw 61 rfl)) Via.refl e0 F_ix (g := (mkF m 3 #[sR o0, sR o1, sI (-1 : Int32), sU, sU] [(.ref o0)])) rfl rfl (hb hby d23_3)
  refine Go.pre st1 ?_
  refine Go.pre (st' := T1.setTop (mkF m 34 #[sR o0, sR o1, sI (-1 : Int32), sU, sU] [(.ref o1)])) (fun target kt => ?_) ?_
  · refine XS.ifnullYes X1.here hx rfl (pc0 := 6) (pc' := 33) rfl (hb hby d23_6) rfl (by decide) (by decide) ?_
    refine XS.aloadN X1.here hx rfl (hb hby d23_33) rfl rfl ?_
    exact kt
  obtain ⟨cq2, kq2, q2a, q2b, q2c⟩ := isOf hZ e1 E_o1
  obtain ⟨_, _, ⟨T2, L2, k2, n2⟩, -, X2, ⟨Lc2, hQ2, l2, y2, z2⟩, st2⟩ := X1.virtualBack hx (y := (⟨cB, "hashCode", "()I"⟩ : MethodName)) (z := (⟨cB, "hashCode", "()I"⟩ : MethodName)) hown (mvT hZ (ow hw 136 rfl)) (mvT hZ (ow hw 137 rfl)) (notFace_of_selects (args := #[]) (mvT hZ (ow hw 139 rfl))) (mvT hZ (ow hw 139 rfl)) (mvT hZ (ow hw 138 rfl)) (by decide) (backOf (W := 0) (rm24 l Z a0 hw [] o1 zc ga va ka x0 h0 n0 (by omega) S_COMPACT hcs E_o1 F_ca F_va A_a F_ha F_za (by first | assumption | decide) Ol (by omega)) hZ (ow hw 140 rfl) (ow hw 2 rfl) (by decide) (by decide)) q2a q2c (g := (mkF m 34 #[sR o0, sR o1, sI (-1 : Int32), sU, sU] [(.ref o1)])) rfl (by rw [hml]; rfl) (Steps.refl _) (argsL := []) (rest := []) (lenOf pd23F_0 rfl) rfl (le0 rfl) (hb hby d23_34) (fun vm₁ hvm => ⟨rfl, e1, (by decide : 0 + 0 ≤ _), (by decide : 0 + 0 ≤ _)⟩)
  dsimp only [Pt.U, Pt.locs, Pt.cells, Pt.slots] at X2 l2 y2 z2 st2 hQ2
  subst l2 y2 z2
  obtain ⟨rfl, N2q, K2, KF2, Y2_0, Y2_1⟩ := hQ2
  have sz2 : h0.size ≤ T2.heap.size := K2.1
  have N2 := Fr.app N0 N2q
  refine Go.trans st2 ?_
  refine Go.pre (st' := T2.setTop (mkF m 44 #[sR o0, sR o1, sI (-1 : Int32), .val (.int (x0 &&& z255)), sI z0] [(.ref o0), (.int z0)])) (fun target kt => ?_) ?_
  · refine XS.istoreN X2.here hx rfl (hb hby d23_37) rfl (l' := #[.val (.ref o0), .val (.ref o1), .val (.int (-1 : Int32)), .val (.int (x0 &&& z255)), .unset]) rfl ?_
    refine XS.iconst X2.here hx rfl (hb hby d23_38) ?_
    refine XS.istore X2.here hx rfl (hb hby d23_39) rfl (l' := #[.val (.ref o0), .val (.ref o1), .val (.int (-1 : Int32)), .val (.int (x0 &&& z255)), .val (.int z0)]) rfl ?_
    refine XS.iload X2.here hx rfl (hb hby d23_41) rfl ?_
    refine XS.aloadN X2.here hx rfl (hb hby d23_43) rfl rfl ?_
    exact kt
  have Y3 := (F_se.keep K2 (ninS (Ne.symm n_o1_o0) nin0))
  obtain ⟨T4, X4, e4, st4⟩ := getF X2 hx hZ hown (host := "") (Or.inl (ow hw 57 rfl)) Via.refl rfl Y3 (g := (mkF m 44 #[sR o0, sR o1, sI (-1 : Int32), .val (.int (x0 &&& z255)), sI z0] [(.ref o0), (.int z0)])) rfl rfl (hb hby d23_44)
  refine Go.pre st4 ?_
  refine Go.pre (st' := T4.setTop (mkF m 55 #[sR o0, sR o1, sI (-1 : Int32), .val (.int (x0 &&& z255)), sI z0] [(.ref o0)])) (fun target kt => ?_) ?_
  · refine XS.icmpNo X4.here hx rfl (hb hby d23_47) rfl (tlt (by decide)).2.1 ?_
    refine XS.iloadN X4.here hx rfl (hb hby d23_50) rfl ?_
    refine XS.ifNo X4.here hx rfl (hb hby d23_51) rfl ((if0 _ _).trans (tlt (by decide)).2.1) ?_
    refine XS.aloadN X4.here hx rfl (hb hby d23_54) rfl rfl ?_
    exact kt
  have Y5 := (Fan.keep K2 (ninS (Ne.symm n_o1_o0) nin0))
  obtain ⟨T6, X6, e6, st6⟩ := getF X4 hx hZ hown (host := "") (Or.inl (ow hw 36 rfl)) Via.refl e4 Y5 (g := (mkF m 55 #[sR o0, sR o1, sI (-1 : Int32), .val (.int (x0 &&& z255)), sI z0] [(.ref o0)])) rfl rfl (hb hby d23_55)
  refine Go.pre st6 ?_
  refine Go.pre (st' := T6.setTop (mkF m 60 #[sR o0, sR o1, sI (-1 : Int32), .val (.int (x0 &&& z255)), sI z0] [(.int z0), (.ref an)])) (fun target kt => ?_) ?_
  · refine XS.iload X6.here hx rfl (hb hby d23_58) rfl ?_
    exact kt
  have Y7 := (B_an.keep K2 (ninS (Ne.symm n_o1_an) nin0))
  obtain ⟨cl8, Ar8, q8, Sz8, Nn8, Hs8⟩ := id Y7
  have in8 : ¬ (z0 < 0 ∨ cl8.slots.size ≤ (z0).toNatClampNeg) := by rw [Sz8]; exact (by decide)
  have at8 : cl8.slots[(z0).toNatClampNeg]? = some (.ref r2) := (Hs8 _ in8).1.trans (congrArg some hrn)
  refine Go.pre (X6.aaload hx (j := z0) (v := (.ref r2)) (by rw [e6]; exact Ar8.1) (State.isArrayOf_alike hZ.alike Ar8.2.1) rfl Ar8.2.2 in8 at8 (g := (mkF m 60 #[sR o0, sR o1, sI (-1 : Int32), .val (.int (x0 &&& z255)), sI z0] [(.int z0), (.ref an)])) rfl rfl (hb hby d23_60)) ?_
  have Y10 := (Ol.keep K2 (allS (by omega) all0))
  have Y11 := (E_r2.keep K2)
  have Y12 := (F_cb.keep K2 (ninS (Ne.symm n_o1_r2) nin0))
  have Y13 := (F_vb.keep K2 (ninS (Ne.symm n_o1_r2) nin0))
  have Y14 := (A_b.keep K2 (ninS (Ne.symm n_o1_vb) nin0))
  have Y15 := (F_hb.keep K2 (ninS (Ne.symm n_o1_r2) nin0))
  have Y16 := (F_zb.keep K2 (ninS (Ne.symm n_o1_r2) nin0))
  obtain ⟨cq9, kq9, q9a, q9b, q9c⟩ := isOf hZ e6 Y11
  obtain ⟨_, _, ⟨T9, L9, k9, n9⟩, -, X9, ⟨Lc9, hQ9, l9, y9, z9⟩, st9⟩ := X6.virtualBack hx (y := (⟨cB, "hashCode", "()I"⟩ : MethodName)) (z := (⟨cB, "hashCode", "()I"⟩ : MethodName)) hown (mvT hZ (ow hw 136 rfl)) (mvT hZ (ow hw 137 rfl)) (notFace_of_selects (args := #[]) (mvT hZ (ow hw 139 rfl))) (mvT hZ (ow hw 139 rfl)) (mvT hZ (ow hw 138 rfl)) (by decide) (backOf (W := 0) (rm24 l Z a0 hw [] r2 zc gb vb kb y0 T2.heap n0 (by omega) S_COMPACT hcs Y11 Y12 Y13 Y14 Y15 Y16 (by first | assumption | decide) Y10 (by omega)) hZ (ow hw 140 rfl) (ow hw 2 rfl) (by decide) (by decide)) q9a q9c (g := (mkF m 61 #[sR o0, sR o1, sI (-1 : Int32), .val (.int (x0 &&& z255)), sI z0] [(.ref r2)])) rfl (by rw [hml]; rfl) (Steps.refl _) (argsL := []) (rest := []) (lenOf pd23F_0 rfl) rfl (le0 rfl) (hb hby d23_61) (fun vm₁ hvm => ⟨rfl, e6, (by decide : 0 + 0 ≤ _), (by decide : 0 + 0 ≤ _)⟩)
  dsimp only [Pt.U, Pt.locs, Pt.cells, Pt.slots] at X9 l9 y9 z9 st9 hQ9
  subst l9 y9 z9
  obtain ⟨rfl, N9q, K9, KF9, Y9_0, Y9_1⟩ := hQ9
  have sz9 : T2.heap.size ≤ T9.heap.size := K9.1
  have N9 := Fr.app N2 N9q
  refine Go.trans st9 ?_
  refine Go.pre (st' := T9.setTop (mkF m 44 #[sR o0, sR o1, sI (-1 : Int32), .val (.int (x0 &&& z255)), sI z1] [(.ref o0), (.int z1)])) (fun target kt => ?_) ?_
  · refine XS.iloadN X9.here hx rfl (hb hby d23_64) rfl ?_
    refine XS.icmpYes X9.here hx rfl (pc0 := 65) (pc' := 85) rfl (hb hby d23_65) rfl (feq hc65).2 (by decide) (by decide) ?_
    refine XS.iinc X9.here hx rfl (hb hby d23_85) rfl (l' := #[.val (.ref o0), .val (.ref o1), .val (.int (-1 : Int32)), .val (.int (x0 &&& z255)), .val (.int z1)]) rfl ?_
    refine XS.goto X9.here hx rfl (pc0 := 88) (pc' := 41) rfl (hb hby d23_88) (by decide) (by decide) ?_
    refine XS.iload X9.here hx rfl (hb hby d23_41) rfl ?_
    refine XS.aloadN X9.here hx rfl (hb hby d23_43) rfl rfl ?_
    exact kt
  have Y17 := (Y3.keep K9 (ninS (Ne.symm n_r2_o0) nin0))
  obtain ⟨T18, X18, e18, st18⟩ := getF X9 hx hZ hown (host := "") (Or.inl (ow hw 57 rfl)) Via.refl rfl Y17 (g := (mkF m 44 #[sR o0, sR o1, sI (-1 : Int32), .val (.int (x0 &&& z255)), sI z1] [(.ref o0), (.int z1)])) rfl rfl (hb hby d23_44)
  refine Go.pre st18 ?_
  refine Go.pre (st' := T18.setTop (mkF m 92 #[sR o0, sR o1, sI (-1 : Int32), .val (.int (x0 &&& z255)), sI z1] [(.int (-1 : Int32))])) (fun target kt => ?_) ?_
  · refine XS.icmpYes X18.here hx rfl (pc0 := 47) (pc' := 91) rfl (hb hby d23_47) rfl (flt (by decide)).2.1 (by decide) (by decide) ?_
    refine XS.iloadN X18.here hx rfl (hb hby d23_91) rfl ?_
    exact kt
  have Y19 := (Y2_0.keep K9 (ninS n_o1_r2 nin0))
  have Y20 := (Y2_1.keep K9 (ninS n_o1_r2 nin0))
  exact Go.retV X18 hx hlk hrt rfl (Or.inl ⟨rfl, Or.inl rfl, _, rfl⟩) (hb hby d23_92) (by decide) (by decide) (by rw [e18]; exact ⟨rfl, N9, (((Keep.refl h0 [o1, r2]).trans K2 (allS (Or.inl (List.mem_of_getElem? (i := 0) rfl)) all0)).trans K9 (allS (Or.inl (List.mem_of_getElem? (i := 1) rfl)) all0)), trivial, Y19, Y20, Y9_0, Y9_1⟩)
/-! the blocks of the law -/
theorem pd161_0_0 : parseMethodDescriptor "()I" = some ⟨[], some .int⟩ := by decide +kernel
theorem pd161_0_1 : parseMethodDescriptor "(Ljava/lang/String;[CII)V" = some ⟨[(.object "java/lang/String"), (.array .char), .int, .int], none⟩ := by decide +kernel
theorem pd161_0_2 : parseMethodDescriptor "(Ljava/lang/Object;)Z" = some ⟨[(.object "java/lang/Object")], some .boolean⟩ := by decide +kernel
theorem pd161_0_3 : parseMethodDescriptor "(I)Ljava/lang/String;" = some ⟨[.int], some (.object "java/lang/String")⟩ := by decide +kernel
theorem pd161_0_4 : parseMethodDescriptor "(Ljava/lang/String;)I" = some ⟨[(.object "java/lang/String")], some .int⟩ := by decide +kernel
theorem blk161_0 {p : Program} {l : Launch} {e : Env} {s : State} {m : MethodId} {args : Array Value} {below : List Frame} {meth : Method} {c : Code} {Z : State} {a0 : Array Value} {T : State} {locs : List Loc} {h0 : Heap} {n0 : Nat} {vm0 : Vm} {k0 : Nat} (C : Ctx p (s.setVm vm0) m meth c Z code 16 "com/example/satzung/satzung/parse/AttributesClearPinLaw" (some .boolean)) (hw : ∀ d ∈ tables_1, d.before a0 Z = true) (hS : s.Since vm0 k0) (hk : k0 ≤ h0.size) (hI : IB Z vm0 ["w", "v"]) (hnS : n0 = s.heap.size) (hkp : ∀ (b : Addr) (cl : Cell), Z.heap[b]? = some cl → s.heap[b]? = some cl)
    (X0 : Stand p l e room_1 (s.setVm vm0) m args below meth c T locs 30 9000) (e0 : T.heap = h0) (N0 : Fr n0 locs) (p0 : Int32) (p1 : Int32) (p2 : Int32) (p3 : Int32) (p4 : Int32) (p5 : Int32) (r6 : Addr) (r7 : Addr) (r8 : Addr) (r9 : Addr) (i10 : Int32) (r12 : Addr) (zc : Int32) (zf : Value) (ga : Int32) (va : Addr) (ka : ClassId) (x0 : Int32) (gb : Int32) (vb : Addr) (kb : ClassId) (y0 : Int32) (kg : ClassId) (c0 : Int32) (c1 : Int32) (an : Addr) (kan : ClassId) (fan : Int32 → Value) (av : Addr) (kav : ClassId) (fav : Int32 → Value) (ae : Addr) (kae : ClassId) (fae : Int32 → Value) (tx : Addr) (ktx : ClassId) (ftx : Int32 → Value) (Z0 : n0 ≤ h0.size) (S_COMPACT : Sta Z Z.heap cB "COMPACT_STRINGS" "Z" (.int zc)) (hcs : ¬ (zc = z0)) (S_F : Sta Z Z.heap cE "SIOOBE_FORMATTER" "Ljava/util/function/BiFunction;" zf) (hv_zf : zf.isRef = true) (hcw : Jvm.Lit.compactW.before a0 Z = true) (hheld : ∀ q ∈ consts_1, Jvm.Lit.constHeld Z q.1 q.2) (Ol : Old Z n0 h0) (E_r6 : Exa Z h0 r6 cB) (F_ca : Fld Z h0 r6 cB "coder" "B" (.int ga)) (F_va : Fld Z h0 r6 cB "value" "[B" (.ref va)) (A_a : Arv Z h0 va ka .byte z1 [(.int x0)] (.int z0)) (F_ha : Fld Z h0 r6 cB "hash" "I" (.int z0)) (F_za : Fld Z h0 r6 cB "hashIsZero" "Z" (.int z0)) (E_r7 : Exa Z h0 r7 cB) (F_cb : Fld Z h0 r7 cB "coder" "B" (.int gb)) (F_vb : Fld Z h0 r7 cB "value" "[B" (.ref vb)) (A_b : Arv Z h0 vb kb .byte z1 [(.int y0)] (.int z0)) (F_hb : Fld Z h0 r7 cB "hash" "I" (.int z0)) (F_zb : Fld Z h0 r7 cB "hashIsZero" "Z" (.int z0)) (hga : ga = z0) (hgb : gb = z0) (hb255 : ¬ x0 = y0 → ¬ (y0 &&& z255) = (x0 &&& z255)) (A_r9 : Arv Z h0 r9 kg .char z2 [(.int c0), (.int c1)] (.int z0)) (hc0 : ¬ (z255 < c0)) (hc1 : ¬ (z255 < c1)) (E_r12 : Exa Z h0 r12 cA) (F_se : Fld Z h0 r12 cA "size" "I" (.int z0)) (F_sd : Fld Z h0 r12 cA "specified" "I" (.int z0)) (F_th : Fld Z h0 r12 cA "textLength" "I" (.int z0)) (F_ix : Fld Z h0 r12 cA "index" "Ljava/util/Map;" .null) (Fan : Fld Z h0 r12 cA "names" cD (.ref an)) (B_an : Arf Z h0 an kan (.object cB) z16 fan) (Fav : Fld Z h0 r12 cA "values" cD (.ref av)) (B_av : Arf Z h0 av kav (.object cB) z16 fav) (Fae : Fld Z h0 r12 cA "ends" "[I" (.ref ae)) (B_ae : Arf Z h0 ae kae .int z16 fae) (Ftx : Fld Z h0 r12 cA "text" "[C" (.ref tx)) (B_tx : Arf Z h0 tx ktx .char z1024 ftx) (O_an : Ovr Z kan cB) (O_av : Ovr Z kav cB) (n_r12_an : r12 ≠ an) (n_r12_av : r12 ≠ av) (n_r12_ae : r12 ≠ ae) (n_r12_tx : r12 ≠ tx) (n_an_av : an ≠ av) (n_an_ae : an ≠ ae) (n_av_ae : av ≠ ae) (n_an_tx : an ≠ tx) (n_av_tx : av ≠ tx) (n_ae_tx : ae ≠ tx) (n_r6_r7 : r6 ≠ r7) (n_r6_an : r6 ≠ an) (n_r6_av : r6 ≠ av) (n_r6_ae : r6 ≠ ae) (n_r6_tx : r6 ≠ tx) (n_r6_r12 : r6 ≠ r12) (n_r7_an : r7 ≠ an) (n_r7_av : r7 ≠ av) (n_r7_ae : r7 ≠ ae) (n_r7_tx : r7 ≠ tx) (n_r7_r12 : r7 ≠ r12) (n_va_an : va ≠ an) (n_va_av : va ≠ av) (n_va_ae : va ≠ ae) (n_va_tx : va ≠ tx) (n_va_r12 : va ≠ r12) (n_vb_an : vb ≠ an) (n_vb_av : vb ≠ av) (n_vb_ae : vb ≠ ae) (n_vb_tx : vb ≠ tx) (n_vb_r12 : vb ≠ r12) (n_r9_an : r9 ≠ an) (n_r9_av : r9 ≠ av) (n_r9_ae : r9 ≠ ae) (n_r9_tx : r9 ≠ tx) (n_r9_r12 : r9 ≠ r12) (n_r6_va : r6 ≠ va) (n_r6_vb : r6 ≠ vb) (n_r6_r9 : r6 ≠ r9) (n_r7_va : r7 ≠ va) (n_r7_vb : r7 ≠ vb) (n_r7_r9 : r7 ≠ r9) (g_r6 : n0 ≤ r6) (g_r7 : n0 ≤ r7) (g_r12 : n0 ≤ r12) (g_an : n0 ≤ an) (g_av : n0 ≤ av) (g_ae : n0 ≤ ae) (g_tx : n0 ≤ tx) :
    GoW p e below s 56 16640 (fun v vm h L => v = some (.int 1) ∧ Fr n0 L) (T.setTop (mkF m 161 #[sI p0, sI p1, sI p2, sI p3, sI p4, sI p5, sR r6, sR r7, sR r8, sR r9, sI i10, sI z0, sR r12, sU, sU, sU] [])) := by
  obtain ⟨hx, hZ, hby, hml, hown, hrt, hlk⟩ := id C
  have lt_E_r6 : LT.lt (α := Nat) r6 h0.size := E_r6.lt
  have lt_A_a : LT.lt (α := Nat) va h0.size := A_a.lt
  have lt_E_r7 : LT.lt (α := Nat) r7 h0.size := E_r7.lt
  have lt_A_b : LT.lt (α := Nat) vb h0.size := A_b.lt
  have lt_A_r9 : LT.lt (α := Nat) r9 h0.size := A_r9.lt
  have lt_E_r12 : LT.lt (α := Nat) r12 h0.size := E_r12.lt
  have lt_B_an : LT.lt (α := Nat) an h0.size := B_an.lt
  have lt_B_av : LT.lt (α := Nat) av h0.size := B_av.lt
  have lt_B_ae : LT.lt (α := Nat) ae h0.size := B_ae.lt
  have lt_B_tx : LT.lt (α := Nat) tx h0.size := B_tx.lt
  refine GoW.pre (st' := T.setTop (mkF m 163 #[sI p0, sI p1, sI p2, sI p3, sI p4, sI p5, sR r6, sR r7, sR r8, sR r9, sI i10, sI z0, sR r12, sU, sU, sU] [(.ref r12)])) (fun target kt => ?_) ?_
  · refine XS.aload X0.here hx rfl (hb hby at_161) rfl rfl ?_
    exact kt
  obtain ⟨cq1, kq1, q1a, q1b, q1c⟩ := isOf hZ e0 E_r12
  obtain ⟨_, _, ⟨T1, L1, k1, n1⟩, -, X1, ⟨Lc1, hQ1, l1, y1, z1⟩, st1⟩ := X0.virtualBack hx (y := (⟨cA, "size", "()I"⟩ : MethodName)) (z := (⟨cA, "size", "()I"⟩ : MethodName)) hown (mvT hZ (ow hw 76 rfl)) (mvT hZ (ow hw 77 rfl)) (notFace_of_selects (args := #[]) (mvT hZ (ow hw 79 rfl))) (mvT hZ (ow hw 79 rfl)) (mvT hZ (ow hw 78 rfl)) (by decide) (backOf (W := 0) (rm11 l Z a0 hw [] r12 z0 h0 n0 (by omega) F_se) hZ (ow hw 80 rfl) (ow hw 29 rfl) (by decide) (by decide)) q1a q1c (g := (mkF m 163 #[sI p0, sI p1, sI p2, sI p3, sI p4, sI p5, sR r6, sR r7, sR r8, sR r9, sI i10, sI z0, sR r12, sU, sU, sU] [(.ref r12)])) rfl (by rw [hml]; rfl) (Steps.refl _) (argsL := []) (rest := []) (lenOf pd161_0_0 rfl) rfl (le0 rfl) (hb hby at_163) (fun vm₁ hvm => ⟨rfl, e0, (by decide : 30 + 0 ≤ _), (by decide : 9000 + 0 ≤ _)⟩)
  dsimp only [Pt.U, Pt.locs, Pt.cells, Pt.slots] at X1 l1 y1 z1 st1 hQ1
  subst l1 y1 z1
  obtain ⟨rfl, N1q, e1⟩ := hQ1
  have N1 := Fr.app N0 N1q
  refine GoW.trans st1 ?_
  refine GoW.pre (st' := T1.setTop (mkF m 171 #[sI p0, sI p1, sI p2, sI p3, sI p4, sI p5, sR r6, sR r7, sR r8, sR r9, sI i10, sI z0, sR r12, sU, sU, sU] [(.ref r12)])) (fun target kt => ?_) ?_
  · refine XS.ifNo X1.here hx rfl (hb hby at_166) rfl ((if0 _ _).trans (teq (by decide)).2) ?_
    refine XS.aload X1.here hx rfl (hb hby at_169) rfl rfl ?_
    exact kt
  obtain ⟨cq2, kq2, q2a, q2b, q2c⟩ := isOf hZ e1 E_r12
  obtain ⟨_, _, ⟨T2, L2, k2, n2⟩, -, X2, ⟨Lc2, hQ2, l2, y2, z2⟩, st2⟩ := X1.virtualBack hx (y := (⟨cA, "specified", "()I"⟩ : MethodName)) (z := (⟨cA, "specified", "()I"⟩ : MethodName)) hown (mvT hZ (ow hw 81 rfl)) (mvT hZ (ow hw 82 rfl)) (notFace_of_selects (args := #[]) (mvT hZ (ow hw 84 rfl))) (mvT hZ (ow hw 84 rfl)) (mvT hZ (ow hw 83 rfl)) (by decide) (backOf (W := 0) (rm12 l Z a0 hw [] r12 z0 h0 n0 (by omega) F_sd) hZ (ow hw 85 rfl) (ow hw 29 rfl) (by decide) (by decide)) q2a q2c (g := (mkF m 171 #[sI p0, sI p1, sI p2, sI p3, sI p4, sI p5, sR r6, sR r7, sR r8, sR r9, sI i10, sI z0, sR r12, sU, sU, sU] [(.ref r12)])) rfl (by rw [hml]; rfl) (Steps.refl _) (argsL := []) (rest := []) (lenOf pd161_0_0 rfl) rfl (le0 rfl) (hb hby at_171) (fun vm₁ hvm => ⟨rfl, e1, (by decide : 30 + 0 ≤ _), (by decide : 9000 + 0 ≤ _)⟩)
  dsimp only [Pt.U, Pt.locs, Pt.cells, Pt.slots] at X2 l2 y2 z2 st2 hQ2
  subst l2 y2 z2
  obtain ⟨rfl, N2q, e2⟩ := hQ2
  have N2 := Fr.app N1 N2q
  refine GoW.trans st2 ?_
  refine GoW.pre (st' := T2.setTop (mkF m 193 #[sI p0, sI p1, sI p2, sI p3, sI p4, sI p5, sR r6, sR r7, sR r8, sR r9, sI i10, sI z0, sR r12, sI z1, sU, sU] [(.int z0), (.int z0), (.ref r9), (.ref r7), (.ref r12)])) (fun target kt => ?_) ?_
  · refine XS.ifNo X2.here hx rfl (hb hby at_174) rfl ((if0 _ _).trans (teq (by decide)).2) ?_
    refine XS.iconst X2.here hx rfl (hb hby at_177) ?_
    refine XS.goto X2.here hx rfl (pc0 := 178) (pc' := 182) rfl (hb hby at_178) (by decide) (by decide) ?_
    refine XS.istore X2.here hx rfl (hb hby at_182) rfl (l' := #[.val (.int p0), .val (.int p1), .val (.int p2), .val (.int p3), .val (.int p4), .val (.int p5), .val (.ref r6), .val (.ref r7), .val (.ref r8), .val (.ref r9), .val (.int i10), .val (.int z0), .val (.ref r12), .val (.int z1), .unset, .unset]) rfl ?_
    refine XS.aload X2.here hx rfl (hb hby at_184) rfl rfl ?_
    refine XS.aload X2.here hx rfl (hb hby at_186) rfl rfl ?_
    refine XS.aload X2.here hx rfl (hb hby at_188) rfl rfl ?_
    refine XS.iconst X2.here hx rfl (hb hby at_190) ?_
    refine XS.iload X2.here hx rfl (hb hby at_191) rfl ?_
    exact kt
  obtain ⟨cq3, kq3, q3a, q3b, q3c⟩ := isOf hZ e2 E_r12
  obtain ⟨_, _, ⟨T3, L3, k3, n3⟩, -, X3, ⟨Lc3, hQ3, l3, y3, z3⟩, st3⟩ := X2.virtualBack hx (y := (⟨cA, "add", "(Ljava/lang/String;[CII)V"⟩ : MethodName)) (z := (⟨cA, "add", "(Ljava/lang/String;[CII)V"⟩ : MethodName)) hown (mvT hZ (ow hw 86 rfl)) (mvT hZ (ow hw 87 rfl)) (notFace_of_selects (args := #[]) (mvT hZ (ow hw 89 rfl))) (mvT hZ (ow hw 89 rfl)) (mvT hZ (ow hw 88 rfl)) (by decide) (backOf (W := 0) (rm13_0 l Z a0 hw [] r12 r7 r9 an kan fan av kav fav ae kae fae tx ktx ftx (.int z0) kg c0 c1 h0 n0 (by omega) E_r12 F_se F_sd F_th F_ix Fan B_an Fav B_av Fae B_ae Ftx B_tx O_an O_av n_r12_an n_r12_av n_r12_ae n_r12_tx n_an_av n_an_ae n_av_ae n_an_tx n_av_tx n_ae_tx A_r9 E_r7 n_r9_an n_r9_av n_r9_ae n_r9_tx (Ne.symm n_r9_r12) (by omega) (by omega) (by omega) (by omega) (by omega)) hZ (ow hw 90 rfl) (ow hw 29 rfl) (by decide) (by decide)) q3a q3c (g := (mkF m 193 #[sI p0, sI p1, sI p2, sI p3, sI p4, sI p5, sR r6, sR r7, sR r8, sR r9, sI i10, sI z0, sR r12, sI z1, sU, sU] [(.int z0), (.int z0), (.ref r9), (.ref r7), (.ref r12)])) rfl (by rw [hml]; rfl) (Steps.refl _) (argsL := [(.ref r7), (.ref r9), (.int z0), (.int z0)]) (rest := []) (lenOf pd161_0_1 rfl) rfl (le0 rfl) (hb hby at_193) (fun vm₁ hvm => ⟨rfl, e2, (by decide : 30 + 0 ≤ _), (by decide : 9000 + 0 ≤ _)⟩)
  dsimp only [Pt.U, Pt.locs, Pt.cells, Pt.slots] at X3 l3 y3 z3 st3 hQ3
  subst l3 y3 z3
  obtain ⟨rfl, N3q, K3, KF3, Y3_0, Y3_1, Y3_2, Y3_3, Y3_4, Y3_5, Y3_6, Y3_7, Y3_8, Y3_9, Y3_10, Y3_11⟩ := hQ3
  have sz3 : h0.size ≤ T3.heap.size := K3.1
  have N3 := Fr.app N2 N3q
  refine GoW.trans st3 ?_
  refine GoW.pre (st' := T3.setTop (mkF m 201 #[sI p0, sI p1, sI p2, sI p3, sI p4, sI p5, sR r6, sR r7, sR r8, sR r9, sI i10, sI z0, sR r12, sI z1, sU, sU] [])) (fun target kt => ?_) ?_
  · refine XS.iload X3.here hx rfl (hb hby at_196) rfl ?_
    refine XS.ifNo X3.here hx rfl (hb hby at_198) rfl ((if0 _ _).trans (teq (by decide)).2) ?_
    exact kt
  have Y5 := (Ol.keep K3 (allS (by omega) (allS (by omega) (allS (by omega) (allS (by omega) (allS (by omega) all0))))))
  obtain ⟨la4, T4, h4, kq4, b4, k4, X4, e4, E4, hS, hk, hZ, hown, Ea4, Fc4, Fv4, Va4, lt4, lu4, hI, Lt_la4, st4⟩ := ldcL1 X3 hx hZ hown (ow hw 95 rfl) (own_wS hw) rfl hS (by omega) (hnS ▸ N3) hkp Y5.2 hI (by decide) (hheld _ (List.mem_of_getElem? (i := 2) rfl)) hcw (g := (mkF m 201 #[sI p0, sI p1, sI p2, sI p3, sI p4, sI p5, sR r6, sR r7, sR r8, sR r9, sI i10, sI z0, sR r12, sI z1, sU, sU] [])) rfl (hb hby at_201) (by decide) (by decide)
  have sz4 : T3.heap.size ≤ h4.size := E4.1
  have ltN4 : LT.lt (α := Nat) la4 h4.size := lt4
  have luN4 : LT.lt (α := Nat) b4 h4.size := lu4
  have Y6 := (Y3_0.ext E4)
  have ne_b4_tx : b4 ≠ tx := neAB Va4 Y6 (by decide)
  have ne_la4_tx : la4 ≠ tx := Exa.neArv Ea4 (Arf.toA .null Y6) (ow hw 10 rfl)
  have Y7 := (Y3_9.ext E4)
  have ne_b4_an : b4 ≠ an := neAB Va4 Y7 (by decide)
  have ne_la4_an : la4 ≠ an := Exa.neArv Ea4 (Arf.toA .null Y7) (ow hw 10 rfl)
  have Y8 := (Y3_10.ext E4)
  have ne_b4_av : b4 ≠ av := neAB Va4 Y8 (by decide)
  have ne_la4_av : la4 ≠ av := Exa.neArv Ea4 (Arf.toA .null Y8) (ow hw 10 rfl)
  have Y9 := (Y3_11.ext E4)
  have ne_b4_ae : b4 ≠ ae := neAB Va4 Y9 (by decide)
  have ne_la4_ae : la4 ≠ ae := Exa.neArv Ea4 (Arf.toA .null Y9) (ow hw 10 rfl)
  refine GoW.pre st4 ?_
  refine GoW.pre (st' := T4.setTop (mkF m 237 #[sI p0, sI p1, sI p2, sI p3, sI p4, sI p5, sR r6, sR r7, sR r8, sR r9, sI i10, sI z0, sR r12, sI z1, sR la4, sU] [(.ref r7), (.ref r6)])) (fun target kt => ?_) ?_
  · refine XS.goto X4.here hx rfl (pc0 := 203) (pc' := 231) rfl (hb hby at_203) (by decide) (by decide) ?_
    refine XS.astore X4.here hx rfl (hb hby at_231) rfl rfl (l' := #[.val (.int p0), .val (.int p1), .val (.int p2), .val (.int p3), .val (.int p4), .val (.int p5), .val (.ref r6), .val (.ref r7), .val (.ref r8), .val (.ref r9), .val (.int i10), .val (.int z0), .val (.ref r12), .val (.int z1), .val (.ref la4), .unset]) rfl ?_
    refine XS.aload X4.here hx rfl (hb hby at_233) rfl rfl ?_
    refine XS.aload X4.here hx rfl (hb hby at_235) rfl rfl ?_
    exact kt
  by_cases hf10 : x0 = y0
  · have Y12 : Old Z n0 h4 := (Y5.ext E4)
    have Y13 := ((E_r6.keep K3).ext E4)
    have Y14 := ((F_ca.keep K3 (ninS n_r6_tx (ninS n_r6_r12 (ninS n_r6_an (ninS n_r6_av (ninS n_r6_ae nin0)))))).ext E4)
    have Y15 := ((F_va.keep K3 (ninS n_r6_tx (ninS n_r6_r12 (ninS n_r6_an (ninS n_r6_av (ninS n_r6_ae nin0)))))).ext E4)
    have Y16 := ((A_a.keep K3 (ninS n_va_tx (ninS n_va_r12 (ninS n_va_an (ninS n_va_av (ninS n_va_ae nin0)))))).ext E4)
    have Y17 := ((E_r7.keep K3).ext E4)
    have Y18 := ((F_cb.keep K3 (ninS n_r7_tx (ninS n_r7_r12 (ninS n_r7_an (ninS n_r7_av (ninS n_r7_ae nin0)))))).ext E4)
    have Y19 := ((F_vb.keep K3 (ninS n_r7_tx (ninS n_r7_r12 (ninS n_r7_an (ninS n_r7_av (ninS n_r7_ae nin0)))))).ext E4)
    have Y20 := ((A_b.keep K3 (ninS n_vb_tx (ninS n_vb_r12 (ninS n_vb_an (ninS n_vb_av (ninS n_vb_ae nin0)))))).ext E4)
    obtain ⟨cq11, kq11, q11a, q11b, q11c⟩ := isOf hZ e4 Y13
    obtain ⟨_, _, ⟨T11, L11, k11, n11⟩, -, X11, ⟨Lc11, hQ11, l11, y11, z11⟩, st11⟩ := X4.virtualBack hx (y := (⟨cB, "equals", cH⟩ : MethodName)) (z := (⟨cB, "equals", cH⟩ : MethodName)) hown (mvT hZ (ow hw 96 rfl)) (mvT hZ (ow hw 97 rfl)) (notFace_of_selects (args := #[]) (mvT hZ (ow hw 99 rfl))) (mvT hZ (ow hw 99 rfl)) (mvT hZ (ow hw 98 rfl)) (by decide) (backOf (W := 0) (rm14_1T l Z a0 hw [] r6 r7 zc ga va ka x0 gb vb kb y0 h4 n0 (by omega) S_COMPACT Y13 Y14 Y15 Y16 Y17 Y18 Y19 Y20 n_r6_r7 Y12 hf10 hcs (hga.trans hgb.symm)) hZ (ow hw 100 rfl) (ow hw 2 rfl) (by decide) (by decide)) q11a q11c (g := (mkF m 237 #[sI p0, sI p1, sI p2, sI p3, sI p4, sI p5, sR r6, sR r7, sR r8, sR r9, sI i10, sI z0, sR r12, sI z1, sR la4, sU] [(.ref r7), (.ref r6)])) rfl (by rw [hml]; rfl) (Steps.refl _) (argsL := [(.ref r7)]) (rest := []) (lenOf pd161_0_2 rfl) rfl (le0 rfl) (hb hby at_237) (fun vm₁ hvm => ⟨rfl, e4, (by decide : 32 + 0 ≤ _), (by decide : 9004 + 0 ≤ _)⟩)
    dsimp only [Pt.U, Pt.locs, Pt.cells, Pt.slots] at X11 l11 y11 z11 st11 hQ11
    subst l11 y11 z11
    obtain ⟨rfl, N11q, e11⟩ := hQ11
    have N11 := Fr.app N3 N11q
    refine GoW.trans st11 ?_
    refine GoW.pre (st' := T11.setTop (mkF m 257 #[sI p0, sI p1, sI p2, sI p3, sI p4, sI p5, sR r6, sR r7, sR r8, sR r9, sI i10, sI z0, sR r12, sI z1, sR la4, sI z0] [(.ref r12)])) (fun target kt => ?_) ?_
    · refine XS.ifNo X11.here hx rfl (hb hby at_240) rfl ((if0 _ _).trans (feq (by decide)).1) ?_
      refine XS.iconst X11.here hx rfl (hb hby at_243) ?_
      refine XS.goto X11.here hx rfl (pc0 := 244) (pc' := 248) rfl (hb hby at_244) (by decide) (by decide) ?_
      refine XS.istore X11.here hx rfl (hb hby at_248) rfl (l' := #[.val (.int p0), .val (.int p1), .val (.int p2), .val (.int p3), .val (.int p4), .val (.int p5), .val (.ref r6), .val (.ref r7), .val (.ref r8), .val (.ref r9), .val (.int i10), .val (.int z0), .val (.ref r12), .val (.int z1), .val (.ref la4), .val (.int z0)]) rfl ?_
      refine XS.iload X11.here hx rfl (hb hby at_250) rfl ?_
      refine XS.ifNo X11.here hx rfl (hb hby at_252) rfl ((if0 _ _).trans (feq (by decide)).1) ?_
      refine XS.aload X11.here hx rfl (hb hby at_255) rfl rfl ?_
      exact kt
    have Y22 := (Y3_1.ext E4)
    have Y23 := ((E_r12.keep K3).ext E4)
    obtain ⟨cq21, kq21, q21a, q21b, q21c⟩ := isOf hZ e11 Y23
    obtain ⟨_, _, ⟨T21, L21, k21, n21⟩, -, X21, ⟨Lc21, hQ21, l21, y21, z21⟩, st21⟩ := X11.virtualBack hx (y := (⟨cA, "size", "()I"⟩ : MethodName)) (z := (⟨cA, "size", "()I"⟩ : MethodName)) hown (mvT hZ (ow hw 76 rfl)) (mvT hZ (ow hw 77 rfl)) (notFace_of_selects (args := #[]) (mvT hZ (ow hw 79 rfl))) (mvT hZ (ow hw 79 rfl)) (mvT hZ (ow hw 78 rfl)) (by decide) (backOf (W := 0) (rm11 l Z a0 hw [] r12 z1 h4 n0 (by omega) Y22) hZ (ow hw 80 rfl) (ow hw 29 rfl) (by decide) (by decide)) q21a q21c (g := (mkF m 257 #[sI p0, sI p1, sI p2, sI p3, sI p4, sI p5, sR r6, sR r7, sR r8, sR r9, sI i10, sI z0, sR r12, sI z1, sR la4, sI z0] [(.ref r12)])) rfl (by rw [hml]; rfl) (Steps.refl _) (argsL := []) (rest := []) (lenOf pd161_0_0 rfl) rfl (le0 rfl) (hb hby at_257) (fun vm₁ hvm => ⟨rfl, e11, (by decide : 32 + 0 ≤ _), (by decide : 9004 + 0 ≤ _)⟩)
    dsimp only [Pt.U, Pt.locs, Pt.cells, Pt.slots] at X21 l21 y21 z21 st21 hQ21
    subst l21 y21 z21
    obtain ⟨rfl, N21q, e21⟩ := hQ21
    have N21 := Fr.app N11 N21q
    refine GoW.trans st21 ?_
    refine GoW.pre (st' := T21.setTop (mkF m 266 #[sI p0, sI p1, sI p2, sI p3, sI p4, sI p5, sR r6, sR r7, sR r8, sR r9, sI i10, sI z0, sR r12, sI z1, sR la4, sI z0] [(.ref r12)])) (fun target kt => ?_) ?_
    · refine XS.iconst X21.here hx rfl (hb hby at_260) ?_
      refine XS.icmpNo X21.here hx rfl (hb hby at_261) rfl (teq (by decide)).2 ?_
      refine XS.aload X21.here hx rfl (hb hby at_264) rfl rfl ?_
      exact kt
    have Y25 := (Y3_2.ext E4)
    obtain ⟨cq24, kq24, q24a, q24b, q24c⟩ := isOf hZ e21 Y23
    obtain ⟨_, _, ⟨T24, L24, k24, n24⟩, -, X24, ⟨Lc24, hQ24, l24, y24, z24⟩, st24⟩ := X21.virtualBack hx (y := (⟨cA, "specified", "()I"⟩ : MethodName)) (z := (⟨cA, "specified", "()I"⟩ : MethodName)) hown (mvT hZ (ow hw 81 rfl)) (mvT hZ (ow hw 82 rfl)) (notFace_of_selects (args := #[]) (mvT hZ (ow hw 84 rfl))) (mvT hZ (ow hw 84 rfl)) (mvT hZ (ow hw 83 rfl)) (by decide) (backOf (W := 0) (rm12 l Z a0 hw [] r12 z1 h4 n0 (by omega) Y25) hZ (ow hw 85 rfl) (ow hw 29 rfl) (by decide) (by decide)) q24a q24c (g := (mkF m 266 #[sI p0, sI p1, sI p2, sI p3, sI p4, sI p5, sR r6, sR r7, sR r8, sR r9, sI i10, sI z0, sR r12, sI z1, sR la4, sI z0] [(.ref r12)])) rfl (by rw [hml]; rfl) (Steps.refl _) (argsL := []) (rest := []) (lenOf pd161_0_0 rfl) rfl (le0 rfl) (hb hby at_266) (fun vm₁ hvm => ⟨rfl, e21, (by decide : 32 + 0 ≤ _), (by decide : 9004 + 0 ≤ _)⟩)
    dsimp only [Pt.U, Pt.locs, Pt.cells, Pt.slots] at X24 l24 y24 z24 st24 hQ24
    subst l24 y24 z24
    obtain ⟨rfl, N24q, e24⟩ := hQ24
    have N24 := Fr.app N21 N24q
    refine GoW.trans st24 ?_
    refine GoW.pre (st' := T24.setTop (mkF m 276 #[sI p0, sI p1, sI p2, sI p3, sI p4, sI p5, sR r6, sR r7, sR r8, sR r9, sI i10, sI z0, sR r12, sI z1, sR la4, sI z0] [(.int z0), (.ref r12)])) (fun target kt => ?_) ?_
    · refine XS.iconst X24.here hx rfl (hb hby at_269) ?_
      refine XS.icmpNo X24.here hx rfl (hb hby at_270) rfl (teq (by decide)).2 ?_
      refine XS.aload X24.here hx rfl (hb hby at_273) rfl rfl ?_
      refine XS.iconst X24.here hx rfl (hb hby at_275) ?_
      exact kt
    have Y27 := (Y3_3.ext E4)
    have Y28 := (Y3_4.ext E4)
    have Y29 := (Y3_5.ext E4)
    have Y30 := (Y3_6.ext E4)
    have Y31 := (Y3_7.ext E4)
    have Y32 := (Y3_8.ext E4)
    obtain ⟨cq26, kq26, q26a, q26b, q26c⟩ := isOf hZ e24 Y23
    obtain ⟨_, _, ⟨T26, L26, k26, n26⟩, -, X26', hS26, hgr26, ⟨Lc26, hQ26, l26, y26, z26⟩, st26⟩ := X24.virtualBackS hx (y := (⟨cA, "value", "(I)Ljava/lang/String;"⟩ : MethodName)) (z := (⟨cA, "value", "(I)Ljava/lang/String;"⟩ : MethodName)) hown (mvT hZ (ow hw 104 rfl)) (mvT hZ (ow hw 105 rfl)) (notFace_of_selects (args := #[]) (mvT hZ (ow hw 107 rfl))) (mvT hZ (ow hw 107 rfl)) (mvT hZ (ow hw 106 rfl)) (by decide) (backOfSP (fun vm => JI Z vm ["w", "v"] la4) (W := 0) (rm16_0 l Z a0 hw [] r12 an kan (own_upd fan z0 (.ref r7)) av kav (own_upd fav z0 .null) ae kae (own_upd fae z0 (.int z0)) tx ktx (own_cp (own_lf [(.int c0), (.int c1)] (.int z0)) ftx z0) (.int z1) (.int z0) la4 b4 k4 zf h4 n0 (by omega) Y23 Y22 Y25 Y27 Y28 Y29 Y7 Y30 Y8 Y31 Y9 Y32 Y6 O_an O_av n_r12_an n_r12_av n_r12_ae n_r12_tx n_an_av n_an_ae n_av_ae n_an_tx n_av_tx n_ae_tx (own_hit _ _ _) (own_hit _ _ _) Ea4 Fc4 Fv4 Va4 hcw hheld Y12 S_F hv_zf (by omega)) hZ (ow hw 108 rfl) (ow hw 29 rfl) (by decide) (by decide)) q26a q26c (g := (mkF m 276 #[sI p0, sI p1, sI p2, sI p3, sI p4, sI p5, sR r6, sR r7, sR r8, sR r9, sI i10, sI z0, sR r12, sI z1, sR la4, sI z0] [(.int z0), (.ref r12)])) rfl (by rw [hml]; rfl) (Steps.refl _) (argsL := [(.int z0)]) (rest := []) (lenOf pd161_0_3 rfl) rfl (le0 rfl) (hb hby at_276) (fun vm₁ hvm => ⟨rfl, e24, (by decide : 32 + 3 ≤ _), (by decide : 9004 + 8 ≤ _), JI.mv hI hvm⟩)
    dsimp only [Pt.U, Pt.locs, Pt.cells, Pt.slots] at X26' l26 y26 z26 st26 hQ26 hS26 hgr26
    subst l26 y26 z26
    obtain ⟨X26, hS, hZ, hown⟩ := rebS hS (leH e24 (by omega)) X26' hS26 hgr26 hZ hown
    have hk := Nat.le_refl T26.heap.size
    obtain ⟨b26_0, x26_0, k26_0, rfl, N26q, K26, KF26, gb26_0, ltb26_0, ltx26_0, Y26_0, Y26_1, Y26_2, Y26_3, Y26_4, Y26_5, Y26_6, hI⟩ := hQ26
    have sz26 : h4.size ≤ T26.heap.size := K26.1
    have Y33 := (Y6.keep K26 (ninS (Ne.symm n_av_tx) nin0))
    have ne_x26_0_tx : x26_0 ≠ tx := neAB Y26_6 Y33 (by decide)
    have Y34 := (Y7.keep K26 (ninS n_an_av nin0))
    have ne_x26_0_an : x26_0 ≠ an := neAB Y26_6 Y34 (by decide)
    have Y35 := (Y9.keep K26 (ninS (Ne.symm n_av_ae) nin0))
    have ne_x26_0_ae : x26_0 ≠ ae := neAB Y26_6 Y35 (by decide)
    have ne_x26_0_av : x26_0 ≠ av := neAB Y26_6 Y26_0 (by decide)
    have N26 := Fr.app N24 N26q
    refine GoW.trans st26 ?_
    refine GoW.pre (st' := T26.setTop (mkF m 281 #[sI p0, sI p1, sI p2, sI p3, sI p4, sI p5, sR r6, sR r7, sR r8, sR r9, sI i10, sI z0, sR r12, sI z1, sR la4, sI z0] [(.ref la4), (.ref b26_0)])) (fun target kt => ?_) ?_
    · refine XS.aload X26.here hx rfl (hb hby at_279) rfl rfl ?_
      exact kt
    have Y37 := (Y12.keep K26 (allS (by omega) all0))
    have Y38 := (Ea4.keep K26)
    have Y39 := (Fc4.keep K26 (ninS ne_la4_av nin0))
    have Y40 := (Fv4.keep K26 (ninS ne_la4_av nin0))
    have Y41 := (Va4.keep K26 (ninS ne_b4_av nin0))
    obtain ⟨cq36, kq36, q36a, q36b, q36c⟩ := isOf hZ rfl Y26_1
    obtain ⟨_, _, ⟨T36, L36, k36, n36⟩, -, X36, ⟨Lc36, hQ36, l36, y36, z36⟩, st36⟩ := X26.virtualBack hx (y := (⟨cB, "equals", cH⟩ : MethodName)) (z := (⟨cB, "equals", cH⟩ : MethodName)) hown (mvT hZ (ow hw 96 rfl)) (mvT hZ (ow hw 97 rfl)) (notFace_of_selects (args := #[]) (mvT hZ (ow hw 99 rfl))) (mvT hZ (ow hw 99 rfl)) (mvT hZ (ow hw 98 rfl)) (by decide) (backOf (W := 0) (rm14_0 l Z a0 hw [] b26_0 la4 zc (nar .byte z0) x26_0 k26_0 z0 b4 k4 T26.heap n0 (by omega) S_COMPACT Y26_1 Y26_5 Y26_4 Y26_6 Y38 Y39 Y40 Y41 (neN (by omega)) Y37 hcs (by first | assumption | decide)) hZ (ow hw 100 rfl) (ow hw 2 rfl) (by decide) (by decide)) q36a q36c (g := (mkF m 281 #[sI p0, sI p1, sI p2, sI p3, sI p4, sI p5, sR r6, sR r7, sR r8, sR r9, sI i10, sI z0, sR r12, sI z1, sR la4, sI z0] [(.ref la4), (.ref b26_0)])) rfl (by rw [hml]; rfl) (Steps.refl _) (argsL := [(.ref la4)]) (rest := []) (lenOf pd161_0_2 rfl) rfl (le0 rfl) (hb hby at_281) (fun vm₁ hvm => ⟨rfl, rfl, (by decide : 35 + 0 ≤ _), (by decide : 9012 + 0 ≤ _)⟩)
    dsimp only [Pt.U, Pt.locs, Pt.cells, Pt.slots] at X36 l36 y36 z36 st36 hQ36
    subst l36 y36 z36
    obtain ⟨rfl, N36q, e36⟩ := hQ36
    have N36 := Fr.app N26 N36q
    refine GoW.trans st36 ?_
    refine GoW.pre (st' := T36.setTop (mkF m 291 #[sI p0, sI p1, sI p2, sI p3, sI p4, sI p5, sR r6, sR r7, sR r8, sR r9, sI i10, sI z0, sR r12, sI z1, sR la4, sI z0] [(.ref r6), (.ref r12)])) (fun target kt => ?_) ?_
    · refine XS.ifNo X36.here hx rfl (hb hby at_284) rfl ((if0 _ _).trans (feq (by decide)).1) ?_
      refine XS.aload X36.here hx rfl (hb hby at_287) rfl rfl ?_
      refine XS.aload X36.here hx rfl (hb hby at_289) rfl rfl ?_
      exact kt
    have Y43 := (Y23.keep K26)
    have Y44 := (Y22.keep K26 (ninS n_r12_av nin0))
    have Y45 := (Y25.keep K26 (ninS n_r12_av nin0))
    have Y46 := (Y27.keep K26 (ninS n_r12_av nin0))
    have Y47 := (Y28.keep K26 (ninS n_r12_av nin0))
    have Y48 := (Y29.keep K26 (ninS n_r12_av nin0))
    have Y49 := (Y30.keep K26 (ninS n_r12_av nin0))
    have Y50 := (Y31.keep K26 (ninS n_r12_av nin0))
    have Y51 := (Y32.keep K26 (ninS n_r12_av nin0))
    have Y52 := (Y13.keep K26)
    have Y53 := (Y14.keep K26 (ninS n_r6_av nin0))
    have Y54 := (Y15.keep K26 (ninS n_r6_av nin0))
    have Y55 := (Y16.keep K26 (ninS n_va_av nin0))
    have Y56 := (((F_ha.keep K3 (ninS n_r6_tx (ninS n_r6_r12 (ninS n_r6_an (ninS n_r6_av (ninS n_r6_ae nin0)))))).ext E4).keep K26 (ninS n_r6_av nin0))
    have Y57 := (((F_za.keep K3 (ninS n_r6_tx (ninS n_r6_r12 (ninS n_r6_an (ninS n_r6_av (ninS n_r6_ae nin0)))))).ext E4).keep K26 (ninS n_r6_av nin0))
    have Y58 := (Y17.keep K26)
    have Y59 := (Y18.keep K26 (ninS n_r7_av nin0))
    have Y60 := (Y19.keep K26 (ninS n_r7_av nin0))
    have Y61 := (Y20.keep K26 (ninS n_vb_av nin0))
    have Y62 := (((F_hb.keep K3 (ninS n_r7_tx (ninS n_r7_r12 (ninS n_r7_an (ninS n_r7_av (ninS n_r7_ae nin0)))))).ext E4).keep K26 (ninS n_r7_av nin0))
    have Y63 := (((F_zb.keep K3 (ninS n_r7_tx (ninS n_r7_r12 (ninS n_r7_an (ninS n_r7_av (ninS n_r7_ae nin0)))))).ext E4).keep K26 (ninS n_r7_av nin0))
    obtain ⟨cq42, kq42, q42a, q42b, q42c⟩ := isOf hZ e36 Y43
    obtain ⟨_, _, ⟨T42, L42, k42, n42⟩, -, X42, ⟨Lc42, hQ42, l42, y42, z42⟩, st42⟩ := X36.virtualBack hx (y := (⟨cA, "indexOf", "(Ljava/lang/String;)I"⟩ : MethodName)) (z := (⟨cA, "indexOf", "(Ljava/lang/String;)I"⟩ : MethodName)) hown (mvT hZ (ow hw 131 rfl)) (mvT hZ (ow hw 132 rfl)) (notFace_of_selects (args := #[]) (mvT hZ (ow hw 134 rfl))) (mvT hZ (ow hw 134 rfl)) (mvT hZ (ow hw 133 rfl)) (by decide) (backOf (W := 0) (rm23T l Z a0 hw [] r12 r6 an kan (own_upd fan z0 (.ref r7)) av kav (own_upd (own_upd fav z0 .null) z0 (.ref b26_0)) ae kae (own_upd fae z0 (.int z0)) tx ktx (own_cp (own_lf [(.int c0), (.int c1)] (.int z0)) ftx z0) (.int z1) (.int z0) r7 zc ga va ka x0 gb vb kb y0 T26.heap n0 (by omega) Y43 Y44 Y45 Y46 Y47 Y48 Y34 Y49 Y26_0 Y50 Y35 Y51 Y33 O_an O_av n_r12_an n_r12_av n_r12_ae n_r12_tx n_an_av n_an_ae n_av_ae n_an_tx n_av_tx n_ae_tx S_COMPACT hcs Y52 Y53 Y54 Y55 Y56 Y57 Y58 Y59 Y60 Y61 Y62 Y63 n_r6_r7 n_r6_r12 n_r6_an n_r6_av n_r6_ae n_r6_tx n_r6_va n_r6_vb n_r7_r12 n_r7_an n_r7_av n_r7_ae n_r7_tx n_r7_va n_r7_vb (by first | assumption | decide) (by first | assumption | decide) (own_hit _ _ _) Y37 (by omega) (by omega) (Eq.symm hf10) (by rw [hf10])) hZ (ow hw 135 rfl) (ow hw 29 rfl) (by decide) (by decide)) q42a q42c (g := (mkF m 291 #[sI p0, sI p1, sI p2, sI p3, sI p4, sI p5, sR r6, sR r7, sR r8, sR r9, sI i10, sI z0, sR r12, sI z1, sR la4, sI z0] [(.ref r6), (.ref r12)])) rfl (by rw [hml]; rfl) (Steps.refl _) (argsL := [(.ref r6)]) (rest := []) (lenOf pd161_0_4 rfl) rfl (le0 rfl) (hb hby at_291) (fun vm₁ hvm => ⟨rfl, e36, (by decide : 35 + 0 ≤ _), (by decide : 9012 + 0 ≤ _)⟩)
    dsimp only [Pt.U, Pt.locs, Pt.cells, Pt.slots] at X42 l42 y42 z42 st42 hQ42
    subst l42 y42 z42
    obtain ⟨rfl, N42q, K42, KF42, Y42_0, Y42_1, Y42_2, Y42_3⟩ := hQ42
    have sz42 : T26.heap.size ≤ T42.heap.size := K42.1
    have N42 := Fr.app N36 N42q
    refine GoW.trans st42 ?_
    refine GoW.pre (st' := T42.setTop (mkF m 308 #[sI p0, sI p1, sI p2, sI p3, sI p4, sI p5, sR r6, sR r7, sR r8, sR r9, sI i10, sI z0, sR r12, sI z1, sR la4, sI z0] [(.int z1)])) (fun target kt => ?_) ?_
    · refine XS.iload X42.here hx rfl (hb hby at_294) rfl ?_
      refine XS.icmpNo X42.here hx rfl (hb hby at_296) rfl (teq (by decide)).2 ?_
      refine XS.iconst X42.here hx rfl (hb hby at_299) ?_
      refine XS.goto X42.here hx rfl (pc0 := 300) (pc' := 304) rfl (hb hby at_300) (by decide) (by decide) ?_
      refine XS.istore X42.here hx rfl (hb hby at_304) rfl (l' := #[.val (.int p0), .val (.int p1), .val (.int p2), .val (.int p3), .val (.int p4), .val (.int p5), .val (.ref r6), .val (.ref r7), .val (.ref r8), .val (.ref r9), .val (.int i10), .val (.int z0), .val (.ref r12), .val (.int z1), .val (.ref la4), .val (.int z0)]) rfl ?_
      refine XS.iload X42.here hx rfl (hb hby at_306) rfl ?_
      exact kt
    exact GoW.retN X42 hS (leH rfl (by omega)) hx hlk hrt (z' := z1) (by simp) (hb hby at_308) rfl (by decide) (by decide) (by exact ⟨rfl, N42⟩)
  · have Y65 : Old Z n0 h4 := (Y5.ext E4)
    have Y66 := ((E_r6.keep K3).ext E4)
    have Y67 := ((F_ca.keep K3 (ninS n_r6_tx (ninS n_r6_r12 (ninS n_r6_an (ninS n_r6_av (ninS n_r6_ae nin0)))))).ext E4)
    have Y68 := ((F_va.keep K3 (ninS n_r6_tx (ninS n_r6_r12 (ninS n_r6_an (ninS n_r6_av (ninS n_r6_ae nin0)))))).ext E4)
    have Y69 := ((A_a.keep K3 (ninS n_va_tx (ninS n_va_r12 (ninS n_va_an (ninS n_va_av (ninS n_va_ae nin0)))))).ext E4)
    have Y70 := ((E_r7.keep K3).ext E4)
    have Y71 := ((F_cb.keep K3 (ninS n_r7_tx (ninS n_r7_r12 (ninS n_r7_an (ninS n_r7_av (ninS n_r7_ae nin0)))))).ext E4)
    have Y72 := ((F_vb.keep K3 (ninS n_r7_tx (ninS n_r7_r12 (ninS n_r7_an (ninS n_r7_av (ninS n_r7_ae nin0)))))).ext E4)
    have Y73 := ((A_b.keep K3 (ninS n_vb_tx (ninS n_vb_r12 (ninS n_vb_an (ninS n_vb_av (ninS n_vb_ae nin0)))))).ext E4)
    obtain ⟨cq64, kq64, q64a, q64b, q64c⟩ := isOf hZ e4 Y66
    obtain ⟨_, _, ⟨T64, L64, k64, n64⟩, -, X64, ⟨Lc64, hQ64, l64, y64, z64⟩, st64⟩ := X4.virtualBack hx (y := (⟨cB, "equals", cH⟩ : MethodName)) (z := (⟨cB, "equals", cH⟩ : MethodName)) hown (mvT hZ (ow hw 96 rfl)) (mvT hZ (ow hw 97 rfl)) (notFace_of_selects (args := #[]) (mvT hZ (ow hw 99 rfl))) (mvT hZ (ow hw 99 rfl)) (mvT hZ (ow hw 98 rfl)) (by decide) (backOf (W := 0) (rm14_1F l Z a0 hw [] r6 r7 zc ga va ka x0 gb vb kb y0 h4 n0 (by omega) S_COMPACT Y66 Y67 Y68 Y69 Y70 Y71 Y72 Y73 n_r6_r7 Y65 hf10 hcs (hga.trans hgb.symm)) hZ (ow hw 100 rfl) (ow hw 2 rfl) (by decide) (by decide)) q64a q64c (g := (mkF m 237 #[sI p0, sI p1, sI p2, sI p3, sI p4, sI p5, sR r6, sR r7, sR r8, sR r9, sI i10, sI z0, sR r12, sI z1, sR la4, sU] [(.ref r7), (.ref r6)])) rfl (by rw [hml]; rfl) (Steps.refl _) (argsL := [(.ref r7)]) (rest := []) (lenOf pd161_0_2 rfl) rfl (le0 rfl) (hb hby at_237) (fun vm₁ hvm => ⟨rfl, e4, (by decide : 32 + 0 ≤ _), (by decide : 9004 + 0 ≤ _)⟩)
    dsimp only [Pt.U, Pt.locs, Pt.cells, Pt.slots] at X64 l64 y64 z64 st64 hQ64
    subst l64 y64 z64
    obtain ⟨rfl, N64q, e64⟩ := hQ64
    have N64 := Fr.app N3 N64q
    refine GoW.trans st64 ?_
    refine GoW.pre (st' := T64.setTop (mkF m 257 #[sI p0, sI p1, sI p2, sI p3, sI p4, sI p5, sR r6, sR r7, sR r8, sR r9, sI i10, sI z0, sR r12, sI z1, sR la4, sI (-1 : Int32)] [(.ref r12)])) (fun target kt => ?_) ?_
    · refine XS.ifYes X64.here hx rfl (pc0 := 240) (pc' := 247) rfl (hb hby at_240) rfl ((if0 _ _).trans (teq (by decide)).1) (by decide) (by decide) ?_
      refine XS.iconst X64.here hx rfl (hb hby at_247) ?_
      refine XS.istore X64.here hx rfl (hb hby at_248) rfl (l' := #[.val (.int p0), .val (.int p1), .val (.int p2), .val (.int p3), .val (.int p4), .val (.int p5), .val (.ref r6), .val (.ref r7), .val (.ref r8), .val (.ref r9), .val (.int i10), .val (.int z0), .val (.ref r12), .val (.int z1), .val (.ref la4), .val (.int (-1 : Int32))]) rfl ?_
      refine XS.iload X64.here hx rfl (hb hby at_250) rfl ?_
      refine XS.ifNo X64.here hx rfl (hb hby at_252) rfl ((if0 _ _).trans (feq (by decide)).1) ?_
      refine XS.aload X64.here hx rfl (hb hby at_255) rfl rfl ?_
      exact kt
    have Y75 := (Y3_1.ext E4)
    have Y76 := ((E_r12.keep K3).ext E4)
    obtain ⟨cq74, kq74, q74a, q74b, q74c⟩ := isOf hZ e64 Y76
    obtain ⟨_, _, ⟨T74, L74, k74, n74⟩, -, X74, ⟨Lc74, hQ74, l74, y74, z74⟩, st74⟩ := X64.virtualBack hx (y := (⟨cA, "size", "()I"⟩ : MethodName)) (z := (⟨cA, "size", "()I"⟩ : MethodName)) hown (mvT hZ (ow hw 76 rfl)) (mvT hZ (ow hw 77 rfl)) (notFace_of_selects (args := #[]) (mvT hZ (ow hw 79 rfl))) (mvT hZ (ow hw 79 rfl)) (mvT hZ (ow hw 78 rfl)) (by decide) (backOf (W := 0) (rm11 l Z a0 hw [] r12 z1 h4 n0 (by omega) Y75) hZ (ow hw 80 rfl) (ow hw 29 rfl) (by decide) (by decide)) q74a q74c (g := (mkF m 257 #[sI p0, sI p1, sI p2, sI p3, sI p4, sI p5, sR r6, sR r7, sR r8, sR r9, sI i10, sI z0, sR r12, sI z1, sR la4, sI (-1 : Int32)] [(.ref r12)])) rfl (by rw [hml]; rfl) (Steps.refl _) (argsL := []) (rest := []) (lenOf pd161_0_0 rfl) rfl (le0 rfl) (hb hby at_257) (fun vm₁ hvm => ⟨rfl, e64, (by decide : 32 + 0 ≤ _), (by decide : 9004 + 0 ≤ _)⟩)
    dsimp only [Pt.U, Pt.locs, Pt.cells, Pt.slots] at X74 l74 y74 z74 st74 hQ74
    subst l74 y74 z74
    obtain ⟨rfl, N74q, e74⟩ := hQ74
    have N74 := Fr.app N64 N74q
    refine GoW.trans st74 ?_
    refine GoW.pre (st' := T74.setTop (mkF m 266 #[sI p0, sI p1, sI p2, sI p3, sI p4, sI p5, sR r6, sR r7, sR r8, sR r9, sI i10, sI z0, sR r12, sI z1, sR la4, sI (-1 : Int32)] [(.ref r12)])) (fun target kt => ?_) ?_
    · refine XS.iconst X74.here hx rfl (hb hby at_260) ?_
      refine XS.icmpNo X74.here hx rfl (hb hby at_261) rfl (teq (by decide)).2 ?_
      refine XS.aload X74.here hx rfl (hb hby at_264) rfl rfl ?_
      exact kt
    have Y78 := (Y3_2.ext E4)
    obtain ⟨cq77, kq77, q77a, q77b, q77c⟩ := isOf hZ e74 Y76
    obtain ⟨_, _, ⟨T77, L77, k77, n77⟩, -, X77, ⟨Lc77, hQ77, l77, y77, z77⟩, st77⟩ := X74.virtualBack hx (y := (⟨cA, "specified", "()I"⟩ : MethodName)) (z := (⟨cA, "specified", "()I"⟩ : MethodName)) hown (mvT hZ (ow hw 81 rfl)) (mvT hZ (ow hw 82 rfl)) (notFace_of_selects (args := #[]) (mvT hZ (ow hw 84 rfl))) (mvT hZ (ow hw 84 rfl)) (mvT hZ (ow hw 83 rfl)) (by decide) (backOf (W := 0) (rm12 l Z a0 hw [] r12 z1 h4 n0 (by omega) Y78) hZ (ow hw 85 rfl) (ow hw 29 rfl) (by decide) (by decide)) q77a q77c (g := (mkF m 266 #[sI p0, sI p1, sI p2, sI p3, sI p4, sI p5, sR r6, sR r7, sR r8, sR r9, sI i10, sI z0, sR r12, sI z1, sR la4, sI (-1 : Int32)] [(.ref r12)])) rfl (by rw [hml]; rfl) (Steps.refl _) (argsL := []) (rest := []) (lenOf pd161_0_0 rfl) rfl (le0 rfl) (hb hby at_266) (fun vm₁ hvm => ⟨rfl, e74, (by decide : 32 + 0 ≤ _), (by decide : 9004 + 0 ≤ _)⟩)
    dsimp only [Pt.U, Pt.locs, Pt.cells, Pt.slots] at X77 l77 y77 z77 st77 hQ77
    subst l77 y77 z77
    obtain ⟨rfl, N77q, e77⟩ := hQ77
    have N77 := Fr.app N74 N77q
    refine GoW.trans st77 ?_
    refine GoW.pre (st' := T77.setTop (mkF m 276 #[sI p0, sI p1, sI p2, sI p3, sI p4, sI p5, sR r6, sR r7, sR r8, sR r9, sI i10, sI z0, sR r12, sI z1, sR la4, sI (-1 : Int32)] [(.int z0), (.ref r12)])) (fun target kt => ?_) ?_
    · refine XS.iconst X77.here hx rfl (hb hby at_269) ?_
      refine XS.icmpNo X77.here hx rfl (hb hby at_270) rfl (teq (by decide)).2 ?_
      refine XS.aload X77.here hx rfl (hb hby at_273) rfl rfl ?_
      refine XS.iconst X77.here hx rfl (hb hby at_275) ?_
      exact kt
    have Y80 := (Y3_3.ext E4)
    have Y81 := (Y3_4.ext E4)
    have Y82 := (Y3_5.ext E4)
    have Y83 := (Y3_6.ext E4)
    have Y84 := (Y3_7.ext E4)
    have Y85 := (Y3_8.ext E4)
    obtain ⟨cq79, kq79, q79a, q79b, q79c⟩ := isOf hZ e77 Y76
    obtain ⟨_, _, ⟨T79, L79, k79, n79⟩, -, X79', hS79, hgr79, ⟨Lc79, hQ79, l79, y79, z79⟩, st79⟩ := X77.virtualBackS hx (y := (⟨cA, "value", "(I)Ljava/lang/String;"⟩ : MethodName)) (z := (⟨cA, "value", "(I)Ljava/lang/String;"⟩ : MethodName)) hown (mvT hZ (ow hw 104 rfl)) (mvT hZ (ow hw 105 rfl)) (notFace_of_selects (args := #[]) (mvT hZ (ow hw 107 rfl))) (mvT hZ (ow hw 107 rfl)) (mvT hZ (ow hw 106 rfl)) (by decide) (backOfSP (fun vm => JI Z vm ["w", "v"] la4) (W := 0) (rm16_0 l Z a0 hw [] r12 an kan (own_upd fan z0 (.ref r7)) av kav (own_upd fav z0 .null) ae kae (own_upd fae z0 (.int z0)) tx ktx (own_cp (own_lf [(.int c0), (.int c1)] (.int z0)) ftx z0) (.int z1) (.int z0) la4 b4 k4 zf h4 n0 (by omega) Y76 Y75 Y78 Y80 Y81 Y82 Y7 Y83 Y8 Y84 Y9 Y85 Y6 O_an O_av n_r12_an n_r12_av n_r12_ae n_r12_tx n_an_av n_an_ae n_av_ae n_an_tx n_av_tx n_ae_tx (own_hit _ _ _) (own_hit _ _ _) Ea4 Fc4 Fv4 Va4 hcw hheld Y65 S_F hv_zf (by omega)) hZ (ow hw 108 rfl) (ow hw 29 rfl) (by decide) (by decide)) q79a q79c (g := (mkF m 276 #[sI p0, sI p1, sI p2, sI p3, sI p4, sI p5, sR r6, sR r7, sR r8, sR r9, sI i10, sI z0, sR r12, sI z1, sR la4, sI (-1 : Int32)] [(.int z0), (.ref r12)])) rfl (by rw [hml]; rfl) (Steps.refl _) (argsL := [(.int z0)]) (rest := []) (lenOf pd161_0_3 rfl) rfl (le0 rfl) (hb hby at_276) (fun vm₁ hvm => ⟨rfl, e77, (by decide : 32 + 3 ≤ _), (by decide : 9004 + 8 ≤ _), JI.mv hI hvm⟩)
    dsimp only [Pt.U, Pt.locs, Pt.cells, Pt.slots] at X79' l79 y79 z79 st79 hQ79 hS79 hgr79
    subst l79 y79 z79
    obtain ⟨X79, hS, hZ, hown⟩ := rebS hS (leH e77 (by omega)) X79' hS79 hgr79 hZ hown
    have hk := Nat.le_refl T79.heap.size
    obtain ⟨b79_0, x79_0, k79_0, rfl, N79q, K79, KF79, gb79_0, ltb79_0, ltx79_0, Y79_0, Y79_1, Y79_2, Y79_3, Y79_4, Y79_5, Y79_6, hI⟩ := hQ79
    have sz79 : h4.size ≤ T79.heap.size := K79.1
    have Y86 := (Y6.keep K79 (ninS (Ne.symm n_av_tx) nin0))
    have ne_x79_0_tx : x79_0 ≠ tx := neAB Y79_6 Y86 (by decide)
    have Y87 := (Y7.keep K79 (ninS n_an_av nin0))
    have ne_x79_0_an : x79_0 ≠ an := neAB Y79_6 Y87 (by decide)
    have Y88 := (Y9.keep K79 (ninS (Ne.symm n_av_ae) nin0))
    have ne_x79_0_ae : x79_0 ≠ ae := neAB Y79_6 Y88 (by decide)
    have ne_x79_0_av : x79_0 ≠ av := neAB Y79_6 Y79_0 (by decide)
    have N79 := Fr.app N77 N79q
    refine GoW.trans st79 ?_
    refine GoW.pre (st' := T79.setTop (mkF m 281 #[sI p0, sI p1, sI p2, sI p3, sI p4, sI p5, sR r6, sR r7, sR r8, sR r9, sI i10, sI z0, sR r12, sI z1, sR la4, sI (-1 : Int32)] [(.ref la4), (.ref b79_0)])) (fun target kt => ?_) ?_
    · refine XS.aload X79.here hx rfl (hb hby at_279) rfl rfl ?_
      exact kt
    have Y90 := (Y65.keep K79 (allS (by omega) all0))
    have Y91 := (Ea4.keep K79)
    have Y92 := (Fc4.keep K79 (ninS ne_la4_av nin0))
    have Y93 := (Fv4.keep K79 (ninS ne_la4_av nin0))
    have Y94 := (Va4.keep K79 (ninS ne_b4_av nin0))
    obtain ⟨cq89, kq89, q89a, q89b, q89c⟩ := isOf hZ rfl Y79_1
    obtain ⟨_, _, ⟨T89, L89, k89, n89⟩, -, X89, ⟨Lc89, hQ89, l89, y89, z89⟩, st89⟩ := X79.virtualBack hx (y := (⟨cB, "equals", cH⟩ : MethodName)) (z := (⟨cB, "equals", cH⟩ : MethodName)) hown (mvT hZ (ow hw 96 rfl)) (mvT hZ (ow hw 97 rfl)) (notFace_of_selects (args := #[]) (mvT hZ (ow hw 99 rfl))) (mvT hZ (ow hw 99 rfl)) (mvT hZ (ow hw 98 rfl)) (by decide) (backOf (W := 0) (rm14_0 l Z a0 hw [] b79_0 la4 zc (nar .byte z0) x79_0 k79_0 z0 b4 k4 T79.heap n0 (by omega) S_COMPACT Y79_1 Y79_5 Y79_4 Y79_6 Y91 Y92 Y93 Y94 (neN (by omega)) Y90 hcs (by first | assumption | decide)) hZ (ow hw 100 rfl) (ow hw 2 rfl) (by decide) (by decide)) q89a q89c (g := (mkF m 281 #[sI p0, sI p1, sI p2, sI p3, sI p4, sI p5, sR r6, sR r7, sR r8, sR r9, sI i10, sI z0, sR r12, sI z1, sR la4, sI (-1 : Int32)] [(.ref la4), (.ref b79_0)])) rfl (by rw [hml]; rfl) (Steps.refl _) (argsL := [(.ref la4)]) (rest := []) (lenOf pd161_0_2 rfl) rfl (le0 rfl) (hb hby at_281) (fun vm₁ hvm => ⟨rfl, rfl, (by decide : 35 + 0 ≤ _), (by decide : 9012 + 0 ≤ _)⟩)
    dsimp only [Pt.U, Pt.locs, Pt.cells, Pt.slots] at X89 l89 y89 z89 st89 hQ89
    subst l89 y89 z89
    obtain ⟨rfl, N89q, e89⟩ := hQ89
    have N89 := Fr.app N79 N89q
    refine GoW.trans st89 ?_
    refine GoW.pre (st' := T89.setTop (mkF m 291 #[sI p0, sI p1, sI p2, sI p3, sI p4, sI p5, sR r6, sR r7, sR r8, sR r9, sI i10, sI z0, sR r12, sI z1, sR la4, sI (-1 : Int32)] [(.ref r6), (.ref r12)])) (fun target kt => ?_) ?_
    · refine XS.ifNo X89.here hx rfl (hb hby at_284) rfl ((if0 _ _).trans (feq (by decide)).1) ?_
      refine XS.aload X89.here hx rfl (hb hby at_287) rfl rfl ?_
      refine XS.aload X89.here hx rfl (hb hby at_289) rfl rfl ?_
      exact kt
    have Y96 := (Y76.keep K79)
    have Y97 := (Y75.keep K79 (ninS n_r12_av nin0))
    have Y98 := (Y78.keep K79 (ninS n_r12_av nin0))
    have Y99 := (Y80.keep K79 (ninS n_r12_av nin0))
    have Y100 := (Y81.keep K79 (ninS n_r12_av nin0))
    have Y101 := (Y82.keep K79 (ninS n_r12_av nin0))
    have Y102 := (Y83.keep K79 (ninS n_r12_av nin0))
    have Y103 := (Y84.keep K79 (ninS n_r12_av nin0))
    have Y104 := (Y85.keep K79 (ninS n_r12_av nin0))
    have Y105 := (Y66.keep K79)
    have Y106 := (Y67.keep K79 (ninS n_r6_av nin0))
    have Y107 := (Y68.keep K79 (ninS n_r6_av nin0))
    have Y108 := (Y69.keep K79 (ninS n_va_av nin0))
    have Y109 := (((F_ha.keep K3 (ninS n_r6_tx (ninS n_r6_r12 (ninS n_r6_an (ninS n_r6_av (ninS n_r6_ae nin0)))))).ext E4).keep K79 (ninS n_r6_av nin0))
    have Y110 := (((F_za.keep K3 (ninS n_r6_tx (ninS n_r6_r12 (ninS n_r6_an (ninS n_r6_av (ninS n_r6_ae nin0)))))).ext E4).keep K79 (ninS n_r6_av nin0))
    have Y111 := (Y70.keep K79)
    have Y112 := (Y71.keep K79 (ninS n_r7_av nin0))
    have Y113 := (Y72.keep K79 (ninS n_r7_av nin0))
    have Y114 := (Y73.keep K79 (ninS n_vb_av nin0))
    have Y115 := (((F_hb.keep K3 (ninS n_r7_tx (ninS n_r7_r12 (ninS n_r7_an (ninS n_r7_av (ninS n_r7_ae nin0)))))).ext E4).keep K79 (ninS n_r7_av nin0))
    have Y116 := (((F_zb.keep K3 (ninS n_r7_tx (ninS n_r7_r12 (ninS n_r7_an (ninS n_r7_av (ninS n_r7_ae nin0)))))).ext E4).keep K79 (ninS n_r7_av nin0))
    obtain ⟨cq95, kq95, q95a, q95b, q95c⟩ := isOf hZ e89 Y96
    obtain ⟨_, _, ⟨T95, L95, k95, n95⟩, -, X95, ⟨Lc95, hQ95, l95, y95, z95⟩, st95⟩ := X89.virtualBack hx (y := (⟨cA, "indexOf", "(Ljava/lang/String;)I"⟩ : MethodName)) (z := (⟨cA, "indexOf", "(Ljava/lang/String;)I"⟩ : MethodName)) hown (mvT hZ (ow hw 131 rfl)) (mvT hZ (ow hw 132 rfl)) (notFace_of_selects (args := #[]) (mvT hZ (ow hw 134 rfl))) (mvT hZ (ow hw 134 rfl)) (mvT hZ (ow hw 133 rfl)) (by decide) (backOf (W := 0) (rm23F l Z a0 hw [] r12 r6 an kan (own_upd fan z0 (.ref r7)) av kav (own_upd (own_upd fav z0 .null) z0 (.ref b79_0)) ae kae (own_upd fae z0 (.int z0)) tx ktx (own_cp (own_lf [(.int c0), (.int c1)] (.int z0)) ftx z0) (.int z1) (.int z0) r7 zc ga va ka x0 gb vb kb y0 T79.heap n0 (by omega) Y96 Y97 Y98 Y99 Y100 Y101 Y87 Y102 Y79_0 Y103 Y88 Y104 Y86 O_an O_av n_r12_an n_r12_av n_r12_ae n_r12_tx n_an_av n_an_ae n_av_ae n_an_tx n_av_tx n_ae_tx S_COMPACT hcs Y105 Y106 Y107 Y108 Y109 Y110 Y111 Y112 Y113 Y114 Y115 Y116 n_r6_r7 n_r6_r12 n_r6_an n_r6_av n_r6_ae n_r6_tx n_r6_va n_r6_vb n_r7_r12 n_r7_an n_r7_av n_r7_ae n_r7_tx n_r7_va n_r7_vb (by first | assumption | decide) (by first | assumption | decide) (own_hit _ _ _) Y90 (by omega) (by omega) (hb255 hf10)) hZ (ow hw 135 rfl) (ow hw 29 rfl) (by decide) (by decide)) q95a q95c (g := (mkF m 291 #[sI p0, sI p1, sI p2, sI p3, sI p4, sI p5, sR r6, sR r7, sR r8, sR r9, sI i10, sI z0, sR r12, sI z1, sR la4, sI (-1 : Int32)] [(.ref r6), (.ref r12)])) rfl (by rw [hml]; rfl) (Steps.refl _) (argsL := [(.ref r6)]) (rest := []) (lenOf pd161_0_4 rfl) rfl (le0 rfl) (hb hby at_291) (fun vm₁ hvm => ⟨rfl, e89, (by decide : 35 + 0 ≤ _), (by decide : 9012 + 0 ≤ _)⟩)
    dsimp only [Pt.U, Pt.locs, Pt.cells, Pt.slots] at X95 l95 y95 z95 st95 hQ95
    subst l95 y95 z95
    obtain ⟨rfl, N95q, K95, KF95, Y95_0, Y95_1, Y95_2, Y95_3⟩ := hQ95
    have sz95 : T79.heap.size ≤ T95.heap.size := K95.1
    have N95 := Fr.app N89 N95q
    refine GoW.trans st95 ?_
    refine GoW.pre (st' := T95.setTop (mkF m 308 #[sI p0, sI p1, sI p2, sI p3, sI p4, sI p5, sR r6, sR r7, sR r8, sR r9, sI i10, sI z0, sR r12, sI z1, sR la4, sI (-1 : Int32)] [(.int z1)])) (fun target kt => ?_) ?_
    · refine XS.iload X95.here hx rfl (hb hby at_294) rfl ?_
      refine XS.icmpNo X95.here hx rfl (hb hby at_296) rfl (teq (by decide)).2 ?_
      refine XS.iconst X95.here hx rfl (hb hby at_299) ?_
      refine XS.goto X95.here hx rfl (pc0 := 300) (pc' := 304) rfl (hb hby at_300) (by decide) (by decide) ?_
      refine XS.istore X95.here hx rfl (hb hby at_304) rfl (l' := #[.val (.int p0), .val (.int p1), .val (.int p2), .val (.int p3), .val (.int p4), .val (.int p5), .val (.ref r6), .val (.ref r7), .val (.ref r8), .val (.ref r9), .val (.int i10), .val (.int z0), .val (.ref r12), .val (.int z1), .val (.ref la4), .val (.int (-1 : Int32))]) rfl ?_
      refine XS.iload X95.here hx rfl (hb hby at_306) rfl ?_
      exact kt
    exact GoW.retN X95 hS (leH rfl (by omega)) hx hlk hrt (z' := z1) (by simp) (hb hby at_308) rfl (by decide) (by decide) (by exact ⟨rfl, N95⟩)
theorem pd161_1_0 : parseMethodDescriptor "()I" = some ⟨[], some .int⟩ := by decide +kernel
theorem pd161_1_1 : parseMethodDescriptor "(Ljava/lang/String;[CII)V" = some ⟨[(.object "java/lang/String"), (.array .char), .int, .int], none⟩ := by decide +kernel
theorem pd161_1_2 : parseMethodDescriptor "(C)Ljava/lang/String;" = some ⟨[.char], some (.object "java/lang/String")⟩ := by decide +kernel
theorem pd161_1_3 : parseMethodDescriptor "(Ljava/lang/Object;)Z" = some ⟨[(.object "java/lang/Object")], some .boolean⟩ := by decide +kernel
theorem pd161_1_4 : parseMethodDescriptor "(I)Ljava/lang/String;" = some ⟨[.int], some (.object "java/lang/String")⟩ := by decide +kernel
theorem pd161_1_5 : parseMethodDescriptor "(Ljava/lang/String;)I" = some ⟨[(.object "java/lang/String")], some .int⟩ := by decide +kernel
theorem blk161_1 {p : Program} {l : Launch} {e : Env} {s : State} {m : MethodId} {args : Array Value} {below : List Frame} {meth : Method} {c : Code} {Z : State} {a0 : Array Value} {T : State} {locs : List Loc} {h0 : Heap} {n0 : Nat} {vm0 : Vm} {k0 : Nat} (C : Ctx p (s.setVm vm0) m meth c Z code 16 "com/example/satzung/satzung/parse/AttributesClearPinLaw" (some .boolean)) (hw : ∀ d ∈ tables_1, d.before a0 Z = true) (hS : s.Since vm0 k0) (hk : k0 ≤ h0.size) (hI : IB Z vm0 ["w", "v"]) (hnS : n0 = s.heap.size) (hkp : ∀ (b : Addr) (cl : Cell), Z.heap[b]? = some cl → s.heap[b]? = some cl)
    (X0 : Stand p l e room_1 (s.setVm vm0) m args below meth c T locs 30 9000) (e0 : T.heap = h0) (N0 : Fr n0 locs) (p0 : Int32) (p1 : Int32) (p2 : Int32) (p3 : Int32) (p4 : Int32) (p5 : Int32) (r6 : Addr) (r7 : Addr) (r8 : Addr) (r9 : Addr) (i10 : Int32) (r12 : Addr) (zc : Int32) (zf : Value) (ga : Int32) (va : Addr) (ka : ClassId) (x0 : Int32) (gb : Int32) (vb : Addr) (kb : ClassId) (y0 : Int32) (kg : ClassId) (c0 : Int32) (c1 : Int32) (an : Addr) (kan : ClassId) (fan : Int32 → Value) (av : Addr) (kav : ClassId) (fav : Int32 → Value) (ae : Addr) (kae : ClassId) (fae : Int32 → Value) (tx : Addr) (ktx : ClassId) (ftx : Int32 → Value) (Z0 : n0 ≤ h0.size) (S_COMPACT : Sta Z Z.heap cB "COMPACT_STRINGS" "Z" (.int zc)) (hcs : ¬ (zc = z0)) (S_F : Sta Z Z.heap cE "SIOOBE_FORMATTER" "Ljava/util/function/BiFunction;" zf) (hv_zf : zf.isRef = true) (hcw : Jvm.Lit.compactW.before a0 Z = true) (hheld : ∀ q ∈ consts_1, Jvm.Lit.constHeld Z q.1 q.2) (Ol : Old Z n0 h0) (E_r6 : Exa Z h0 r6 cB) (F_ca : Fld Z h0 r6 cB "coder" "B" (.int ga)) (F_va : Fld Z h0 r6 cB "value" "[B" (.ref va)) (A_a : Arv Z h0 va ka .byte z1 [(.int x0)] (.int z0)) (F_ha : Fld Z h0 r6 cB "hash" "I" (.int z0)) (F_za : Fld Z h0 r6 cB "hashIsZero" "Z" (.int z0)) (E_r7 : Exa Z h0 r7 cB) (F_cb : Fld Z h0 r7 cB "coder" "B" (.int gb)) (F_vb : Fld Z h0 r7 cB "value" "[B" (.ref vb)) (A_b : Arv Z h0 vb kb .byte z1 [(.int y0)] (.int z0)) (F_hb : Fld Z h0 r7 cB "hash" "I" (.int z0)) (F_zb : Fld Z h0 r7 cB "hashIsZero" "Z" (.int z0)) (hga : ga = z0) (hgb : gb = z0) (hb255 : ¬ x0 = y0 → ¬ (y0 &&& z255) = (x0 &&& z255)) (A_r9 : Arv Z h0 r9 kg .char z2 [(.int c0), (.int c1)] (.int z0)) (hc0 : ¬ (z255 < c0)) (hc1 : ¬ (z255 < c1)) (E_r12 : Exa Z h0 r12 cA) (F_se : Fld Z h0 r12 cA "size" "I" (.int z0)) (F_sd : Fld Z h0 r12 cA "specified" "I" (.int z0)) (F_th : Fld Z h0 r12 cA "textLength" "I" (.int z0)) (F_ix : Fld Z h0 r12 cA "index" "Ljava/util/Map;" .null) (Fan : Fld Z h0 r12 cA "names" cD (.ref an)) (B_an : Arf Z h0 an kan (.object cB) z16 fan) (Fav : Fld Z h0 r12 cA "values" cD (.ref av)) (B_av : Arf Z h0 av kav (.object cB) z16 fav) (Fae : Fld Z h0 r12 cA "ends" "[I" (.ref ae)) (B_ae : Arf Z h0 ae kae .int z16 fae) (Ftx : Fld Z h0 r12 cA "text" "[C" (.ref tx)) (B_tx : Arf Z h0 tx ktx .char z1024 ftx) (O_an : Ovr Z kan cB) (O_av : Ovr Z kav cB) (n_r12_an : r12 ≠ an) (n_r12_av : r12 ≠ av) (n_r12_ae : r12 ≠ ae) (n_r12_tx : r12 ≠ tx) (n_an_av : an ≠ av) (n_an_ae : an ≠ ae) (n_av_ae : av ≠ ae) (n_an_tx : an ≠ tx) (n_av_tx : av ≠ tx) (n_ae_tx : ae ≠ tx) (n_r6_r7 : r6 ≠ r7) (n_r6_an : r6 ≠ an) (n_r6_av : r6 ≠ av) (n_r6_ae : r6 ≠ ae) (n_r6_tx : r6 ≠ tx) (n_r6_r12 : r6 ≠ r12) (n_r7_an : r7 ≠ an) (n_r7_av : r7 ≠ av) (n_r7_ae : r7 ≠ ae) (n_r7_tx : r7 ≠ tx) (n_r7_r12 : r7 ≠ r12) (n_va_an : va ≠ an) (n_va_av : va ≠ av) (n_va_ae : va ≠ ae) (n_va_tx : va ≠ tx) (n_va_r12 : va ≠ r12) (n_vb_an : vb ≠ an) (n_vb_av : vb ≠ av) (n_vb_ae : vb ≠ ae) (n_vb_tx : vb ≠ tx) (n_vb_r12 : vb ≠ r12) (n_r9_an : r9 ≠ an) (n_r9_av : r9 ≠ av) (n_r9_ae : r9 ≠ ae) (n_r9_tx : r9 ≠ tx) (n_r9_r12 : r9 ≠ r12) (n_r6_va : r6 ≠ va) (n_r6_vb : r6 ≠ vb) (n_r6_r9 : r6 ≠ r9) (n_r7_va : r7 ≠ va) (n_r7_vb : r7 ≠ vb) (n_r7_r9 : r7 ≠ r9) (g_r6 : n0 ≤ r6) (g_r7 : n0 ≤ r7) (g_r12 : n0 ≤ r12) (g_an : n0 ≤ an) (g_av : n0 ≤ av) (g_ae : n0 ≤ ae) (g_tx : n0 ≤ tx) :
    GoW p e below s 56 16640 (fun v vm h L => v = some (.int 1) ∧ Fr n0 L) (T.setTop (mkF m 161 #[sI p0, sI p1, sI p2, sI p3, sI p4, sI p5, sR r6, sR r7, sR r8, sR r9, sI i10, sI z1, sR r12, sU, sU, sU] [])) := by
  obtain ⟨hx, hZ, hby, hml, hown, hrt, hlk⟩ := id C
  have lt_E_r6 : LT.lt (α := Nat) r6 h0.size := E_r6.lt
  have lt_A_a : LT.lt (α := Nat) va h0.size := A_a.lt
  have lt_E_r7 : LT.lt (α := Nat) r7 h0.size := E_r7.lt
  have lt_A_b : LT.lt (α := Nat) vb h0.size := A_b.lt
  have lt_A_r9 : LT.lt (α := Nat) r9 h0.size := A_r9.lt
  have lt_E_r12 : LT.lt (α := Nat) r12 h0.size := E_r12.lt
  have lt_B_an : LT.lt (α := Nat) an h0.size := B_an.lt
  have lt_B_av : LT.lt (α := Nat) av h0.size := B_av.lt
  have lt_B_ae : LT.lt (α := Nat) ae h0.size := B_ae.lt
  have lt_B_tx : LT.lt (α := Nat) tx h0.size := B_tx.lt
  refine GoW.pre (st' := T.setTop (mkF m 163 #[sI p0, sI p1, sI p2, sI p3, sI p4, sI p5, sR r6, sR r7, sR r8, sR r9, sI i10, sI z1, sR r12, sU, sU, sU] [(.ref r12)])) (fun target kt => ?_) ?_
  · refine XS.aload X0.here hx rfl (hb hby at_161) rfl rfl ?_
    exact kt
  obtain ⟨cq1, kq1, q1a, q1b, q1c⟩ := isOf hZ e0 E_r12
  obtain ⟨_, _, ⟨T1, L1, k1, n1⟩, -, X1, ⟨Lc1, hQ1, l1, y1, z1⟩, st1⟩ := X0.virtualBack hx (y := (⟨cA, "size", "()I"⟩ : MethodName)) (z := (⟨cA, "size", "()I"⟩ : MethodName)) hown (mvT hZ (ow hw 76 rfl)) (mvT hZ (ow hw 77 rfl)) (notFace_of_selects (args := #[]) (mvT hZ (ow hw 79 rfl))) (mvT hZ (ow hw 79 rfl)) (mvT hZ (ow hw 78 rfl)) (by decide) (backOf (W := 0) (rm11 l Z a0 hw [] r12 z0 h0 n0 (by omega) F_se) hZ (ow hw 80 rfl) (ow hw 29 rfl) (by decide) (by decide)) q1a q1c (g := (mkF m 163 #[sI p0, sI p1, sI p2, sI p3, sI p4, sI p5, sR r6, sR r7, sR r8, sR r9, sI i10, sI z1, sR r12, sU, sU, sU] [(.ref r12)])) rfl (by rw [hml]; rfl) (Steps.refl _) (argsL := []) (rest := []) (lenOf pd161_1_0 rfl) rfl (le0 rfl) (hb hby at_163) (fun vm₁ hvm => ⟨rfl, e0, (by decide : 30 + 0 ≤ _), (by decide : 9000 + 0 ≤ _)⟩)
  dsimp only [Pt.U, Pt.locs, Pt.cells, Pt.slots] at X1 l1 y1 z1 st1 hQ1
  subst l1 y1 z1
  obtain ⟨rfl, N1q, e1⟩ := hQ1
  have N1 := Fr.app N0 N1q
  refine GoW.trans st1 ?_
  refine GoW.pre (st' := T1.setTop (mkF m 171 #[sI p0, sI p1, sI p2, sI p3, sI p4, sI p5, sR r6, sR r7, sR r8, sR r9, sI i10, sI z1, sR r12, sU, sU, sU] [(.ref r12)])) (fun target kt => ?_) ?_
  · refine XS.ifNo X1.here hx rfl (hb hby at_166) rfl ((if0 _ _).trans (teq (by decide)).2) ?_
    refine XS.aload X1.here hx rfl (hb hby at_169) rfl rfl ?_
    exact kt
  obtain ⟨cq2, kq2, q2a, q2b, q2c⟩ := isOf hZ e1 E_r12
  obtain ⟨_, _, ⟨T2, L2, k2, n2⟩, -, X2, ⟨Lc2, hQ2, l2, y2, z2⟩, st2⟩ := X1.virtualBack hx (y := (⟨cA, "specified", "()I"⟩ : MethodName)) (z := (⟨cA, "specified", "()I"⟩ : MethodName)) hown (mvT hZ (ow hw 81 rfl)) (mvT hZ (ow hw 82 rfl)) (notFace_of_selects (args := #[]) (mvT hZ (ow hw 84 rfl))) (mvT hZ (ow hw 84 rfl)) (mvT hZ (ow hw 83 rfl)) (by decide) (backOf (W := 0) (rm12 l Z a0 hw [] r12 z0 h0 n0 (by omega) F_sd) hZ (ow hw 85 rfl) (ow hw 29 rfl) (by decide) (by decide)) q2a q2c (g := (mkF m 171 #[sI p0, sI p1, sI p2, sI p3, sI p4, sI p5, sR r6, sR r7, sR r8, sR r9, sI i10, sI z1, sR r12, sU, sU, sU] [(.ref r12)])) rfl (by rw [hml]; rfl) (Steps.refl _) (argsL := []) (rest := []) (lenOf pd161_1_0 rfl) rfl (le0 rfl) (hb hby at_171) (fun vm₁ hvm => ⟨rfl, e1, (by decide : 30 + 0 ≤ _), (by decide : 9000 + 0 ≤ _)⟩)
  dsimp only [Pt.U, Pt.locs, Pt.cells, Pt.slots] at X2 l2 y2 z2 st2 hQ2
  subst l2 y2 z2
  obtain ⟨rfl, N2q, e2⟩ := hQ2
  have N2 := Fr.app N1 N2q
  refine GoW.trans st2 ?_
  refine GoW.pre (st' := T2.setTop (mkF m 193 #[sI p0, sI p1, sI p2, sI p3, sI p4, sI p5, sR r6, sR r7, sR r8, sR r9, sI i10, sI z1, sR r12, sI z1, sU, sU] [(.int z1), (.int z0), (.ref r9), (.ref r7), (.ref r12)])) (fun target kt => ?_) ?_
  · refine XS.ifNo X2.here hx rfl (hb hby at_174) rfl ((if0 _ _).trans (teq (by decide)).2) ?_
    refine XS.iconst X2.here hx rfl (hb hby at_177) ?_
    refine XS.goto X2.here hx rfl (pc0 := 178) (pc' := 182) rfl (hb hby at_178) (by decide) (by decide) ?_
    refine XS.istore X2.here hx rfl (hb hby at_182) rfl (l' := #[.val (.int p0), .val (.int p1), .val (.int p2), .val (.int p3), .val (.int p4), .val (.int p5), .val (.ref r6), .val (.ref r7), .val (.ref r8), .val (.ref r9), .val (.int i10), .val (.int z1), .val (.ref r12), .val (.int z1), .unset, .unset]) rfl ?_
    refine XS.aload X2.here hx rfl (hb hby at_184) rfl rfl ?_
    refine XS.aload X2.here hx rfl (hb hby at_186) rfl rfl ?_
    refine XS.aload X2.here hx rfl (hb hby at_188) rfl rfl ?_
    refine XS.iconst X2.here hx rfl (hb hby at_190) ?_
    refine XS.iload X2.here hx rfl (hb hby at_191) rfl ?_
    exact kt
  obtain ⟨cq3, kq3, q3a, q3b, q3c⟩ := isOf hZ e2 E_r12
  obtain ⟨_, _, ⟨T3, L3, k3, n3⟩, -, X3, ⟨Lc3, hQ3, l3, y3, z3⟩, st3⟩ := X2.virtualBack hx (y := (⟨cA, "add", "(Ljava/lang/String;[CII)V"⟩ : MethodName)) (z := (⟨cA, "add", "(Ljava/lang/String;[CII)V"⟩ : MethodName)) hown (mvT hZ (ow hw 86 rfl)) (mvT hZ (ow hw 87 rfl)) (notFace_of_selects (args := #[]) (mvT hZ (ow hw 89 rfl))) (mvT hZ (ow hw 89 rfl)) (mvT hZ (ow hw 88 rfl)) (by decide) (backOf (W := 0) (rm13_1 l Z a0 hw [] r12 r7 r9 an kan fan av kav fav ae kae fae tx ktx ftx (.int z0) kg c0 c1 h0 n0 (by omega) E_r12 F_se F_sd F_th F_ix Fan B_an Fav B_av Fae B_ae Ftx B_tx O_an O_av n_r12_an n_r12_av n_r12_ae n_r12_tx n_an_av n_an_ae n_av_ae n_an_tx n_av_tx n_ae_tx A_r9 E_r7 n_r9_an n_r9_av n_r9_ae n_r9_tx (Ne.symm n_r9_r12) (by omega) (by omega) (by omega) (by omega) (by omega)) hZ (ow hw 90 rfl) (ow hw 29 rfl) (by decide) (by decide)) q3a q3c (g := (mkF m 193 #[sI p0, sI p1, sI p2, sI p3, sI p4, sI p5, sR r6, sR r7, sR r8, sR r9, sI i10, sI z1, sR r12, sI z1, sU, sU] [(.int z1), (.int z0), (.ref r9), (.ref r7), (.ref r12)])) rfl (by rw [hml]; rfl) (Steps.refl _) (argsL := [(.ref r7), (.ref r9), (.int z0), (.int z1)]) (rest := []) (lenOf pd161_1_1 rfl) rfl (le0 rfl) (hb hby at_193) (fun vm₁ hvm => ⟨rfl, e2, (by decide : 30 + 0 ≤ _), (by decide : 9000 + 0 ≤ _)⟩)
  dsimp only [Pt.U, Pt.locs, Pt.cells, Pt.slots] at X3 l3 y3 z3 st3 hQ3
  subst l3 y3 z3
  obtain ⟨rfl, N3q, K3, KF3, Y3_0, Y3_1, Y3_2, Y3_3, Y3_4, Y3_5, Y3_6, Y3_7, Y3_8, Y3_9, Y3_10, Y3_11⟩ := hQ3
  have sz3 : h0.size ≤ T3.heap.size := K3.1
  have N3 := Fr.app N2 N3q
  refine GoW.trans st3 ?_
  refine GoW.pre (st' := T3.setTop (mkF m 215 #[sI p0, sI p1, sI p2, sI p3, sI p4, sI p5, sR r6, sR r7, sR r8, sR r9, sI i10, sI z1, sR r12, sI z1, sU, sU] [(.int z0), (.ref r9)])) (fun target kt => ?_) ?_
  · refine XS.iload X3.here hx rfl (hb hby at_196) rfl ?_
    refine XS.ifYes X3.here hx rfl (pc0 := 198) (pc' := 206) rfl (hb hby at_198) rfl ((if0 _ _).trans (feq (by decide)).2) (by decide) (by decide) ?_
    refine XS.iload X3.here hx rfl (hb hby at_206) rfl ?_
    refine XS.iconst X3.here hx rfl (hb hby at_208) ?_
    refine XS.icmpNo X3.here hx rfl (hb hby at_209) rfl (teq (by decide)).2 ?_
    refine XS.aload X3.here hx rfl (hb hby at_212) rfl rfl ?_
    refine XS.iconst X3.here hx rfl (hb hby at_214) ?_
    exact kt
  have Y4 := (A_r9.keep K3 (ninS n_r9_tx (ninS n_r9_r12 (ninS n_r9_an (ninS n_r9_av (ninS n_r9_ae nin0))))))
  obtain ⟨cl5, Ar5, q5, Sz5, Nn5, Hs5, Gs5⟩ := id Y4
  have in5 := inb_of (j := z0) Sz5 ⟨by decide, by decide⟩
  have at5 : cl5.slots[(z0).toNatClampNeg]? = some (.int c0) := Has.at Hs5 in5 rfl
  refine GoW.pre (X3.caload hx (j := z0) (v := (.int c0)) (by exact Ar5.1) (State.isArrayOf_alike hZ.alike Ar5.2.1) Ar5.2.2 in5 at5 (g := (mkF m 215 #[sI p0, sI p1, sI p2, sI p3, sI p4, sI p5, sR r6, sR r7, sR r8, sR r9, sI i10, sI z1, sR r12, sI z1, sU, sU] [(.int z0), (.ref r9)])) rfl rfl (hb hby at_215)) ?_
  have Y7 := (Ol.keep K3 (allS (by omega) (allS (by omega) (allS (by omega) (allS (by omega) (allS (by omega) all0))))))
  obtain ⟨_, _, ⟨T6, L6, k6, n6⟩, -, X6, ⟨Lc6, hQ6, l6, y6, z6⟩, st6⟩ := Jvm.LawKit.callS X3 hx (y := (⟨cB, "valueOf", "(C)Ljava/lang/String;"⟩ : MethodName)) hown (mvT hZ (ow hw 0 rfl)) (mvT hZ (ow hw 1 rfl)) (mvT hZ (ow hw 2 rfl)) (mvT hZ (ow hw 3 rfl)) (by decide) (backOf (W := 0) (rm1 l Z a0 hw [] c0 zc T3.heap n0 (by omega) S_COMPACT Y7 hc0 hcs) hZ (ow hw 3 rfl) (ow hw 2 rfl) (by decide) (by decide)) (g := (mkF m 216 #[sI p0, sI p1, sI p2, sI p3, sI p4, sI p5, sR r6, sR r7, sR r8, sR r9, sI i10, sI z1, sR r12, sI z1, sU, sU] [(.int c0)])) rfl (by rw [hml]; rfl) (argsL := [(.int c0)]) (rest := []) (lenOf pd161_1_2 rfl) rfl (le0 rfl) (hb hby at_216) (fun vm₁ hvm => ⟨rfl, rfl, (by decide : 30 + 2 ≤ _), (by decide : 9000 + 5 ≤ _)⟩)
  dsimp only [Pt.U, Pt.locs, Pt.cells, Pt.slots] at X6 l6 y6 z6 st6 hQ6
  subst l6 y6 z6
  obtain ⟨b6_0, b6_1, k6_0, rfl, N6q, K6, KF6, gb6_0, ltb6_0, gb6_1, ltb6_1, lob6_1, Y6_0, Y6_1, Y6_2, Y6_3, Y6_4, Y6_5⟩ := hQ6
  have sz6 : T3.heap.size ≤ T6.heap.size := K6.1
  have N6 := Fr.app N3 N6q
  refine GoW.pre st6 ?_
  refine GoW.pre (st' := T6.setTop (mkF m 237 #[sI p0, sI p1, sI p2, sI p3, sI p4, sI p5, sR r6, sR r7, sR r8, sR r9, sI i10, sI z1, sR r12, sI z1, sR b6_0, sU] [(.ref r7), (.ref r6)])) (fun target kt => ?_) ?_
  · refine XS.goto X6.here hx rfl (pc0 := 219) (pc' := 231) rfl (hb hby at_219) (by decide) (by decide) ?_
    refine XS.astore X6.here hx rfl (hb hby at_231) rfl rfl (l' := #[.val (.int p0), .val (.int p1), .val (.int p2), .val (.int p3), .val (.int p4), .val (.int p5), .val (.ref r6), .val (.ref r7), .val (.ref r8), .val (.ref r9), .val (.int i10), .val (.int z1), .val (.ref r12), .val (.int z1), .val (.ref b6_0), .unset]) rfl ?_
    refine XS.aload X6.here hx rfl (hb hby at_233) rfl rfl ?_
    refine XS.aload X6.here hx rfl (hb hby at_235) rfl rfl ?_
    exact kt
  by_cases hf8 : x0 = y0
  · have Y10 : Old Z n0 T6.heap := (Y7.keep K6 all0)
    have Y11 := ((E_r6.keep K3).keep K6)
    have Y12 := ((F_ca.keep K3 (ninS n_r6_tx (ninS n_r6_r12 (ninS n_r6_an (ninS n_r6_av (ninS n_r6_ae nin0)))))).keep K6 nin0)
    have Y13 := ((F_va.keep K3 (ninS n_r6_tx (ninS n_r6_r12 (ninS n_r6_an (ninS n_r6_av (ninS n_r6_ae nin0)))))).keep K6 nin0)
    have Y14 := ((A_a.keep K3 (ninS n_va_tx (ninS n_va_r12 (ninS n_va_an (ninS n_va_av (ninS n_va_ae nin0)))))).keep K6 nin0)
    have Y15 := ((E_r7.keep K3).keep K6)
    have Y16 := ((F_cb.keep K3 (ninS n_r7_tx (ninS n_r7_r12 (ninS n_r7_an (ninS n_r7_av (ninS n_r7_ae nin0)))))).keep K6 nin0)
    have Y17 := ((F_vb.keep K3 (ninS n_r7_tx (ninS n_r7_r12 (ninS n_r7_an (ninS n_r7_av (ninS n_r7_ae nin0)))))).keep K6 nin0)
    have Y18 := ((A_b.keep K3 (ninS n_vb_tx (ninS n_vb_r12 (ninS n_vb_an (ninS n_vb_av (ninS n_vb_ae nin0)))))).keep K6 nin0)
    obtain ⟨cq9, kq9, q9a, q9b, q9c⟩ := isOf hZ rfl Y11
    obtain ⟨_, _, ⟨T9, L9, k9, n9⟩, -, X9, ⟨Lc9, hQ9, l9, y9, z9⟩, st9⟩ := X6.virtualBack hx (y := (⟨cB, "equals", cH⟩ : MethodName)) (z := (⟨cB, "equals", cH⟩ : MethodName)) hown (mvT hZ (ow hw 96 rfl)) (mvT hZ (ow hw 97 rfl)) (notFace_of_selects (args := #[]) (mvT hZ (ow hw 99 rfl))) (mvT hZ (ow hw 99 rfl)) (mvT hZ (ow hw 98 rfl)) (by decide) (backOf (W := 0) (rm14_1T l Z a0 hw [] r6 r7 zc ga va ka x0 gb vb kb y0 T6.heap n0 (by omega) S_COMPACT Y11 Y12 Y13 Y14 Y15 Y16 Y17 Y18 n_r6_r7 Y10 hf8 hcs (hga.trans hgb.symm)) hZ (ow hw 100 rfl) (ow hw 2 rfl) (by decide) (by decide)) q9a q9c (g := (mkF m 237 #[sI p0, sI p1, sI p2, sI p3, sI p4, sI p5, sR r6, sR r7, sR r8, sR r9, sI i10, sI z1, sR r12, sI z1, sR b6_0, sU] [(.ref r7), (.ref r6)])) rfl (by rw [hml]; rfl) (Steps.refl _) (argsL := [(.ref r7)]) (rest := []) (lenOf pd161_1_3 rfl) rfl (le0 rfl) (hb hby at_237) (fun vm₁ hvm => ⟨rfl, rfl, (by decide : 32 + 0 ≤ _), (by decide : 9005 + 0 ≤ _)⟩)
    dsimp only [Pt.U, Pt.locs, Pt.cells, Pt.slots] at X9 l9 y9 z9 st9 hQ9
    subst l9 y9 z9
    obtain ⟨rfl, N9q, e9⟩ := hQ9
    have N9 := Fr.app N6 N9q
    refine GoW.trans st9 ?_
    refine GoW.pre (st' := T9.setTop (mkF m 257 #[sI p0, sI p1, sI p2, sI p3, sI p4, sI p5, sR r6, sR r7, sR r8, sR r9, sI i10, sI z1, sR r12, sI z1, sR b6_0, sI z0] [(.ref r12)])) (fun target kt => ?_) ?_
    · refine XS.ifNo X9.here hx rfl (hb hby at_240) rfl ((if0 _ _).trans (feq (by decide)).1) ?_
      refine XS.iconst X9.here hx rfl (hb hby at_243) ?_
      refine XS.goto X9.here hx rfl (pc0 := 244) (pc' := 248) rfl (hb hby at_244) (by decide) (by decide) ?_
      refine XS.istore X9.here hx rfl (hb hby at_248) rfl (l' := #[.val (.int p0), .val (.int p1), .val (.int p2), .val (.int p3), .val (.int p4), .val (.int p5), .val (.ref r6), .val (.ref r7), .val (.ref r8), .val (.ref r9), .val (.int i10), .val (.int z1), .val (.ref r12), .val (.int z1), .val (.ref b6_0), .val (.int z0)]) rfl ?_
      refine XS.iload X9.here hx rfl (hb hby at_250) rfl ?_
      refine XS.ifNo X9.here hx rfl (hb hby at_252) rfl ((if0 _ _).trans (feq (by decide)).1) ?_
      refine XS.aload X9.here hx rfl (hb hby at_255) rfl rfl ?_
      exact kt
    have Y20 := (Y3_1.keep K6 nin0)
    have Y21 := ((E_r12.keep K3).keep K6)
    obtain ⟨cq19, kq19, q19a, q19b, q19c⟩ := isOf hZ e9 Y21
    obtain ⟨_, _, ⟨T19, L19, k19, n19⟩, -, X19, ⟨Lc19, hQ19, l19, y19, z19⟩, st19⟩ := X9.virtualBack hx (y := (⟨cA, "size", "()I"⟩ : MethodName)) (z := (⟨cA, "size", "()I"⟩ : MethodName)) hown (mvT hZ (ow hw 76 rfl)) (mvT hZ (ow hw 77 rfl)) (notFace_of_selects (args := #[]) (mvT hZ (ow hw 79 rfl))) (mvT hZ (ow hw 79 rfl)) (mvT hZ (ow hw 78 rfl)) (by decide) (backOf (W := 0) (rm11 l Z a0 hw [] r12 z1 T6.heap n0 (by omega) Y20) hZ (ow hw 80 rfl) (ow hw 29 rfl) (by decide) (by decide)) q19a q19c (g := (mkF m 257 #[sI p0, sI p1, sI p2, sI p3, sI p4, sI p5, sR r6, sR r7, sR r8, sR r9, sI i10, sI z1, sR r12, sI z1, sR b6_0, sI z0] [(.ref r12)])) rfl (by rw [hml]; rfl) (Steps.refl _) (argsL := []) (rest := []) (lenOf pd161_1_0 rfl) rfl (le0 rfl) (hb hby at_257) (fun vm₁ hvm => ⟨rfl, e9, (by decide : 32 + 0 ≤ _), (by decide : 9005 + 0 ≤ _)⟩)
    dsimp only [Pt.U, Pt.locs, Pt.cells, Pt.slots] at X19 l19 y19 z19 st19 hQ19
    subst l19 y19 z19
    obtain ⟨rfl, N19q, e19⟩ := hQ19
    have N19 := Fr.app N9 N19q
    refine GoW.trans st19 ?_
    refine GoW.pre (st' := T19.setTop (mkF m 266 #[sI p0, sI p1, sI p2, sI p3, sI p4, sI p5, sR r6, sR r7, sR r8, sR r9, sI i10, sI z1, sR r12, sI z1, sR b6_0, sI z0] [(.ref r12)])) (fun target kt => ?_) ?_
    · refine XS.iconst X19.here hx rfl (hb hby at_260) ?_
      refine XS.icmpNo X19.here hx rfl (hb hby at_261) rfl (teq (by decide)).2 ?_
      refine XS.aload X19.here hx rfl (hb hby at_264) rfl rfl ?_
      exact kt
    have Y23 := (Y3_2.keep K6 nin0)
    obtain ⟨cq22, kq22, q22a, q22b, q22c⟩ := isOf hZ e19 Y21
    obtain ⟨_, _, ⟨T22, L22, k22, n22⟩, -, X22, ⟨Lc22, hQ22, l22, y22, z22⟩, st22⟩ := X19.virtualBack hx (y := (⟨cA, "specified", "()I"⟩ : MethodName)) (z := (⟨cA, "specified", "()I"⟩ : MethodName)) hown (mvT hZ (ow hw 81 rfl)) (mvT hZ (ow hw 82 rfl)) (notFace_of_selects (args := #[]) (mvT hZ (ow hw 84 rfl))) (mvT hZ (ow hw 84 rfl)) (mvT hZ (ow hw 83 rfl)) (by decide) (backOf (W := 0) (rm12 l Z a0 hw [] r12 z1 T6.heap n0 (by omega) Y23) hZ (ow hw 85 rfl) (ow hw 29 rfl) (by decide) (by decide)) q22a q22c (g := (mkF m 266 #[sI p0, sI p1, sI p2, sI p3, sI p4, sI p5, sR r6, sR r7, sR r8, sR r9, sI i10, sI z1, sR r12, sI z1, sR b6_0, sI z0] [(.ref r12)])) rfl (by rw [hml]; rfl) (Steps.refl _) (argsL := []) (rest := []) (lenOf pd161_1_0 rfl) rfl (le0 rfl) (hb hby at_266) (fun vm₁ hvm => ⟨rfl, e19, (by decide : 32 + 0 ≤ _), (by decide : 9005 + 0 ≤ _)⟩)
    dsimp only [Pt.U, Pt.locs, Pt.cells, Pt.slots] at X22 l22 y22 z22 st22 hQ22
    subst l22 y22 z22
    obtain ⟨rfl, N22q, e22⟩ := hQ22
    have N22 := Fr.app N19 N22q
    refine GoW.trans st22 ?_
    refine GoW.pre (st' := T22.setTop (mkF m 276 #[sI p0, sI p1, sI p2, sI p3, sI p4, sI p5, sR r6, sR r7, sR r8, sR r9, sI i10, sI z1, sR r12, sI z1, sR b6_0, sI z0] [(.int z0), (.ref r12)])) (fun target kt => ?_) ?_
    · refine XS.iconst X22.here hx rfl (hb hby at_269) ?_
      refine XS.icmpNo X22.here hx rfl (hb hby at_270) rfl (teq (by decide)).2 ?_
      refine XS.aload X22.here hx rfl (hb hby at_273) rfl rfl ?_
      refine XS.iconst X22.here hx rfl (hb hby at_275) ?_
      exact kt
    have Y25 := (Y3_3.keep K6 nin0)
    have Y26 := (Y3_4.keep K6 nin0)
    have Y27 := (Y3_5.keep K6 nin0)
    have Y28 := (Y3_9.keep K6 nin0)
    have Y29 := (Y3_6.keep K6 nin0)
    have Y30 := (Y3_10.keep K6 nin0)
    have Y31 := (Y3_7.keep K6 nin0)
    have Y32 := (Y3_11.keep K6 nin0)
    have Y33 := (Y3_8.keep K6 nin0)
    have Y34 := (Y3_0.keep K6 nin0)
    obtain ⟨cq24, kq24, q24a, q24b, q24c⟩ := isOf hZ e22 Y21
    obtain ⟨_, _, ⟨T24, L24, k24, n24⟩, -, X24, ⟨Lc24, hQ24, l24, y24, z24⟩, st24⟩ := X22.virtualBack hx (y := (⟨cA, "value", "(I)Ljava/lang/String;"⟩ : MethodName)) (z := (⟨cA, "value", "(I)Ljava/lang/String;"⟩ : MethodName)) hown (mvT hZ (ow hw 104 rfl)) (mvT hZ (ow hw 105 rfl)) (notFace_of_selects (args := #[]) (mvT hZ (ow hw 107 rfl))) (mvT hZ (ow hw 107 rfl)) (mvT hZ (ow hw 106 rfl)) (by decide) (backOf (W := 0) (rm16_1 l Z a0 hw [] r12 an kan (own_upd fan z0 (.ref r7)) av kav (own_upd fav z0 .null) ae kae (own_upd fae z0 (.int z1)) tx ktx (own_cp (own_lf [(.int c0), (.int c1)] (.int z0)) ftx z1) (.int z1) (.int z1) c0 zc zf T6.heap n0 (by omega) Y21 Y20 Y23 Y25 Y26 Y27 Y28 Y29 Y30 Y31 Y32 Y33 Y34 O_an O_av n_r12_an n_r12_av n_r12_ae n_r12_tx n_an_av n_an_ae n_av_ae n_an_tx n_av_tx n_ae_tx (own_hit _ _ _) (own_hit _ _ _) rfl S_COMPACT hcs S_F hv_zf Y10 (by omega) hc0) hZ (ow hw 108 rfl) (ow hw 29 rfl) (by decide) (by decide)) q24a q24c (g := (mkF m 276 #[sI p0, sI p1, sI p2, sI p3, sI p4, sI p5, sR r6, sR r7, sR r8, sR r9, sI i10, sI z1, sR r12, sI z1, sR b6_0, sI z0] [(.int z0), (.ref r12)])) rfl (by rw [hml]; rfl) (Steps.refl _) (argsL := [(.int z0)]) (rest := []) (lenOf pd161_1_4 rfl) rfl (le0 rfl) (hb hby at_276) (fun vm₁ hvm => ⟨rfl, e22, (by decide : 32 + 2 ≤ _), (by decide : 9005 + 5 ≤ _)⟩)
    dsimp only [Pt.U, Pt.locs, Pt.cells, Pt.slots] at X24 l24 y24 z24 st24 hQ24
    subst l24 y24 z24
    obtain ⟨b24_0, b24_1, k24_0, rfl, N24q, K24, KF24, gb24_0, ltb24_0, gb24_1, ltb24_1, lob24_1, Y24_0, Y24_1, Y24_2, Y24_3, Y24_4, Y24_5, Y24_6⟩ := hQ24
    have sz24 : T6.heap.size ≤ T24.heap.size := K24.1
    have N24 := Fr.app N22 N24q
    refine GoW.trans st24 ?_
    refine GoW.pre (st' := T24.setTop (mkF m 281 #[sI p0, sI p1, sI p2, sI p3, sI p4, sI p5, sR r6, sR r7, sR r8, sR r9, sI i10, sI z1, sR r12, sI z1, sR b6_0, sI z0] [(.ref b6_0), (.ref b24_0)])) (fun target kt => ?_) ?_
    · refine XS.aload X24.here hx rfl (hb hby at_279) rfl rfl ?_
      exact kt
    have Y36 := (Y10.keep K24 (allS (by omega) all0))
    have Y37 := (Y6_0.keep K24)
    have Y38 := (Y6_4.keep K24 (ninS (neN (by omega)) nin0))
    have Y39 := (Y6_3.keep K24 (ninS (neN (by omega)) nin0))
    have Y40 := (Y6_5.keep K24 (ninS (neN (by omega)) nin0))
    obtain ⟨cq35, kq35, q35a, q35b, q35c⟩ := isOf hZ rfl Y24_1
    obtain ⟨_, _, ⟨T35, L35, k35, n35⟩, -, X35, ⟨Lc35, hQ35, l35, y35, z35⟩, st35⟩ := X24.virtualBack hx (y := (⟨cB, "equals", cH⟩ : MethodName)) (z := (⟨cB, "equals", cH⟩ : MethodName)) hown (mvT hZ (ow hw 96 rfl)) (mvT hZ (ow hw 97 rfl)) (notFace_of_selects (args := #[]) (mvT hZ (ow hw 99 rfl))) (mvT hZ (ow hw 99 rfl)) (mvT hZ (ow hw 98 rfl)) (by decide) (backOf (W := 0) (rm14_1T l Z a0 hw [] b24_0 b6_0 zc (nar .byte (nar .byte z0)) b24_1 k24_0 (nar .byte (c0.toInt8.toInt32)) (nar .byte z0) b6_1 k6_0 (nar .byte (c0.toInt8.toInt32)) T24.heap n0 (by omega) S_COMPACT Y24_1 Y24_4 Y24_5 Y24_6 Y37 Y38 Y39 Y40 (neN (by omega)) Y36 rfl hcs (by first | assumption | decide)) hZ (ow hw 100 rfl) (ow hw 2 rfl) (by decide) (by decide)) q35a q35c (g := (mkF m 281 #[sI p0, sI p1, sI p2, sI p3, sI p4, sI p5, sR r6, sR r7, sR r8, sR r9, sI i10, sI z1, sR r12, sI z1, sR b6_0, sI z0] [(.ref b6_0), (.ref b24_0)])) rfl (by rw [hml]; rfl) (Steps.refl _) (argsL := [(.ref b6_0)]) (rest := []) (lenOf pd161_1_3 rfl) rfl (le0 rfl) (hb hby at_281) (fun vm₁ hvm => ⟨rfl, rfl, (by decide : 34 + 0 ≤ _), (by decide : 9010 + 0 ≤ _)⟩)
    dsimp only [Pt.U, Pt.locs, Pt.cells, Pt.slots] at X35 l35 y35 z35 st35 hQ35
    subst l35 y35 z35
    obtain ⟨rfl, N35q, e35⟩ := hQ35
    have N35 := Fr.app N24 N35q
    refine GoW.trans st35 ?_
    refine GoW.pre (st' := T35.setTop (mkF m 291 #[sI p0, sI p1, sI p2, sI p3, sI p4, sI p5, sR r6, sR r7, sR r8, sR r9, sI i10, sI z1, sR r12, sI z1, sR b6_0, sI z0] [(.ref r6), (.ref r12)])) (fun target kt => ?_) ?_
    · refine XS.ifNo X35.here hx rfl (hb hby at_284) rfl ((if0 _ _).trans (feq (by decide)).1) ?_
      refine XS.aload X35.here hx rfl (hb hby at_287) rfl rfl ?_
      refine XS.aload X35.here hx rfl (hb hby at_289) rfl rfl ?_
      exact kt
    have Y42 := (Y21.keep K24)
    have Y43 := (Y20.keep K24 (ninS n_r12_av nin0))
    have Y44 := (Y23.keep K24 (ninS n_r12_av nin0))
    have Y45 := (Y25.keep K24 (ninS n_r12_av nin0))
    have Y46 := (Y26.keep K24 (ninS n_r12_av nin0))
    have Y47 := (Y27.keep K24 (ninS n_r12_av nin0))
    have Y48 := (Y28.keep K24 (ninS n_an_av nin0))
    have Y49 := (Y29.keep K24 (ninS n_r12_av nin0))
    have Y50 := (Y31.keep K24 (ninS n_r12_av nin0))
    have Y51 := (Y32.keep K24 (ninS (Ne.symm n_av_ae) nin0))
    have Y52 := (Y33.keep K24 (ninS n_r12_av nin0))
    have Y53 := (Y34.keep K24 (ninS (Ne.symm n_av_tx) nin0))
    have Y54 := (Y11.keep K24)
    have Y55 := (Y12.keep K24 (ninS n_r6_av nin0))
    have Y56 := (Y13.keep K24 (ninS n_r6_av nin0))
    have Y57 := (Y14.keep K24 (ninS n_va_av nin0))
    have Y58 := (((F_ha.keep K3 (ninS n_r6_tx (ninS n_r6_r12 (ninS n_r6_an (ninS n_r6_av (ninS n_r6_ae nin0)))))).keep K6 nin0).keep K24 (ninS n_r6_av nin0))
    have Y59 := (((F_za.keep K3 (ninS n_r6_tx (ninS n_r6_r12 (ninS n_r6_an (ninS n_r6_av (ninS n_r6_ae nin0)))))).keep K6 nin0).keep K24 (ninS n_r6_av nin0))
    have Y60 := (Y15.keep K24)
    have Y61 := (Y16.keep K24 (ninS n_r7_av nin0))
    have Y62 := (Y17.keep K24 (ninS n_r7_av nin0))
    have Y63 := (Y18.keep K24 (ninS n_vb_av nin0))
    have Y64 := (((F_hb.keep K3 (ninS n_r7_tx (ninS n_r7_r12 (ninS n_r7_an (ninS n_r7_av (ninS n_r7_ae nin0)))))).keep K6 nin0).keep K24 (ninS n_r7_av nin0))
    have Y65 := (((F_zb.keep K3 (ninS n_r7_tx (ninS n_r7_r12 (ninS n_r7_an (ninS n_r7_av (ninS n_r7_ae nin0)))))).keep K6 nin0).keep K24 (ninS n_r7_av nin0))
    obtain ⟨cq41, kq41, q41a, q41b, q41c⟩ := isOf hZ e35 Y42
    obtain ⟨_, _, ⟨T41, L41, k41, n41⟩, -, X41, ⟨Lc41, hQ41, l41, y41, z41⟩, st41⟩ := X35.virtualBack hx (y := (⟨cA, "indexOf", "(Ljava/lang/String;)I"⟩ : MethodName)) (z := (⟨cA, "indexOf", "(Ljava/lang/String;)I"⟩ : MethodName)) hown (mvT hZ (ow hw 131 rfl)) (mvT hZ (ow hw 132 rfl)) (notFace_of_selects (args := #[]) (mvT hZ (ow hw 134 rfl))) (mvT hZ (ow hw 134 rfl)) (mvT hZ (ow hw 133 rfl)) (by decide) (backOf (W := 0) (rm23T l Z a0 hw [] r12 r6 an kan (own_upd fan z0 (.ref r7)) av kav (own_upd (own_upd fav z0 .null) z0 (.ref b24_0)) ae kae (own_upd fae z0 (.int z1)) tx ktx (own_cp (own_lf [(.int c0), (.int c1)] (.int z0)) ftx z1) (.int z1) (.int z1) r7 zc ga va ka x0 gb vb kb y0 T24.heap n0 (by omega) Y42 Y43 Y44 Y45 Y46 Y47 Y48 Y49 Y24_0 Y50 Y51 Y52 Y53 O_an O_av n_r12_an n_r12_av n_r12_ae n_r12_tx n_an_av n_an_ae n_av_ae n_an_tx n_av_tx n_ae_tx S_COMPACT hcs Y54 Y55 Y56 Y57 Y58 Y59 Y60 Y61 Y62 Y63 Y64 Y65 n_r6_r7 n_r6_r12 n_r6_an n_r6_av n_r6_ae n_r6_tx n_r6_va n_r6_vb n_r7_r12 n_r7_an n_r7_av n_r7_ae n_r7_tx n_r7_va n_r7_vb (by first | assumption | decide) (by first | assumption | decide) (own_hit _ _ _) Y36 (by omega) (by omega) (Eq.symm hf8) (by rw [hf8])) hZ (ow hw 135 rfl) (ow hw 29 rfl) (by decide) (by decide)) q41a q41c (g := (mkF m 291 #[sI p0, sI p1, sI p2, sI p3, sI p4, sI p5, sR r6, sR r7, sR r8, sR r9, sI i10, sI z1, sR r12, sI z1, sR b6_0, sI z0] [(.ref r6), (.ref r12)])) rfl (by rw [hml]; rfl) (Steps.refl _) (argsL := [(.ref r6)]) (rest := []) (lenOf pd161_1_5 rfl) rfl (le0 rfl) (hb hby at_291) (fun vm₁ hvm => ⟨rfl, e35, (by decide : 34 + 0 ≤ _), (by decide : 9010 + 0 ≤ _)⟩)
    dsimp only [Pt.U, Pt.locs, Pt.cells, Pt.slots] at X41 l41 y41 z41 st41 hQ41
    subst l41 y41 z41
    obtain ⟨rfl, N41q, K41, KF41, Y41_0, Y41_1, Y41_2, Y41_3⟩ := hQ41
    have sz41 : T24.heap.size ≤ T41.heap.size := K41.1
    have N41 := Fr.app N35 N41q
    refine GoW.trans st41 ?_
    refine GoW.pre (st' := T41.setTop (mkF m 308 #[sI p0, sI p1, sI p2, sI p3, sI p4, sI p5, sR r6, sR r7, sR r8, sR r9, sI i10, sI z1, sR r12, sI z1, sR b6_0, sI z0] [(.int z1)])) (fun target kt => ?_) ?_
    · refine XS.iload X41.here hx rfl (hb hby at_294) rfl ?_
      refine XS.icmpNo X41.here hx rfl (hb hby at_296) rfl (teq (by decide)).2 ?_
      refine XS.iconst X41.here hx rfl (hb hby at_299) ?_
      refine XS.goto X41.here hx rfl (pc0 := 300) (pc' := 304) rfl (hb hby at_300) (by decide) (by decide) ?_
      refine XS.istore X41.here hx rfl (hb hby at_304) rfl (l' := #[.val (.int p0), .val (.int p1), .val (.int p2), .val (.int p3), .val (.int p4), .val (.int p5), .val (.ref r6), .val (.ref r7), .val (.ref r8), .val (.ref r9), .val (.int i10), .val (.int z1), .val (.ref r12), .val (.int z1), .val (.ref b6_0), .val (.int z0)]) rfl ?_
      refine XS.iload X41.here hx rfl (hb hby at_306) rfl ?_
      exact kt
    exact GoW.retN X41 hS (leH rfl (by omega)) hx hlk hrt (z' := z1) (by simp) (hb hby at_308) rfl (by decide) (by decide) (by exact ⟨rfl, N41⟩)
  · have Y67 : Old Z n0 T6.heap := (Y7.keep K6 all0)
    have Y68 := ((E_r6.keep K3).keep K6)
    have Y69 := ((F_ca.keep K3 (ninS n_r6_tx (ninS n_r6_r12 (ninS n_r6_an (ninS n_r6_av (ninS n_r6_ae nin0)))))).keep K6 nin0)
    have Y70 := ((F_va.keep K3 (ninS n_r6_tx (ninS n_r6_r12 (ninS n_r6_an (ninS n_r6_av (ninS n_r6_ae nin0)))))).keep K6 nin0)
    have Y71 := ((A_a.keep K3 (ninS n_va_tx (ninS n_va_r12 (ninS n_va_an (ninS n_va_av (ninS n_va_ae nin0)))))).keep K6 nin0)
    have Y72 := ((E_r7.keep K3).keep K6)
    have Y73 := ((F_cb.keep K3 (ninS n_r7_tx (ninS n_r7_r12 (ninS n_r7_an (ninS n_r7_av (ninS n_r7_ae nin0)))))).keep K6 nin0)
    have Y74 := ((F_vb.keep K3 (ninS n_r7_tx (ninS n_r7_r12 (ninS n_r7_an (ninS n_r7_av (ninS n_r7_ae nin0)))))).keep K6 nin0)
    have Y75 := ((A_b.keep K3 (ninS n_vb_tx (ninS n_vb_r12 (ninS n_vb_an (ninS n_vb_av (ninS n_vb_ae nin0)))))).keep K6 nin0)
    obtain ⟨cq66, kq66, q66a, q66b, q66c⟩ := isOf hZ rfl Y68
    obtain ⟨_, _, ⟨T66, L66, k66, n66⟩, -, X66, ⟨Lc66, hQ66, l66, y66, z66⟩, st66⟩ := X6.virtualBack hx (y := (⟨cB, "equals", cH⟩ : MethodName)) (z := (⟨cB, "equals", cH⟩ : MethodName)) hown (mvT hZ (ow hw 96 rfl)) (mvT hZ (ow hw 97 rfl)) (notFace_of_selects (args := #[]) (mvT hZ (ow hw 99 rfl))) (mvT hZ (ow hw 99 rfl)) (mvT hZ (ow hw 98 rfl)) (by decide) (backOf (W := 0) (rm14_1F l Z a0 hw [] r6 r7 zc ga va ka x0 gb vb kb y0 T6.heap n0 (by omega) S_COMPACT Y68 Y69 Y70 Y71 Y72 Y73 Y74 Y75 n_r6_r7 Y67 hf8 hcs (hga.trans hgb.symm)) hZ (ow hw 100 rfl) (ow hw 2 rfl) (by decide) (by decide)) q66a q66c (g := (mkF m 237 #[sI p0, sI p1, sI p2, sI p3, sI p4, sI p5, sR r6, sR r7, sR r8, sR r9, sI i10, sI z1, sR r12, sI z1, sR b6_0, sU] [(.ref r7), (.ref r6)])) rfl (by rw [hml]; rfl) (Steps.refl _) (argsL := [(.ref r7)]) (rest := []) (lenOf pd161_1_3 rfl) rfl (le0 rfl) (hb hby at_237) (fun vm₁ hvm => ⟨rfl, rfl, (by decide : 32 + 0 ≤ _), (by decide : 9005 + 0 ≤ _)⟩)
    dsimp only [Pt.U, Pt.locs, Pt.cells, Pt.slots] at X66 l66 y66 z66 st66 hQ66
    subst l66 y66 z66
    obtain ⟨rfl, N66q, e66⟩ := hQ66
    have N66 := Fr.app N6 N66q
    refine GoW.trans st66 ?_
    refine GoW.pre (st' := T66.setTop (mkF m 257 #[sI p0, sI p1, sI p2, sI p3, sI p4, sI p5, sR r6, sR r7, sR r8, sR r9, sI i10, sI z1, sR r12, sI z1, sR b6_0, sI (-1 : Int32)] [(.ref r12)])) (fun target kt => ?_) ?_
    · refine XS.ifYes X66.here hx rfl (pc0 := 240) (pc' := 247) rfl (hb hby at_240) rfl ((if0 _ _).trans (teq (by decide)).1) (by decide) (by decide) ?_
      refine XS.iconst X66.here hx rfl (hb hby at_247) ?_
      refine XS.istore X66.here hx rfl (hb hby at_248) rfl (l' := #[.val (.int p0), .val (.int p1), .val (.int p2), .val (.int p3), .val (.int p4), .val (.int p5), .val (.ref r6), .val (.ref r7), .val (.ref r8), .val (.ref r9), .val (.int i10), .val (.int z1), .val (.ref r12), .val (.int z1), .val (.ref b6_0), .val (.int (-1 : Int32))]) rfl ?_
      refine XS.iload X66.here hx rfl (hb hby at_250) rfl ?_
      refine XS.ifNo X66.here hx rfl (hb hby at_252) rfl ((if0 _ _).trans (feq (by decide)).1) ?_
      refine XS.aload X66.here hx rfl (hb hby at_255) rfl rfl ?_
      exact kt
    have Y77 := (Y3_1.keep K6 nin0)
    have Y78 := ((E_r12.keep K3).keep K6)
    obtain ⟨cq76, kq76, q76a, q76b, q76c⟩ := isOf hZ e66 Y78
    obtain ⟨_, _, ⟨T76, L76, k76, n76⟩, -, X76, ⟨Lc76, hQ76, l76, y76, z76⟩, st76⟩ := X66.virtualBack hx (y := (⟨cA, "size", "()I"⟩ : MethodName)) (z := (⟨cA, "size", "()I"⟩ : MethodName)) hown (mvT hZ (ow hw 76 rfl)) (mvT hZ (ow hw 77 rfl)) (notFace_of_selects (args := #[]) (mvT hZ (ow hw 79 rfl))) (mvT hZ (ow hw 79 rfl)) (mvT hZ (ow hw 78 rfl)) (by decide) (backOf (W := 0) (rm11 l Z a0 hw [] r12 z1 T6.heap n0 (by omega) Y77) hZ (ow hw 80 rfl) (ow hw 29 rfl) (by decide) (by decide)) q76a q76c (g := (mkF m 257 #[sI p0, sI p1, sI p2, sI p3, sI p4, sI p5, sR r6, sR r7, sR r8, sR r9, sI i10, sI z1, sR r12, sI z1, sR b6_0, sI (-1 : Int32)] [(.ref r12)])) rfl (by rw [hml]; rfl) (Steps.refl _) (argsL := []) (rest := []) (lenOf pd161_1_0 rfl) rfl (le0 rfl) (hb hby at_257) (fun vm₁ hvm => ⟨rfl, e66, (by decide : 32 + 0 ≤ _), (by decide : 9005 + 0 ≤ _)⟩)
    dsimp only [Pt.U, Pt.locs, Pt.cells, Pt.slots] at X76 l76 y76 z76 st76 hQ76
    subst l76 y76 z76
    obtain ⟨rfl, N76q, e76⟩ := hQ76
    have N76 := Fr.app N66 N76q
    refine GoW.trans st76 ?_
    refine GoW.pre (st' := T76.setTop (mkF m 266 #[sI p0, sI p1, sI p2, sI p3, sI p4, sI p5, sR r6, sR r7, sR r8, sR r9, sI i10, sI z1, sR r12, sI z1, sR b6_0, sI (-1 : Int32)] [(.ref r12)])) (fun target kt => ?_) ?_
    · refine XS.iconst X76.here hx rfl (hb hby at_260) ?_
      refine XS.icmpNo X76.here hx rfl (hb hby at_261) rfl (teq (by decide)).2 ?_
      refine XS.aload X76.here hx rfl (hb hby at_264) rfl rfl ?_
      exact kt
    have Y80 := (Y3_2.keep K6 nin0)
    obtain ⟨cq79, kq79, q79a, q79b, q79c⟩ := isOf hZ e76 Y78
    obtain ⟨_, _, ⟨T79, L79, k79, n79⟩, -, X79, ⟨Lc79, hQ79, l79, y79, z79⟩, st79⟩ := X76.virtualBack hx (y := (⟨cA, "specified", "()I"⟩ : MethodName)) (z := (⟨cA, "specified", "()I"⟩ : MethodName)) hown (mvT hZ (ow hw 81 rfl)) (mvT hZ (ow hw 82 rfl)) (notFace_of_selects (args := #[]) (mvT hZ (ow hw 84 rfl))) (mvT hZ (ow hw 84 rfl)) (mvT hZ (ow hw 83 rfl)) (by decide) (backOf (W := 0) (rm12 l Z a0 hw [] r12 z1 T6.heap n0 (by omega) Y80) hZ (ow hw 85 rfl) (ow hw 29 rfl) (by decide) (by decide)) q79a q79c (g := (mkF m 266 #[sI p0, sI p1, sI p2, sI p3, sI p4, sI p5, sR r6, sR r7, sR r8, sR r9, sI i10, sI z1, sR r12, sI z1, sR b6_0, sI (-1 : Int32)] [(.ref r12)])) rfl (by rw [hml]; rfl) (Steps.refl _) (argsL := []) (rest := []) (lenOf pd161_1_0 rfl) rfl (le0 rfl) (hb hby at_266) (fun vm₁ hvm => ⟨rfl, e76, (by decide : 32 + 0 ≤ _), (by decide : 9005 + 0 ≤ _)⟩)
    dsimp only [Pt.U, Pt.locs, Pt.cells, Pt.slots] at X79 l79 y79 z79 st79 hQ79
    subst l79 y79 z79
    obtain ⟨rfl, N79q, e79⟩ := hQ79
    have N79 := Fr.app N76 N79q
    refine GoW.trans st79 ?_
    refine GoW.pre (st' := T79.setTop (mkF m 276 #[sI p0, sI p1, sI p2, sI p3, sI p4, sI p5, sR r6, sR r7, sR r8, sR r9, sI i10, sI z1, sR r12, sI z1, sR b6_0, sI (-1 : Int32)] [(.int z0), (.ref r12)])) (fun target kt => ?_) ?_
    · refine XS.iconst X79.here hx rfl (hb hby at_269) ?_
      refine XS.icmpNo X79.here hx rfl (hb hby at_270) rfl (teq (by decide)).2 ?_
      refine XS.aload X79.here hx rfl (hb hby at_273) rfl rfl ?_
      refine XS.iconst X79.here hx rfl (hb hby at_275) ?_
      exact kt
    have Y82 := (Y3_3.keep K6 nin0)
    have Y83 := (Y3_4.keep K6 nin0)
    have Y84 := (Y3_5.keep K6 nin0)
    have Y85 := (Y3_9.keep K6 nin0)
    have Y86 := (Y3_6.keep K6 nin0)
    have Y87 := (Y3_10.keep K6 nin0)
    have Y88 := (Y3_7.keep K6 nin0)
    have Y89 := (Y3_11.keep K6 nin0)
    have Y90 := (Y3_8.keep K6 nin0)
    have Y91 := (Y3_0.keep K6 nin0)
    obtain ⟨cq81, kq81, q81a, q81b, q81c⟩ := isOf hZ e79 Y78
    obtain ⟨_, _, ⟨T81, L81, k81, n81⟩, -, X81, ⟨Lc81, hQ81, l81, y81, z81⟩, st81⟩ := X79.virtualBack hx (y := (⟨cA, "value", "(I)Ljava/lang/String;"⟩ : MethodName)) (z := (⟨cA, "value", "(I)Ljava/lang/String;"⟩ : MethodName)) hown (mvT hZ (ow hw 104 rfl)) (mvT hZ (ow hw 105 rfl)) (notFace_of_selects (args := #[]) (mvT hZ (ow hw 107 rfl))) (mvT hZ (ow hw 107 rfl)) (mvT hZ (ow hw 106 rfl)) (by decide) (backOf (W := 0) (rm16_1 l Z a0 hw [] r12 an kan (own_upd fan z0 (.ref r7)) av kav (own_upd fav z0 .null) ae kae (own_upd fae z0 (.int z1)) tx ktx (own_cp (own_lf [(.int c0), (.int c1)] (.int z0)) ftx z1) (.int z1) (.int z1) c0 zc zf T6.heap n0 (by omega) Y78 Y77 Y80 Y82 Y83 Y84 Y85 Y86 Y87 Y88 Y89 Y90 Y91 O_an O_av n_r12_an n_r12_av n_r12_ae n_r12_tx n_an_av n_an_ae n_av_ae n_an_tx n_av_tx n_ae_tx (own_hit _ _ _) (own_hit _ _ _) rfl S_COMPACT hcs S_F hv_zf Y67 (by omega) hc0) hZ (ow hw 108 rfl) (ow hw 29 rfl) (by decide) (by decide)) q81a q81c (g := (mkF m 276 #[sI p0, sI p1, sI p2, sI p3, sI p4, sI p5, sR r6, sR r7, sR r8, sR r9, sI i10, sI z1, sR r12, sI z1, sR b6_0, sI (-1 : Int32)] [(.int z0), (.ref r12)])) rfl (by rw [hml]; rfl) (Steps.refl _) (argsL := [(.int z0)]) (rest := []) (lenOf pd161_1_4 rfl) rfl (le0 rfl) (hb hby at_276) (fun vm₁ hvm => ⟨rfl, e79, (by decide : 32 + 2 ≤ _), (by decide : 9005 + 5 ≤ _)⟩)
    dsimp only [Pt.U, Pt.locs, Pt.cells, Pt.slots] at X81 l81 y81 z81 st81 hQ81
    subst l81 y81 z81
    obtain ⟨b81_0, b81_1, k81_0, rfl, N81q, K81, KF81, gb81_0, ltb81_0, gb81_1, ltb81_1, lob81_1, Y81_0, Y81_1, Y81_2, Y81_3, Y81_4, Y81_5, Y81_6⟩ := hQ81
    have sz81 : T6.heap.size ≤ T81.heap.size := K81.1
    have N81 := Fr.app N79 N81q
    refine GoW.trans st81 ?_
    refine GoW.pre (st' := T81.setTop (mkF m 281 #[sI p0, sI p1, sI p2, sI p3, sI p4, sI p5, sR r6, sR r7, sR r8, sR r9, sI i10, sI z1, sR r12, sI z1, sR b6_0, sI (-1 : Int32)] [(.ref b6_0), (.ref b81_0)])) (fun target kt => ?_) ?_
    · refine XS.aload X81.here hx rfl (hb hby at_279) rfl rfl ?_
      exact kt
    have Y93 := (Y67.keep K81 (allS (by omega) all0))
    have Y94 := (Y6_0.keep K81)
    have Y95 := (Y6_4.keep K81 (ninS (neN (by omega)) nin0))
    have Y96 := (Y6_3.keep K81 (ninS (neN (by omega)) nin0))
    have Y97 := (Y6_5.keep K81 (ninS (neN (by omega)) nin0))
    obtain ⟨cq92, kq92, q92a, q92b, q92c⟩ := isOf hZ rfl Y81_1
    obtain ⟨_, _, ⟨T92, L92, k92, n92⟩, -, X92, ⟨Lc92, hQ92, l92, y92, z92⟩, st92⟩ := X81.virtualBack hx (y := (⟨cB, "equals", cH⟩ : MethodName)) (z := (⟨cB, "equals", cH⟩ : MethodName)) hown (mvT hZ (ow hw 96 rfl)) (mvT hZ (ow hw 97 rfl)) (notFace_of_selects (args := #[]) (mvT hZ (ow hw 99 rfl))) (mvT hZ (ow hw 99 rfl)) (mvT hZ (ow hw 98 rfl)) (by decide) (backOf (W := 0) (rm14_1T l Z a0 hw [] b81_0 b6_0 zc (nar .byte (nar .byte z0)) b81_1 k81_0 (nar .byte (c0.toInt8.toInt32)) (nar .byte z0) b6_1 k6_0 (nar .byte (c0.toInt8.toInt32)) T81.heap n0 (by omega) S_COMPACT Y81_1 Y81_4 Y81_5 Y81_6 Y94 Y95 Y96 Y97 (neN (by omega)) Y93 rfl hcs (by first | assumption | decide)) hZ (ow hw 100 rfl) (ow hw 2 rfl) (by decide) (by decide)) q92a q92c (g := (mkF m 281 #[sI p0, sI p1, sI p2, sI p3, sI p4, sI p5, sR r6, sR r7, sR r8, sR r9, sI i10, sI z1, sR r12, sI z1, sR b6_0, sI (-1 : Int32)] [(.ref b6_0), (.ref b81_0)])) rfl (by rw [hml]; rfl) (Steps.refl _) (argsL := [(.ref b6_0)]) (rest := []) (lenOf pd161_1_3 rfl) rfl (le0 rfl) (hb hby at_281) (fun vm₁ hvm => ⟨rfl, rfl, (by decide : 34 + 0 ≤ _), (by decide : 9010 + 0 ≤ _)⟩)
    dsimp only [Pt.U, Pt.locs, Pt.cells, Pt.slots] at X92 l92 y92 z92 st92 hQ92
    subst l92 y92 z92
    obtain ⟨rfl, N92q, e92⟩ := hQ92
    have N92 := Fr.app N81 N92q
    refine GoW.trans st92 ?_
    refine GoW.pre (st' := T92.setTop (mkF m 291 #[sI p0, sI p1, sI p2, sI p3, sI p4, sI p5, sR r6, sR r7, sR r8, sR r9, sI i10, sI z1, sR r12, sI z1, sR b6_0, sI (-1 : Int32)] [(.ref r6), (.ref r12)])) (fun target kt => ?_) ?_
    · refine XS.ifNo X92.here hx rfl (hb hby at_284) rfl ((if0 _ _).trans (feq (by decide)).1) ?_
      refine XS.aload X92.here hx rfl (hb hby at_287) rfl rfl ?_
      refine XS.aload X92.here hx rfl (hb hby at_289) rfl rfl ?_
      exact kt
    have Y99 := (Y78.keep K81)
    have Y100 := (Y77.keep K81 (ninS n_r12_av nin0))
    have Y101 := (Y80.keep K81 (ninS n_r12_av nin0))
    have Y102 := (Y82.keep K81 (ninS n_r12_av nin0))
    have Y103 := (Y83.keep K81 (ninS n_r12_av nin0))
    have Y104 := (Y84.keep K81 (ninS n_r12_av nin0))
    have Y105 := (Y85.keep K81 (ninS n_an_av nin0))
    have Y106 := (Y86.keep K81 (ninS n_r12_av nin0))
    have Y107 := (Y88.keep K81 (ninS n_r12_av nin0))
    have Y108 := (Y89.keep K81 (ninS (Ne.symm n_av_ae) nin0))
    have Y109 := (Y90.keep K81 (ninS n_r12_av nin0))
    have Y110 := (Y91.keep K81 (ninS (Ne.symm n_av_tx) nin0))
    have Y111 := (Y68.keep K81)
    have Y112 := (Y69.keep K81 (ninS n_r6_av nin0))
    have Y113 := (Y70.keep K81 (ninS n_r6_av nin0))
    have Y114 := (Y71.keep K81 (ninS n_va_av nin0))
    have Y115 := (((F_ha.keep K3 (ninS n_r6_tx (ninS n_r6_r12 (ninS n_r6_an (ninS n_r6_av (ninS n_r6_ae nin0)))))).keep K6 nin0).keep K81 (ninS n_r6_av nin0))
    have Y116 := (((F_za.keep K3 (ninS n_r6_tx (ninS n_r6_r12 (ninS n_r6_an (ninS n_r6_av (ninS n_r6_ae nin0)))))).keep K6 nin0).keep K81 (ninS n_r6_av nin0))
    have Y117 := (Y72.keep K81)
    have Y118 := (Y73.keep K81 (ninS n_r7_av nin0))
    have Y119 := (Y74.keep K81 (ninS n_r7_av nin0))
    have Y120 := (Y75.keep K81 (ninS n_vb_av nin0))
    have Y121 := (((F_hb.keep K3 (ninS n_r7_tx (ninS n_r7_r12 (ninS n_r7_an (ninS n_r7_av (ninS n_r7_ae nin0)))))).keep K6 nin0).keep K81 (ninS n_r7_av nin0))
    have Y122 := (((F_zb.keep K3 (ninS n_r7_tx (ninS n_r7_r12 (ninS n_r7_an (ninS n_r7_av (ninS n_r7_ae nin0)))))).keep K6 nin0).keep K81 (ninS n_r7_av nin0))
    obtain ⟨cq98, kq98, q98a, q98b, q98c⟩ := isOf hZ e92 Y99
    obtain ⟨_, _, ⟨T98, L98, k98, n98⟩, -, X98, ⟨Lc98, hQ98, l98, y98, z98⟩, st98⟩ := X92.virtualBack hx (y := (⟨cA, "indexOf", "(Ljava/lang/String;)I"⟩ : MethodName)) (z := (⟨cA, "indexOf", "(Ljava/lang/String;)I"⟩ : MethodName)) hown (mvT hZ (ow hw 131 rfl)) (mvT hZ (ow hw 132 rfl)) (notFace_of_selects (args := #[]) (mvT hZ (ow hw 134 rfl))) (mvT hZ (ow hw 134 rfl)) (mvT hZ (ow hw 133 rfl)) (by decide) (backOf (W := 0) (rm23F l Z a0 hw [] r12 r6 an kan (own_upd fan z0 (.ref r7)) av kav (own_upd (own_upd fav z0 .null) z0 (.ref b81_0)) ae kae (own_upd fae z0 (.int z1)) tx ktx (own_cp (own_lf [(.int c0), (.int c1)] (.int z0)) ftx z1) (.int z1) (.int z1) r7 zc ga va ka x0 gb vb kb y0 T81.heap n0 (by omega) Y99 Y100 Y101 Y102 Y103 Y104 Y105 Y106 Y81_0 Y107 Y108 Y109 Y110 O_an O_av n_r12_an n_r12_av n_r12_ae n_r12_tx n_an_av n_an_ae n_av_ae n_an_tx n_av_tx n_ae_tx S_COMPACT hcs Y111 Y112 Y113 Y114 Y115 Y116 Y117 Y118 Y119 Y120 Y121 Y122 n_r6_r7 n_r6_r12 n_r6_an n_r6_av n_r6_ae n_r6_tx n_r6_va n_r6_vb n_r7_r12 n_r7_an n_r7_av n_r7_ae n_r7_tx n_r7_va n_r7_vb (by first | assumption | decide) (by first | assumption | decide) (own_hit _ _ _) Y93 (by omega) (by omega) (hb255 hf8)) hZ (ow hw 135 rfl) (ow hw 29 rfl) (by decide) (by decide)) q98a q98c (g := (mkF m 291 #[sI p0, sI p1, sI p2, sI p3, sI p4, sI p5, sR r6, sR r7, sR r8, sR r9, sI i10, sI z1, sR r12, sI z1, sR b6_0, sI (-1 : Int32)] [(.ref r6), (.ref r12)])) rfl (by rw [hml]; rfl) (Steps.refl _) (argsL := [(.ref r6)]) (rest := []) (lenOf pd161_1_5 rfl) rfl (le0 rfl) (hb hby at_291) (fun vm₁ hvm => ⟨rfl, e92, (by decide : 34 + 0 ≤ _), (by decide : 9010 + 0 ≤ _)⟩)
    dsimp only [Pt.U, Pt.locs, Pt.cells, Pt.slots] at X98 l98 y98 z98 st98 hQ98
    subst l98 y98 z98
    obtain ⟨rfl, N98q, K98, KF98, Y98_0, Y98_1, Y98_2, Y98_3⟩ := hQ98
    have sz98 : T81.heap.size ≤ T98.heap.size := K98.1
    have N98 := Fr.app N92 N98q
    refine GoW.trans st98 ?_
    refine GoW.pre (st' := T98.setTop (mkF m 308 #[sI p0, sI p1, sI p2, sI p3, sI p4, sI p5, sR r6, sR r7, sR r8, sR r9, sI i10, sI z1, sR r12, sI z1, sR b6_0, sI (-1 : Int32)] [(.int z1)])) (fun target kt => ?_) ?_
    · refine XS.iload X98.here hx rfl (hb hby at_294) rfl ?_
      refine XS.icmpNo X98.here hx rfl (hb hby at_296) rfl (teq (by decide)).2 ?_
      refine XS.iconst X98.here hx rfl (hb hby at_299) ?_
      refine XS.goto X98.here hx rfl (pc0 := 300) (pc' := 304) rfl (hb hby at_300) (by decide) (by decide) ?_
      refine XS.istore X98.here hx rfl (hb hby at_304) rfl (l' := #[.val (.int p0), .val (.int p1), .val (.int p2), .val (.int p3), .val (.int p4), .val (.int p5), .val (.ref r6), .val (.ref r7), .val (.ref r8), .val (.ref r9), .val (.int i10), .val (.int z1), .val (.ref r12), .val (.int z1), .val (.ref b6_0), .val (.int (-1 : Int32))]) rfl ?_
      refine XS.iload X98.here hx rfl (hb hby at_306) rfl ?_
      exact kt
    exact GoW.retN X98 hS (leH rfl (by omega)) hx hlk hrt (z' := z1) (by simp) (hb hby at_308) rfl (by decide) (by decide) (by exact ⟨rfl, N98⟩)
theorem pd161_2_0 : parseMethodDescriptor "()I" = some ⟨[], some .int⟩ := by decide +kernel
theorem pd161_2_1 : parseMethodDescriptor "(Ljava/lang/String;[CII)V" = some ⟨[(.object "java/lang/String"), (.array .char), .int, .int], none⟩ := by decide +kernel
theorem pd161_2_2 : parseMethodDescriptor "([C)V" = some ⟨[(.array .char)], none⟩ := by decide +kernel
theorem pd161_2_3 : parseMethodDescriptor "(Ljava/lang/Object;)Z" = some ⟨[(.object "java/lang/Object")], some .boolean⟩ := by decide +kernel
theorem pd161_2_4 : parseMethodDescriptor "(I)Ljava/lang/String;" = some ⟨[.int], some (.object "java/lang/String")⟩ := by decide +kernel
theorem pd161_2_5 : parseMethodDescriptor "(Ljava/lang/String;)I" = some ⟨[(.object "java/lang/String")], some .int⟩ := by decide +kernel
theorem blk161_2 {p : Program} {l : Launch} {e : Env} {s : State} {m : MethodId} {args : Array Value} {below : List Frame} {meth : Method} {c : Code} {Z : State} {a0 : Array Value} {T : State} {locs : List Loc} {h0 : Heap} {n0 : Nat} {vm0 : Vm} {k0 : Nat} (C : Ctx p (s.setVm vm0) m meth c Z code 16 "com/example/satzung/satzung/parse/AttributesClearPinLaw" (some .boolean)) (hw : ∀ d ∈ tables_1, d.before a0 Z = true) (hS : s.Since vm0 k0) (hk : k0 ≤ h0.size) (hI : IB Z vm0 ["w", "v"]) (hnS : n0 = s.heap.size) (hkp : ∀ (b : Addr) (cl : Cell), Z.heap[b]? = some cl → s.heap[b]? = some cl)
    (X0 : Stand p l e room_1 (s.setVm vm0) m args below meth c T locs 30 9000) (e0 : T.heap = h0) (N0 : Fr n0 locs) (p0 : Int32) (p1 : Int32) (p2 : Int32) (p3 : Int32) (p4 : Int32) (p5 : Int32) (r6 : Addr) (r7 : Addr) (r8 : Addr) (r9 : Addr) (i10 : Int32) (r12 : Addr) (zc : Int32) (zf : Value) (ga : Int32) (va : Addr) (ka : ClassId) (x0 : Int32) (gb : Int32) (vb : Addr) (kb : ClassId) (y0 : Int32) (kg : ClassId) (c0 : Int32) (c1 : Int32) (an : Addr) (kan : ClassId) (fan : Int32 → Value) (av : Addr) (kav : ClassId) (fav : Int32 → Value) (ae : Addr) (kae : ClassId) (fae : Int32 → Value) (tx : Addr) (ktx : ClassId) (ftx : Int32 → Value) (Z0 : n0 ≤ h0.size) (S_COMPACT : Sta Z Z.heap cB "COMPACT_STRINGS" "Z" (.int zc)) (hcs : ¬ (zc = z0)) (S_F : Sta Z Z.heap cE "SIOOBE_FORMATTER" "Ljava/util/function/BiFunction;" zf) (hv_zf : zf.isRef = true) (hcw : Jvm.Lit.compactW.before a0 Z = true) (hheld : ∀ q ∈ consts_1, Jvm.Lit.constHeld Z q.1 q.2) (Ol : Old Z n0 h0) (E_r6 : Exa Z h0 r6 cB) (F_ca : Fld Z h0 r6 cB "coder" "B" (.int ga)) (F_va : Fld Z h0 r6 cB "value" "[B" (.ref va)) (A_a : Arv Z h0 va ka .byte z1 [(.int x0)] (.int z0)) (F_ha : Fld Z h0 r6 cB "hash" "I" (.int z0)) (F_za : Fld Z h0 r6 cB "hashIsZero" "Z" (.int z0)) (E_r7 : Exa Z h0 r7 cB) (F_cb : Fld Z h0 r7 cB "coder" "B" (.int gb)) (F_vb : Fld Z h0 r7 cB "value" "[B" (.ref vb)) (A_b : Arv Z h0 vb kb .byte z1 [(.int y0)] (.int z0)) (F_hb : Fld Z h0 r7 cB "hash" "I" (.int z0)) (F_zb : Fld Z h0 r7 cB "hashIsZero" "Z" (.int z0)) (hga : ga = z0) (hgb : gb = z0) (hb255 : ¬ x0 = y0 → ¬ (y0 &&& z255) = (x0 &&& z255)) (A_r9 : Arv Z h0 r9 kg .char z2 [(.int c0), (.int c1)] (.int z0)) (hc0 : ¬ (z255 < c0)) (hc1 : ¬ (z255 < c1)) (E_r12 : Exa Z h0 r12 cA) (F_se : Fld Z h0 r12 cA "size" "I" (.int z0)) (F_sd : Fld Z h0 r12 cA "specified" "I" (.int z0)) (F_th : Fld Z h0 r12 cA "textLength" "I" (.int z0)) (F_ix : Fld Z h0 r12 cA "index" "Ljava/util/Map;" .null) (Fan : Fld Z h0 r12 cA "names" cD (.ref an)) (B_an : Arf Z h0 an kan (.object cB) z16 fan) (Fav : Fld Z h0 r12 cA "values" cD (.ref av)) (B_av : Arf Z h0 av kav (.object cB) z16 fav) (Fae : Fld Z h0 r12 cA "ends" "[I" (.ref ae)) (B_ae : Arf Z h0 ae kae .int z16 fae) (Ftx : Fld Z h0 r12 cA "text" "[C" (.ref tx)) (B_tx : Arf Z h0 tx ktx .char z1024 ftx) (O_an : Ovr Z kan cB) (O_av : Ovr Z kav cB) (n_r12_an : r12 ≠ an) (n_r12_av : r12 ≠ av) (n_r12_ae : r12 ≠ ae) (n_r12_tx : r12 ≠ tx) (n_an_av : an ≠ av) (n_an_ae : an ≠ ae) (n_av_ae : av ≠ ae) (n_an_tx : an ≠ tx) (n_av_tx : av ≠ tx) (n_ae_tx : ae ≠ tx) (n_r6_r7 : r6 ≠ r7) (n_r6_an : r6 ≠ an) (n_r6_av : r6 ≠ av) (n_r6_ae : r6 ≠ ae) (n_r6_tx : r6 ≠ tx) (n_r6_r12 : r6 ≠ r12) (n_r7_an : r7 ≠ an) (n_r7_av : r7 ≠ av) (n_r7_ae : r7 ≠ ae) (n_r7_tx : r7 ≠ tx) (n_r7_r12 : r7 ≠ r12) (n_va_an : va ≠ an) (n_va_av : va ≠ av) (n_va_ae : va ≠ ae) (n_va_tx : va ≠ tx) (n_va_r12 : va ≠ r12) (n_vb_an : vb ≠ an) (n_vb_av : vb ≠ av) (n_vb_ae : vb ≠ ae) (n_vb_tx : vb ≠ tx) (n_vb_r12 : vb ≠ r12) (n_r9_an : r9 ≠ an) (n_r9_av : r9 ≠ av) (n_r9_ae : r9 ≠ ae) (n_r9_tx : r9 ≠ tx) (n_r9_r12 : r9 ≠ r12) (n_r6_va : r6 ≠ va) (n_r6_vb : r6 ≠ vb) (n_r6_r9 : r6 ≠ r9) (n_r7_va : r7 ≠ va) (n_r7_vb : r7 ≠ vb) (n_r7_r9 : r7 ≠ r9) (g_r6 : n0 ≤ r6) (g_r7 : n0 ≤ r7) (g_r12 : n0 ≤ r12) (g_an : n0 ≤ an) (g_av : n0 ≤ av) (g_ae : n0 ≤ ae) (g_tx : n0 ≤ tx) :
    GoW p e below s 56 16640 (fun v vm h L => v = some (.int 1) ∧ Fr n0 L) (T.setTop (mkF m 161 #[sI p0, sI p1, sI p2, sI p3, sI p4, sI p5, sR r6, sR r7, sR r8, sR r9, sI i10, sI z2, sR r12, sU, sU, sU] [])) := by
  obtain ⟨hx, hZ, hby, hml, hown, hrt, hlk⟩ := id C
  have lt_E_r6 : LT.lt (α := Nat) r6 h0.size := E_r6.lt
  have lt_A_a : LT.lt (α := Nat) va h0.size := A_a.lt
  have lt_E_r7 : LT.lt (α := Nat) r7 h0.size := E_r7.lt
  have lt_A_b : LT.lt (α := Nat) vb h0.size := A_b.lt
  have lt_A_r9 : LT.lt (α := Nat) r9 h0.size := A_r9.lt
  have lt_E_r12 : LT.lt (α := Nat) r12 h0.size := E_r12.lt
  have lt_B_an : LT.lt (α := Nat) an h0.size := B_an.lt
  have lt_B_av : LT.lt (α := Nat) av h0.size := B_av.lt
  have lt_B_ae : LT.lt (α := Nat) ae h0.size := B_ae.lt
  have lt_B_tx : LT.lt (α := Nat) tx h0.size := B_tx.lt
  refine GoW.pre (st' := T.setTop (mkF m 163 #[sI p0, sI p1, sI p2, sI p3, sI p4, sI p5, sR r6, sR r7, sR r8, sR r9, sI i10, sI z2, sR r12, sU, sU, sU] [(.ref r12)])) (fun target kt => ?_) ?_
  · refine XS.aload X0.here hx rfl (hb hby at_161) rfl rfl ?_
    exact kt
  obtain ⟨cq1, kq1, q1a, q1b, q1c⟩ := isOf hZ e0 E_r12
  obtain ⟨_, _, ⟨T1, L1, k1, n1⟩, -, X1, ⟨Lc1, hQ1, l1, y1, z1⟩, st1⟩ := X0.virtualBack hx (y := (⟨cA, "size", "()I"⟩ : MethodName)) (z := (⟨cA, "size", "()I"⟩ : MethodName)) hown (mvT hZ (ow hw 76 rfl)) (mvT hZ (ow hw 77 rfl)) (notFace_of_selects (args := #[]) (mvT hZ (ow hw 79 rfl))) (mvT hZ (ow hw 79 rfl)) (mvT hZ (ow hw 78 rfl)) (by decide) (backOf (W := 0) (rm11 l Z a0 hw [] r12 z0 h0 n0 (by omega) F_se) hZ (ow hw 80 rfl) (ow hw 29 rfl) (by decide) (by decide)) q1a q1c (g := (mkF m 163 #[sI p0, sI p1, sI p2, sI p3, sI p4, sI p5, sR r6, sR r7, sR r8, sR r9, sI i10, sI z2, sR r12, sU, sU, sU] [(.ref r12)])) rfl (by rw [hml]; rfl) (Steps.refl _) (argsL := []) (rest := []) (lenOf pd161_2_0 rfl) rfl (le0 rfl) (hb hby at_163) (fun vm₁ hvm => ⟨rfl, e0, (by decide : 30 + 0 ≤ _), (by decide : 9000 + 0 ≤ _)⟩)
  dsimp only [Pt.U, Pt.locs, Pt.cells, Pt.slots] at X1 l1 y1 z1 st1 hQ1
  subst l1 y1 z1
  obtain ⟨rfl, N1q, e1⟩ := hQ1
  have N1 := Fr.app N0 N1q
  refine GoW.trans st1 ?_
  refine GoW.pre (st' := T1.setTop (mkF m 171 #[sI p0, sI p1, sI p2, sI p3, sI p4, sI p5, sR r6, sR r7, sR r8, sR r9, sI i10, sI z2, sR r12, sU, sU, sU] [(.ref r12)])) (fun target kt => ?_) ?_
  · refine XS.ifNo X1.here hx rfl (hb hby at_166) rfl ((if0 _ _).trans (teq (by decide)).2) ?_
    refine XS.aload X1.here hx rfl (hb hby at_169) rfl rfl ?_
    exact kt
  obtain ⟨cq2, kq2, q2a, q2b, q2c⟩ := isOf hZ e1 E_r12
  obtain ⟨_, _, ⟨T2, L2, k2, n2⟩, -, X2, ⟨Lc2, hQ2, l2, y2, z2⟩, st2⟩ := X1.virtualBack hx (y := (⟨cA, "specified", "()I"⟩ : MethodName)) (z := (⟨cA, "specified", "()I"⟩ : MethodName)) hown (mvT hZ (ow hw 81 rfl)) (mvT hZ (ow hw 82 rfl)) (notFace_of_selects (args := #[]) (mvT hZ (ow hw 84 rfl))) (mvT hZ (ow hw 84 rfl)) (mvT hZ (ow hw 83 rfl)) (by decide) (backOf (W := 0) (rm12 l Z a0 hw [] r12 z0 h0 n0 (by omega) F_sd) hZ (ow hw 85 rfl) (ow hw 29 rfl) (by decide) (by decide)) q2a q2c (g := (mkF m 171 #[sI p0, sI p1, sI p2, sI p3, sI p4, sI p5, sR r6, sR r7, sR r8, sR r9, sI i10, sI z2, sR r12, sU, sU, sU] [(.ref r12)])) rfl (by rw [hml]; rfl) (Steps.refl _) (argsL := []) (rest := []) (lenOf pd161_2_0 rfl) rfl (le0 rfl) (hb hby at_171) (fun vm₁ hvm => ⟨rfl, e1, (by decide : 30 + 0 ≤ _), (by decide : 9000 + 0 ≤ _)⟩)
  dsimp only [Pt.U, Pt.locs, Pt.cells, Pt.slots] at X2 l2 y2 z2 st2 hQ2
  subst l2 y2 z2
  obtain ⟨rfl, N2q, e2⟩ := hQ2
  have N2 := Fr.app N1 N2q
  refine GoW.trans st2 ?_
  refine GoW.pre (st' := T2.setTop (mkF m 193 #[sI p0, sI p1, sI p2, sI p3, sI p4, sI p5, sR r6, sR r7, sR r8, sR r9, sI i10, sI z2, sR r12, sI z1, sU, sU] [(.int z2), (.int z0), (.ref r9), (.ref r7), (.ref r12)])) (fun target kt => ?_) ?_
  · refine XS.ifNo X2.here hx rfl (hb hby at_174) rfl ((if0 _ _).trans (teq (by decide)).2) ?_
    refine XS.iconst X2.here hx rfl (hb hby at_177) ?_
    refine XS.goto X2.here hx rfl (pc0 := 178) (pc' := 182) rfl (hb hby at_178) (by decide) (by decide) ?_
    refine XS.istore X2.here hx rfl (hb hby at_182) rfl (l' := #[.val (.int p0), .val (.int p1), .val (.int p2), .val (.int p3), .val (.int p4), .val (.int p5), .val (.ref r6), .val (.ref r7), .val (.ref r8), .val (.ref r9), .val (.int i10), .val (.int z2), .val (.ref r12), .val (.int z1), .unset, .unset]) rfl ?_
    refine XS.aload X2.here hx rfl (hb hby at_184) rfl rfl ?_
    refine XS.aload X2.here hx rfl (hb hby at_186) rfl rfl ?_
    refine XS.aload X2.here hx rfl (hb hby at_188) rfl rfl ?_
    refine XS.iconst X2.here hx rfl (hb hby at_190) ?_
    refine XS.iload X2.here hx rfl (hb hby at_191) rfl ?_
    exact kt
  obtain ⟨cq3, kq3, q3a, q3b, q3c⟩ := isOf hZ e2 E_r12
  obtain ⟨_, _, ⟨T3, L3, k3, n3⟩, -, X3, ⟨Lc3, hQ3, l3, y3, z3⟩, st3⟩ := X2.virtualBack hx (y := (⟨cA, "add", "(Ljava/lang/String;[CII)V"⟩ : MethodName)) (z := (⟨cA, "add", "(Ljava/lang/String;[CII)V"⟩ : MethodName)) hown (mvT hZ (ow hw 86 rfl)) (mvT hZ (ow hw 87 rfl)) (notFace_of_selects (args := #[]) (mvT hZ (ow hw 89 rfl))) (mvT hZ (ow hw 89 rfl)) (mvT hZ (ow hw 88 rfl)) (by decide) (backOf (W := 0) (rm13_2 l Z a0 hw [] r12 r7 r9 an kan fan av kav fav ae kae fae tx ktx ftx (.int z0) kg c0 c1 h0 n0 (by omega) E_r12 F_se F_sd F_th F_ix Fan B_an Fav B_av Fae B_ae Ftx B_tx O_an O_av n_r12_an n_r12_av n_r12_ae n_r12_tx n_an_av n_an_ae n_av_ae n_an_tx n_av_tx n_ae_tx A_r9 E_r7 n_r9_an n_r9_av n_r9_ae n_r9_tx (Ne.symm n_r9_r12) (by omega) (by omega) (by omega) (by omega) (by omega)) hZ (ow hw 90 rfl) (ow hw 29 rfl) (by decide) (by decide)) q3a q3c (g := (mkF m 193 #[sI p0, sI p1, sI p2, sI p3, sI p4, sI p5, sR r6, sR r7, sR r8, sR r9, sI i10, sI z2, sR r12, sI z1, sU, sU] [(.int z2), (.int z0), (.ref r9), (.ref r7), (.ref r12)])) rfl (by rw [hml]; rfl) (Steps.refl _) (argsL := [(.ref r7), (.ref r9), (.int z0), (.int z2)]) (rest := []) (lenOf pd161_2_1 rfl) rfl (le0 rfl) (hb hby at_193) (fun vm₁ hvm => ⟨rfl, e2, (by decide : 30 + 0 ≤ _), (by decide : 9000 + 0 ≤ _)⟩)
  dsimp only [Pt.U, Pt.locs, Pt.cells, Pt.slots] at X3 l3 y3 z3 st3 hQ3
  subst l3 y3 z3
  obtain ⟨rfl, N3q, K3, KF3, Y3_0, Y3_1, Y3_2, Y3_3, Y3_4, Y3_5, Y3_6, Y3_7, Y3_8, Y3_9, Y3_10, Y3_11⟩ := hQ3
  have sz3 : h0.size ≤ T3.heap.size := K3.1
  have N3 := Fr.app N2 N3q
  refine GoW.trans st3 ?_
  refine GoW.pre (st' := T3.setTop (mkF m 222 #[sI p0, sI p1, sI p2, sI p3, sI p4, sI p5, sR r6, sR r7, sR r8, sR r9, sI i10, sI z2, sR r12, sI z1, sU, sU] [])) (fun target kt => ?_) ?_
  · refine XS.iload X3.here hx rfl (hb hby at_196) rfl ?_
    refine XS.ifYes X3.here hx rfl (pc0 := 198) (pc' := 206) rfl (hb hby at_198) rfl ((if0 _ _).trans (feq (by decide)).2) (by decide) (by decide) ?_
    refine XS.iload X3.here hx rfl (hb hby at_206) rfl ?_
    refine XS.iconst X3.here hx rfl (hb hby at_208) ?_
    refine XS.icmpYes X3.here hx rfl (pc0 := 209) (pc' := 222) rfl (hb hby at_209) rfl (feq (by decide)).2 (by decide) (by decide) ?_
    exact kt
  obtain ⟨T4, h4, X4, e4, E4, A4, D4, -, st4⟩ := newO X3 hx hZ hown (ow hw 165 rfl) (ow hw 10 rfl) (ow hw 2 rfl) rfl (g := (mkF m 222 #[sI p0, sI p1, sI p2, sI p3, sI p4, sI p5, sR r6, sR r7, sR r8, sR r9, sI i10, sI z2, sR r12, sI z1, sU, sU] [])) rfl (hb hby at_222) (by decide) (by decide)
  obtain ⟨b4, g4⟩ : ∃ z, z = T3.heap.size := ⟨_, rfl⟩
  rw [← g4] at A4 D4 st4
  have sz4 : T3.heap.size ≤ h4.size := E4.1
  have lt4 : b4 < h4.size := A4.lt
  have F4_value : Fld Z h4 b4 cB "value" "[B" .null := D4 (Or.inr (ow hw 23 rfl)) (ty := (.array .byte)) (by decide)
  have F4_coder : Fld Z h4 b4 cB "coder" "B" (.int z0) := D4 (Or.inr (ow hw 25 rfl)) (ty := .byte) (by decide)
  have F4_hash : Fld Z h4 b4 cB "hash" "I" (.int z0) := D4 (Or.inl (ow hw 142 rfl)) (ty := .int) (by decide)
  have F4_hashIsZero : Fld Z h4 b4 cB "hashIsZero" "Z" (.int z0) := D4 (Or.inl (ow hw 144 rfl)) (ty := .boolean) (by decide)
  refine GoW.pre st4 ?_
  refine GoW.pre (st' := T4.setTop (mkF m 228 #[sI p0, sI p1, sI p2, sI p3, sI p4, sI p5, sR r6, sR r7, sR r8, sR r9, sI i10, sI z2, sR r12, sI z1, sU, sU] [(.ref r9), (.ref b4), (.ref b4)])) (fun target kt => ?_) ?_
  · refine XS.dup X4.here hx rfl (hb hby at_225) rfl rfl ?_
    refine XS.aload X4.here hx rfl (hb hby at_226) rfl rfl ?_
    exact kt
  have Y6 := ((A_r9.keep K3 (ninS n_r9_tx (ninS n_r9_r12 (ninS n_r9_an (ninS n_r9_av (ninS n_r9_ae nin0)))))).ext E4)
  have Y7 := ((Ol.keep K3 (allS (by omega) (allS (by omega) (allS (by omega) (allS (by omega) (allS (by omega) all0)))))).ext E4)
  obtain ⟨_, _, ⟨T5, L5, k5, n5⟩, -, X5, ⟨Lc5, hQ5, l5, y5, z5⟩, st5⟩ := X4.specialBack hx (y := (⟨cB, "<init>", "([C)V"⟩ : MethodName)) rfl hown (mvT hZ (ow hw 166 rfl)) (mvT hZ (ow hw 167 rfl)) (mvT hZ (ow hw 168 rfl)) (by decide) (backOf (W := 1) (rm30c l Z a0 hw [] b4 r9 kg c0 c1 zc (.int z0) .null h4 n0 (by omega) Y6 S_COMPACT Y7 F4_coder A4 (by omega) F4_value hc0 hc1 hcs) hZ (ow hw 168 rfl) (ow hw 2 rfl) (by decide) (by decide)) (g := (mkF m 228 #[sI p0, sI p1, sI p2, sI p3, sI p4, sI p5, sR r6, sR r7, sR r8, sR r9, sI i10, sI z2, sR r12, sI z1, sU, sU] [(.ref r9), (.ref b4), (.ref b4)])) rfl (by rw [hml]; rfl) (Steps.refl _) (a := b4) (argsL := [(.ref r9)]) (rest := [(.ref b4)]) (lenOf pd161_2_2 rfl) rfl (le0 rfl) (hb hby at_228) (fun vm₁ hvm => ⟨rfl, e4, (by decide : 31 + 1 ≤ _), (by decide : 9004 + 2 ≤ _)⟩)
  dsimp only [Pt.U, Pt.locs, Pt.cells, Pt.slots] at X5 l5 y5 z5 st5 hQ5
  subst l5 y5 z5
  obtain ⟨b5_0, k5_0, rfl, N5q, K5, KF5, gb5_0, ltb5_0, Y5_0, Y5_1, Y5_2⟩ := hQ5
  have sz5 : h4.size ≤ T5.heap.size := K5.1
  have N5 := Fr.app N3 N5q
  refine GoW.trans st5 ?_
  refine GoW.pre (st' := T5.setTop (mkF m 237 #[sI p0, sI p1, sI p2, sI p3, sI p4, sI p5, sR r6, sR r7, sR r8, sR r9, sI i10, sI z2, sR r12, sI z1, sR b4, sU] [(.ref r7), (.ref r6)])) (fun target kt => ?_) ?_
  · refine XS.astore X5.here hx rfl (hb hby at_231) rfl rfl (l' := #[.val (.int p0), .val (.int p1), .val (.int p2), .val (.int p3), .val (.int p4), .val (.int p5), .val (.ref r6), .val (.ref r7), .val (.ref r8), .val (.ref r9), .val (.int i10), .val (.int z2), .val (.ref r12), .val (.int z1), .val (.ref b4), .unset]) rfl ?_
    refine XS.aload X5.here hx rfl (hb hby at_233) rfl rfl ?_
    refine XS.aload X5.here hx rfl (hb hby at_235) rfl rfl ?_
    exact kt
  by_cases hf8 : x0 = y0
  · have Y10 : Old Z n0 T5.heap := (Y7.keep K5 (allS (by omega) all0))
    have Y11 := (((E_r6.keep K3).ext E4).keep K5)
    have Y12 := (((F_ca.keep K3 (ninS n_r6_tx (ninS n_r6_r12 (ninS n_r6_an (ninS n_r6_av (ninS n_r6_ae nin0)))))).ext E4).keep K5 (ninS (neN (by omega)) nin0))
    have Y13 := (((F_va.keep K3 (ninS n_r6_tx (ninS n_r6_r12 (ninS n_r6_an (ninS n_r6_av (ninS n_r6_ae nin0)))))).ext E4).keep K5 (ninS (neN (by omega)) nin0))
    have Y14 := (((A_a.keep K3 (ninS n_va_tx (ninS n_va_r12 (ninS n_va_an (ninS n_va_av (ninS n_va_ae nin0)))))).ext E4).keep K5 (ninS (neN (by omega)) nin0))
    have Y15 := (((E_r7.keep K3).ext E4).keep K5)
    have Y16 := (((F_cb.keep K3 (ninS n_r7_tx (ninS n_r7_r12 (ninS n_r7_an (ninS n_r7_av (ninS n_r7_ae nin0)))))).ext E4).keep K5 (ninS (neN (by omega)) nin0))
    have Y17 := (((F_vb.keep K3 (ninS n_r7_tx (ninS n_r7_r12 (ninS n_r7_an (ninS n_r7_av (ninS n_r7_ae nin0)))))).ext E4).keep K5 (ninS (neN (by omega)) nin0))
    have Y18 := (((A_b.keep K3 (ninS n_vb_tx (ninS n_vb_r12 (ninS n_vb_an (ninS n_vb_av (ninS n_vb_ae nin0)))))).ext E4).keep K5 (ninS (neN (by omega)) nin0))
    obtain ⟨cq9, kq9, q9a, q9b, q9c⟩ := isOf hZ rfl Y11
    obtain ⟨_, _, ⟨T9, L9, k9, n9⟩, -, X9, ⟨Lc9, hQ9, l9, y9, z9⟩, st9⟩ := X5.virtualBack hx (y := (⟨cB, "equals", cH⟩ : MethodName)) (z := (⟨cB, "equals", cH⟩ : MethodName)) hown (mvT hZ (ow hw 96 rfl)) (mvT hZ (ow hw 97 rfl)) (notFace_of_selects (args := #[]) (mvT hZ (ow hw 99 rfl))) (mvT hZ (ow hw 99 rfl)) (mvT hZ (ow hw 98 rfl)) (by decide) (backOf (W := 0) (rm14_1T l Z a0 hw [] r6 r7 zc ga va ka x0 gb vb kb y0 T5.heap n0 (by omega) S_COMPACT Y11 Y12 Y13 Y14 Y15 Y16 Y17 Y18 n_r6_r7 Y10 hf8 hcs (hga.trans hgb.symm)) hZ (ow hw 100 rfl) (ow hw 2 rfl) (by decide) (by decide)) q9a q9c (g := (mkF m 237 #[sI p0, sI p1, sI p2, sI p3, sI p4, sI p5, sR r6, sR r7, sR r8, sR r9, sI i10, sI z2, sR r12, sI z1, sR b4, sU] [(.ref r7), (.ref r6)])) rfl (by rw [hml]; rfl) (Steps.refl _) (argsL := [(.ref r7)]) (rest := []) (lenOf pd161_2_3 rfl) rfl (le0 rfl) (hb hby at_237) (fun vm₁ hvm => ⟨rfl, rfl, (by decide : 32 + 0 ≤ _), (by decide : 9006 + 0 ≤ _)⟩)
    dsimp only [Pt.U, Pt.locs, Pt.cells, Pt.slots] at X9 l9 y9 z9 st9 hQ9
    subst l9 y9 z9
    obtain ⟨rfl, N9q, e9⟩ := hQ9
    have N9 := Fr.app N5 N9q
    refine GoW.trans st9 ?_
    refine GoW.pre (st' := T9.setTop (mkF m 257 #[sI p0, sI p1, sI p2, sI p3, sI p4, sI p5, sR r6, sR r7, sR r8, sR r9, sI i10, sI z2, sR r12, sI z1, sR b4, sI z0] [(.ref r12)])) (fun target kt => ?_) ?_
    · refine XS.ifNo X9.here hx rfl (hb hby at_240) rfl ((if0 _ _).trans (feq (by decide)).1) ?_
      refine XS.iconst X9.here hx rfl (hb hby at_243) ?_
      refine XS.goto X9.here hx rfl (pc0 := 244) (pc' := 248) rfl (hb hby at_244) (by decide) (by decide) ?_
      refine XS.istore X9.here hx rfl (hb hby at_248) rfl (l' := #[.val (.int p0), .val (.int p1), .val (.int p2), .val (.int p3), .val (.int p4), .val (.int p5), .val (.ref r6), .val (.ref r7), .val (.ref r8), .val (.ref r9), .val (.int i10), .val (.int z2), .val (.ref r12), .val (.int z1), .val (.ref b4), .val (.int z0)]) rfl ?_
      refine XS.iload X9.here hx rfl (hb hby at_250) rfl ?_
      refine XS.ifNo X9.here hx rfl (hb hby at_252) rfl ((if0 _ _).trans (feq (by decide)).1) ?_
      refine XS.aload X9.here hx rfl (hb hby at_255) rfl rfl ?_
      exact kt
    have Y20 := ((Y3_1.ext E4).keep K5 (ninS (neN (by omega)) nin0))
    have Y21 := (((E_r12.keep K3).ext E4).keep K5)
    obtain ⟨cq19, kq19, q19a, q19b, q19c⟩ := isOf hZ e9 Y21
    obtain ⟨_, _, ⟨T19, L19, k19, n19⟩, -, X19, ⟨Lc19, hQ19, l19, y19, z19⟩, st19⟩ := X9.virtualBack hx (y := (⟨cA, "size", "()I"⟩ : MethodName)) (z := (⟨cA, "size", "()I"⟩ : MethodName)) hown (mvT hZ (ow hw 76 rfl)) (mvT hZ (ow hw 77 rfl)) (notFace_of_selects (args := #[]) (mvT hZ (ow hw 79 rfl))) (mvT hZ (ow hw 79 rfl)) (mvT hZ (ow hw 78 rfl)) (by decide) (backOf (W := 0) (rm11 l Z a0 hw [] r12 z1 T5.heap n0 (by omega) Y20) hZ (ow hw 80 rfl) (ow hw 29 rfl) (by decide) (by decide)) q19a q19c (g := (mkF m 257 #[sI p0, sI p1, sI p2, sI p3, sI p4, sI p5, sR r6, sR r7, sR r8, sR r9, sI i10, sI z2, sR r12, sI z1, sR b4, sI z0] [(.ref r12)])) rfl (by rw [hml]; rfl) (Steps.refl _) (argsL := []) (rest := []) (lenOf pd161_2_0 rfl) rfl (le0 rfl) (hb hby at_257) (fun vm₁ hvm => ⟨rfl, e9, (by decide : 32 + 0 ≤ _), (by decide : 9006 + 0 ≤ _)⟩)
    dsimp only [Pt.U, Pt.locs, Pt.cells, Pt.slots] at X19 l19 y19 z19 st19 hQ19
    subst l19 y19 z19
    obtain ⟨rfl, N19q, e19⟩ := hQ19
    have N19 := Fr.app N9 N19q
    refine GoW.trans st19 ?_
    refine GoW.pre (st' := T19.setTop (mkF m 266 #[sI p0, sI p1, sI p2, sI p3, sI p4, sI p5, sR r6, sR r7, sR r8, sR r9, sI i10, sI z2, sR r12, sI z1, sR b4, sI z0] [(.ref r12)])) (fun target kt => ?_) ?_
    · refine XS.iconst X19.here hx rfl (hb hby at_260) ?_
      refine XS.icmpNo X19.here hx rfl (hb hby at_261) rfl (teq (by decide)).2 ?_
      refine XS.aload X19.here hx rfl (hb hby at_264) rfl rfl ?_
      exact kt
    have Y23 := ((Y3_2.ext E4).keep K5 (ninS (neN (by omega)) nin0))
    obtain ⟨cq22, kq22, q22a, q22b, q22c⟩ := isOf hZ e19 Y21
    obtain ⟨_, _, ⟨T22, L22, k22, n22⟩, -, X22, ⟨Lc22, hQ22, l22, y22, z22⟩, st22⟩ := X19.virtualBack hx (y := (⟨cA, "specified", "()I"⟩ : MethodName)) (z := (⟨cA, "specified", "()I"⟩ : MethodName)) hown (mvT hZ (ow hw 81 rfl)) (mvT hZ (ow hw 82 rfl)) (notFace_of_selects (args := #[]) (mvT hZ (ow hw 84 rfl))) (mvT hZ (ow hw 84 rfl)) (mvT hZ (ow hw 83 rfl)) (by decide) (backOf (W := 0) (rm12 l Z a0 hw [] r12 z1 T5.heap n0 (by omega) Y23) hZ (ow hw 85 rfl) (ow hw 29 rfl) (by decide) (by decide)) q22a q22c (g := (mkF m 266 #[sI p0, sI p1, sI p2, sI p3, sI p4, sI p5, sR r6, sR r7, sR r8, sR r9, sI i10, sI z2, sR r12, sI z1, sR b4, sI z0] [(.ref r12)])) rfl (by rw [hml]; rfl) (Steps.refl _) (argsL := []) (rest := []) (lenOf pd161_2_0 rfl) rfl (le0 rfl) (hb hby at_266) (fun vm₁ hvm => ⟨rfl, e19, (by decide : 32 + 0 ≤ _), (by decide : 9006 + 0 ≤ _)⟩)
    dsimp only [Pt.U, Pt.locs, Pt.cells, Pt.slots] at X22 l22 y22 z22 st22 hQ22
    subst l22 y22 z22
    obtain ⟨rfl, N22q, e22⟩ := hQ22
    have N22 := Fr.app N19 N22q
    refine GoW.trans st22 ?_
    refine GoW.pre (st' := T22.setTop (mkF m 276 #[sI p0, sI p1, sI p2, sI p3, sI p4, sI p5, sR r6, sR r7, sR r8, sR r9, sI i10, sI z2, sR r12, sI z1, sR b4, sI z0] [(.int z0), (.ref r12)])) (fun target kt => ?_) ?_
    · refine XS.iconst X22.here hx rfl (hb hby at_269) ?_
      refine XS.icmpNo X22.here hx rfl (hb hby at_270) rfl (teq (by decide)).2 ?_
      refine XS.aload X22.here hx rfl (hb hby at_273) rfl rfl ?_
      refine XS.iconst X22.here hx rfl (hb hby at_275) ?_
      exact kt
    have Y25 := ((Y3_3.ext E4).keep K5 (ninS (neN (by omega)) nin0))
    have Y26 := ((Y3_4.ext E4).keep K5 (ninS (neN (by omega)) nin0))
    have Y27 := ((Y3_5.ext E4).keep K5 (ninS (neN (by omega)) nin0))
    have Y28 := ((Y3_9.ext E4).keep K5 (ninS (neN (by omega)) nin0))
    have Y29 := ((Y3_6.ext E4).keep K5 (ninS (neN (by omega)) nin0))
    have Y30 := ((Y3_10.ext E4).keep K5 (ninS (neN (by omega)) nin0))
    have Y31 := ((Y3_7.ext E4).keep K5 (ninS (neN (by omega)) nin0))
    have Y32 := ((Y3_11.ext E4).keep K5 (ninS (neN (by omega)) nin0))
    have Y33 := ((Y3_8.ext E4).keep K5 (ninS (neN (by omega)) nin0))
    have Y34 := ((Y3_0.ext E4).keep K5 (ninS (neN (by omega)) nin0))
    obtain ⟨cq24, kq24, q24a, q24b, q24c⟩ := isOf hZ e22 Y21
    obtain ⟨_, _, ⟨T24, L24, k24, n24⟩, -, X24, ⟨Lc24, hQ24, l24, y24, z24⟩, st24⟩ := X22.virtualBack hx (y := (⟨cA, "value", "(I)Ljava/lang/String;"⟩ : MethodName)) (z := (⟨cA, "value", "(I)Ljava/lang/String;"⟩ : MethodName)) hown (mvT hZ (ow hw 104 rfl)) (mvT hZ (ow hw 105 rfl)) (notFace_of_selects (args := #[]) (mvT hZ (ow hw 107 rfl))) (mvT hZ (ow hw 107 rfl)) (mvT hZ (ow hw 106 rfl)) (by decide) (backOf (W := 0) (rm16_2 l Z a0 hw [] r12 an kan (own_upd fan z0 (.ref r7)) av kav (own_upd fav z0 .null) ae kae (own_upd fae z0 (.int z2)) tx ktx (own_cp (own_lf [(.int c0), (.int c1)] (.int z0)) ftx z2) (.int z1) (.int z2) c0 c1 zc zf T5.heap n0 (by omega) Y21 Y20 Y23 Y25 Y26 Y27 Y28 Y29 Y30 Y31 Y32 Y33 Y34 O_an O_av n_r12_an n_r12_av n_r12_ae n_r12_tx n_an_av n_an_ae n_av_ae n_an_tx n_av_tx n_ae_tx (own_hit _ _ _) (own_hit _ _ _) rfl rfl S_COMPACT hcs S_F hv_zf Y10 (by omega) hc0 hc1) hZ (ow hw 108 rfl) (ow hw 29 rfl) (by decide) (by decide)) q24a q24c (g := (mkF m 276 #[sI p0, sI p1, sI p2, sI p3, sI p4, sI p5, sR r6, sR r7, sR r8, sR r9, sI i10, sI z2, sR r12, sI z1, sR b4, sI z0] [(.int z0), (.ref r12)])) rfl (by rw [hml]; rfl) (Steps.refl _) (argsL := [(.int z0)]) (rest := []) (lenOf pd161_2_4 rfl) rfl (le0 rfl) (hb hby at_276) (fun vm₁ hvm => ⟨rfl, e22, (by decide : 32 + 2 ≤ _), (by decide : 9006 + 6 ≤ _)⟩)
    dsimp only [Pt.U, Pt.locs, Pt.cells, Pt.slots] at X24 l24 y24 z24 st24 hQ24
    subst l24 y24 z24
    obtain ⟨b24_0, b24_1, k24_0, rfl, N24q, K24, KF24, gb24_0, ltb24_0, gb24_1, ltb24_1, lob24_1, Y24_0, Y24_1, Y24_2, Y24_3, Y24_4, Y24_5, Y24_6⟩ := hQ24
    have sz24 : T5.heap.size ≤ T24.heap.size := K24.1
    have N24 := Fr.app N22 N24q
    refine GoW.trans st24 ?_
    refine GoW.pre (st' := T24.setTop (mkF m 281 #[sI p0, sI p1, sI p2, sI p3, sI p4, sI p5, sR r6, sR r7, sR r8, sR r9, sI i10, sI z2, sR r12, sI z1, sR b4, sI z0] [(.ref b4), (.ref b24_0)])) (fun target kt => ?_) ?_
    · refine XS.aload X24.here hx rfl (hb hby at_279) rfl rfl ?_
      exact kt
    have Y36 := (Y10.keep K24 (allS (by omega) all0))
    have Y37 := ((A4.keep K5).keep K24)
    have Y38 := (Y5_0.keep K24 (ninS (neN (by omega)) nin0))
    have Y39 := (Y5_1.keep K24 (ninS (neN (by omega)) nin0))
    have Y40 := (Y5_2.keep K24 (ninS (neN (by omega)) nin0))
    obtain ⟨cq35, kq35, q35a, q35b, q35c⟩ := isOf hZ rfl Y24_1
    obtain ⟨_, _, ⟨T35, L35, k35, n35⟩, -, X35, ⟨Lc35, hQ35, l35, y35, z35⟩, st35⟩ := X24.virtualBack hx (y := (⟨cB, "equals", cH⟩ : MethodName)) (z := (⟨cB, "equals", cH⟩ : MethodName)) hown (mvT hZ (ow hw 96 rfl)) (mvT hZ (ow hw 97 rfl)) (notFace_of_selects (args := #[]) (mvT hZ (ow hw 99 rfl))) (mvT hZ (ow hw 99 rfl)) (mvT hZ (ow hw 98 rfl)) (by decide) (backOf (W := 0) (rm14_2T l Z a0 hw [] b24_0 b4 zc (nar .byte (nar .byte z0)) b24_1 k24_0 (nar .byte (c0.toInt8.toInt32)) (nar .byte (c1.toInt8.toInt32)) (nar .byte (nar .byte z0)) b5_0 k5_0 (nar .byte (c0.toInt8.toInt32)) (nar .byte (c1.toInt8.toInt32)) T24.heap n0 (by omega) S_COMPACT Y24_1 Y24_4 Y24_5 Y24_6 Y37 Y38 Y39 Y40 (neN (by omega)) Y36 rfl rfl hcs rfl) hZ (ow hw 100 rfl) (ow hw 2 rfl) (by decide) (by decide)) q35a q35c (g := (mkF m 281 #[sI p0, sI p1, sI p2, sI p3, sI p4, sI p5, sR r6, sR r7, sR r8, sR r9, sI i10, sI z2, sR r12, sI z1, sR b4, sI z0] [(.ref b4), (.ref b24_0)])) rfl (by rw [hml]; rfl) (Steps.refl _) (argsL := [(.ref b4)]) (rest := []) (lenOf pd161_2_3 rfl) rfl (le0 rfl) (hb hby at_281) (fun vm₁ hvm => ⟨rfl, rfl, (by decide : 34 + 0 ≤ _), (by decide : 9012 + 0 ≤ _)⟩)
    dsimp only [Pt.U, Pt.locs, Pt.cells, Pt.slots] at X35 l35 y35 z35 st35 hQ35
    subst l35 y35 z35
    obtain ⟨rfl, N35q, e35⟩ := hQ35
    have N35 := Fr.app N24 N35q
    refine GoW.trans st35 ?_
    refine GoW.pre (st' := T35.setTop (mkF m 291 #[sI p0, sI p1, sI p2, sI p3, sI p4, sI p5, sR r6, sR r7, sR r8, sR r9, sI i10, sI z2, sR r12, sI z1, sR b4, sI z0] [(.ref r6), (.ref r12)])) (fun target kt => ?_) ?_
    · refine XS.ifNo X35.here hx rfl (hb hby at_284) rfl ((if0 _ _).trans (feq (by decide)).1) ?_
      refine XS.aload X35.here hx rfl (hb hby at_287) rfl rfl ?_
      refine XS.aload X35.here hx rfl (hb hby at_289) rfl rfl ?_
      exact kt
    have Y42 := (Y21.keep K24)
    have Y43 := (Y20.keep K24 (ninS n_r12_av nin0))
    have Y44 := (Y23.keep K24 (ninS n_r12_av nin0))
    have Y45 := (Y25.keep K24 (ninS n_r12_av nin0))
    have Y46 := (Y26.keep K24 (ninS n_r12_av nin0))
    have Y47 := (Y27.keep K24 (ninS n_r12_av nin0))
    have Y48 := (Y28.keep K24 (ninS n_an_av nin0))
    have Y49 := (Y29.keep K24 (ninS n_r12_av nin0))
    have Y50 := (Y31.keep K24 (ninS n_r12_av nin0))
    have Y51 := (Y32.keep K24 (ninS (Ne.symm n_av_ae) nin0))
    have Y52 := (Y33.keep K24 (ninS n_r12_av nin0))
    have Y53 := (Y34.keep K24 (ninS (Ne.symm n_av_tx) nin0))
    have Y54 := (Y11.keep K24)
    have Y55 := (Y12.keep K24 (ninS n_r6_av nin0))
    have Y56 := (Y13.keep K24 (ninS n_r6_av nin0))
    have Y57 := (Y14.keep K24 (ninS n_va_av nin0))
    have Y58 := ((((F_ha.keep K3 (ninS n_r6_tx (ninS n_r6_r12 (ninS n_r6_an (ninS n_r6_av (ninS n_r6_ae nin0)))))).ext E4).keep K5 (ninS (neN (by omega)) nin0)).keep K24 (ninS n_r6_av nin0))
    have Y59 := ((((F_za.keep K3 (ninS n_r6_tx (ninS n_r6_r12 (ninS n_r6_an (ninS n_r6_av (ninS n_r6_ae nin0)))))).ext E4).keep K5 (ninS (neN (by omega)) nin0)).keep K24 (ninS n_r6_av nin0))
    have Y60 := (Y15.keep K24)
    have Y61 := (Y16.keep K24 (ninS n_r7_av nin0))
    have Y62 := (Y17.keep K24 (ninS n_r7_av nin0))
    have Y63 := (Y18.keep K24 (ninS n_vb_av nin0))
    have Y64 := ((((F_hb.keep K3 (ninS n_r7_tx (ninS n_r7_r12 (ninS n_r7_an (ninS n_r7_av (ninS n_r7_ae nin0)))))).ext E4).keep K5 (ninS (neN (by omega)) nin0)).keep K24 (ninS n_r7_av nin0))
    have Y65 := ((((F_zb.keep K3 (ninS n_r7_tx (ninS n_r7_r12 (ninS n_r7_an (ninS n_r7_av (ninS n_r7_ae nin0)))))).ext E4).keep K5 (ninS (neN (by omega)) nin0)).keep K24 (ninS n_r7_av nin0))
    obtain ⟨cq41, kq41, q41a, q41b, q41c⟩ := isOf hZ e35 Y42
    obtain ⟨_, _, ⟨T41, L41, k41, n41⟩, -, X41, ⟨Lc41, hQ41, l41, y41, z41⟩, st41⟩ := X35.virtualBack hx (y := (⟨cA, "indexOf", "(Ljava/lang/String;)I"⟩ : MethodName)) (z := (⟨cA, "indexOf", "(Ljava/lang/String;)I"⟩ : MethodName)) hown (mvT hZ (ow hw 131 rfl)) (mvT hZ (ow hw 132 rfl)) (notFace_of_selects (args := #[]) (mvT hZ (ow hw 134 rfl))) (mvT hZ (ow hw 134 rfl)) (mvT hZ (ow hw 133 rfl)) (by decide) (backOf (W := 0) (rm23T l Z a0 hw [] r12 r6 an kan (own_upd fan z0 (.ref r7)) av kav (own_upd (own_upd fav z0 .null) z0 (.ref b24_0)) ae kae (own_upd fae z0 (.int z2)) tx ktx (own_cp (own_lf [(.int c0), (.int c1)] (.int z0)) ftx z2) (.int z1) (.int z2) r7 zc ga va ka x0 gb vb kb y0 T24.heap n0 (by omega) Y42 Y43 Y44 Y45 Y46 Y47 Y48 Y49 Y24_0 Y50 Y51 Y52 Y53 O_an O_av n_r12_an n_r12_av n_r12_ae n_r12_tx n_an_av n_an_ae n_av_ae n_an_tx n_av_tx n_ae_tx S_COMPACT hcs Y54 Y55 Y56 Y57 Y58 Y59 Y60 Y61 Y62 Y63 Y64 Y65 n_r6_r7 n_r6_r12 n_r6_an n_r6_av n_r6_ae n_r6_tx n_r6_va n_r6_vb n_r7_r12 n_r7_an n_r7_av n_r7_ae n_r7_tx n_r7_va n_r7_vb (by first | assumption | decide) (by first | assumption | decide) (own_hit _ _ _) Y36 (by omega) (by omega) (Eq.symm hf8) (by rw [hf8])) hZ (ow hw 135 rfl) (ow hw 29 rfl) (by decide) (by decide)) q41a q41c (g := (mkF m 291 #[sI p0, sI p1, sI p2, sI p3, sI p4, sI p5, sR r6, sR r7, sR r8, sR r9, sI i10, sI z2, sR r12, sI z1, sR b4, sI z0] [(.ref r6), (.ref r12)])) rfl (by rw [hml]; rfl) (Steps.refl _) (argsL := [(.ref r6)]) (rest := []) (lenOf pd161_2_5 rfl) rfl (le0 rfl) (hb hby at_291) (fun vm₁ hvm => ⟨rfl, e35, (by decide : 34 + 0 ≤ _), (by decide : 9012 + 0 ≤ _)⟩)
    dsimp only [Pt.U, Pt.locs, Pt.cells, Pt.slots] at X41 l41 y41 z41 st41 hQ41
    subst l41 y41 z41
    obtain ⟨rfl, N41q, K41, KF41, Y41_0, Y41_1, Y41_2, Y41_3⟩ := hQ41
    have sz41 : T24.heap.size ≤ T41.heap.size := K41.1
    have N41 := Fr.app N35 N41q
    refine GoW.trans st41 ?_
    refine GoW.pre (st' := T41.setTop (mkF m 308 #[sI p0, sI p1, sI p2, sI p3, sI p4, sI p5, sR r6, sR r7, sR r8, sR r9, sI i10, sI z2, sR r12, sI z1, sR b4, sI z0] [(.int z1)])) (fun target kt => ?_) ?_
    · refine XS.iload X41.here hx rfl (hb hby at_294) rfl ?_
      refine XS.icmpNo X41.here hx rfl (hb hby at_296) rfl (teq (by decide)).2 ?_
      refine XS.iconst X41.here hx rfl (hb hby at_299) ?_
      refine XS.goto X41.here hx rfl (pc0 := 300) (pc' := 304) rfl (hb hby at_300) (by decide) (by decide) ?_
      refine XS.istore X41.here hx rfl (hb hby at_304) rfl (l' := #[.val (.int p0), .val (.int p1), .val (.int p2), .val (.int p3), .val (.int p4), .val (.int p5), .val (.ref r6), .val (.ref r7), .val (.ref r8), .val (.ref r9), .val (.int i10), .val (.int z2), .val (.ref r12), .val (.int z1), .val (.ref b4), .val (.int z0)]) rfl ?_
      refine XS.iload X41.here hx rfl (hb hby at_306) rfl ?_
      exact kt
    exact GoW.retN X41 hS (leH rfl (by omega)) hx hlk hrt (z' := z1) (by simp) (hb hby at_308) rfl (by decide) (by decide) (by exact ⟨rfl, N41⟩)
  · have Y67 : Old Z n0 T5.heap := (Y7.keep K5 (allS (by omega) all0))
    have Y68 := (((E_r6.keep K3).ext E4).keep K5)
    have Y69 := (((F_ca.keep K3 (ninS n_r6_tx (ninS n_r6_r12 (ninS n_r6_an (ninS n_r6_av (ninS n_r6_ae nin0)))))).ext E4).keep K5 (ninS (neN (by omega)) nin0))
    have Y70 := (((F_va.keep K3 (ninS n_r6_tx (ninS n_r6_r12 (ninS n_r6_an (ninS n_r6_av (ninS n_r6_ae nin0)))))).ext E4).keep K5 (ninS (neN (by omega)) nin0))
    have Y71 := (((A_a.keep K3 (ninS n_va_tx (ninS n_va_r12 (ninS n_va_an (ninS n_va_av (ninS n_va_ae nin0)))))).ext E4).keep K5 (ninS (neN (by omega)) nin0))
    have Y72 := (((E_r7.keep K3).ext E4).keep K5)
    have Y73 := (((F_cb.keep K3 (ninS n_r7_tx (ninS n_r7_r12 (ninS n_r7_an (ninS n_r7_av (ninS n_r7_ae nin0)))))).ext E4).keep K5 (ninS (neN (by omega)) nin0))
    have Y74 := (((F_vb.keep K3 (ninS n_r7_tx (ninS n_r7_r12 (ninS n_r7_an (ninS n_r7_av (ninS n_r7_ae nin0)))))).ext E4).keep K5 (ninS (neN (by omega)) nin0))
    have Y75 := (((A_b.keep K3 (ninS n_vb_tx (ninS n_vb_r12 (ninS n_vb_an (ninS n_vb_av (ninS n_vb_ae nin0)))))).ext E4).keep K5 (ninS (neN (by omega)) nin0))
    obtain ⟨cq66, kq66, q66a, q66b, q66c⟩ := isOf hZ rfl Y68
    obtain ⟨_, _, ⟨T66, L66, k66, n66⟩, -, X66, ⟨Lc66, hQ66, l66, y66, z66⟩, st66⟩ := X5.virtualBack hx (y := (⟨cB, "equals", cH⟩ : MethodName)) (z := (⟨cB, "equals", cH⟩ : MethodName)) hown (mvT hZ (ow hw 96 rfl)) (mvT hZ (ow hw 97 rfl)) (notFace_of_selects (args := #[]) (mvT hZ (ow hw 99 rfl))) (mvT hZ (ow hw 99 rfl)) (mvT hZ (ow hw 98 rfl)) (by decide) (backOf (W := 0) (rm14_1F l Z a0 hw [] r6 r7 zc ga va ka x0 gb vb kb y0 T5.heap n0 (by omega) S_COMPACT Y68 Y69 Y70 Y71 Y72 Y73 Y74 Y75 n_r6_r7 Y67 hf8 hcs (hga.trans hgb.symm)) hZ (ow hw 100 rfl) (ow hw 2 rfl) (by decide) (by decide)) q66a q66c (g := (mkF m 237 #[sI p0, sI p1, sI p2, sI p3, sI p4, sI p5, sR r6, sR r7, sR r8, sR r9, sI i10, sI z2, sR r12, sI z1, sR b4, sU] [(.ref r7), (.ref r6)])) rfl (by rw [hml]; rfl) (Steps.refl _) (argsL := [(.ref r7)]) (rest := []) (lenOf pd161_2_3 rfl) rfl (le0 rfl) (hb hby at_237) (fun vm₁ hvm => ⟨rfl, rfl, (by decide : 32 + 0 ≤ _), (by decide : 9006 + 0 ≤ _)⟩)
    dsimp only [Pt.U, Pt.locs, Pt.cells, Pt.slots] at X66 l66 y66 z66 st66 hQ66
    subst l66 y66 z66
    obtain ⟨rfl, N66q, e66⟩ := hQ66
    have N66 := Fr.app N5 N66q
    refine GoW.trans st66 ?_
    refine GoW.pre (st' := T66.setTop (mkF m 257 #[sI p0, sI p1, sI p2, sI p3, sI p4, sI p5, sR r6, sR r7, sR r8, sR r9, sI i10, sI z2, sR r12, sI z1, sR b4, sI (-1 : Int32)] [(.ref r12)])) (fun target kt => ?_) ?_
    · refine XS.ifYes X66.here hx rfl (pc0 := 240) (pc' := 247) rfl (hb hby at_240) rfl ((if0 _ _).trans (teq (by decide)).1) (by decide) (by decide) ?_
      refine XS.iconst X66.here hx rfl (hb hby at_247) ?_
      refine XS.istore X66.here hx rfl (hb hby at_248) rfl (l' := #[.val (.int p0), .val (.int p1), .val (.int p2), .val (.int p3), .val (.int p4), .val (.int p5), .val (.ref r6), .val (.ref r7), .val (.ref r8), .val (.ref r9), .val (.int i10), .val (.int z2), .val (.ref r12), .val (.int z1), .val (.ref b4), .val (.int (-1 : Int32))]) rfl ?_
      refine XS.iload X66.here hx rfl (hb hby at_250) rfl ?_
      refine XS.ifNo X66.here hx rfl (hb hby at_252) rfl ((if0 _ _).trans (feq (by decide)).1) ?_
      refine XS.aload X66.here hx rfl (hb hby at_255) rfl rfl ?_
      exact kt
    have Y77 := ((Y3_1.ext E4).keep K5 (ninS (neN (by omega)) nin0))
    have Y78 := (((E_r12.keep K3).ext E4).keep K5)
    obtain ⟨cq76, kq76, q76a, q76b, q76c⟩ := isOf hZ e66 Y78
    obtain ⟨_, _, ⟨T76, L76, k76, n76⟩, -, X76, ⟨Lc76, hQ76, l76, y76, z76⟩, st76⟩ := X66.virtualBack hx (y := (⟨cA, "size", "()I"⟩ : MethodName)) (z := (⟨cA, "size", "()I"⟩ : MethodName)) hown (mvT hZ (ow hw 76 rfl)) (mvT hZ (ow hw 77 rfl)) (notFace_of_selects (args := #[]) (mvT hZ (ow hw 79 rfl))) (mvT hZ (ow hw 79 rfl)) (mvT hZ (ow hw 78 rfl)) (by decide) (backOf (W := 0) (rm11 l Z a0 hw [] r12 z1 T5.heap n0 (by omega) Y77) hZ (ow hw 80 rfl) (ow hw 29 rfl) (by decide) (by decide)) q76a q76c (g := (mkF m 257 #[sI p0, sI p1, sI p2, sI p3, sI p4, sI p5, sR r6, sR r7, sR r8, sR r9, sI i10, sI z2, sR r12, sI z1, sR b4, sI (-1 : Int32)] [(.ref r12)])) rfl (by rw [hml]; rfl) (Steps.refl _) (argsL := []) (rest := []) (lenOf pd161_2_0 rfl) rfl (le0 rfl) (hb hby at_257) (fun vm₁ hvm => ⟨rfl, e66, (by decide : 32 + 0 ≤ _), (by decide : 9006 + 0 ≤ _)⟩)
    dsimp only [Pt.U, Pt.locs, Pt.cells, Pt.slots] at X76 l76 y76 z76 st76 hQ76
    subst l76 y76 z76
    obtain ⟨rfl, N76q, e76⟩ := hQ76
    have N76 := Fr.app N66 N76q
    refine GoW.trans st76 ?_
    refine GoW.pre (st' := T76.setTop (mkF m 266 #[sI p0, sI p1, sI p2, sI p3, sI p4, sI p5, sR r6, sR r7, sR r8, sR r9, sI i10, sI z2, sR r12, sI z1, sR b4, sI (-1 : Int32)] [(.ref r12)])) (fun target kt => ?_) ?_
    · refine XS.iconst X76.here hx rfl (hb hby at_260) ?_
      refine XS.icmpNo X76.here hx rfl (hb hby at_261) rfl (teq (by decide)).2 ?_
      refine XS.aload X76.here hx rfl (hb hby at_264) rfl rfl ?_
      exact kt
    have Y80 := ((Y3_2.ext E4).keep K5 (ninS (neN (by omega)) nin0))
    obtain ⟨cq79, kq79, q79a, q79b, q79c⟩ := isOf hZ e76 Y78
    obtain ⟨_, _, ⟨T79, L79, k79, n79⟩, -, X79, ⟨Lc79, hQ79, l79, y79, z79⟩, st79⟩ := X76.virtualBack hx (y := (⟨cA, "specified", "()I"⟩ : MethodName)) (z := (⟨cA, "specified", "()I"⟩ : MethodName)) hown (mvT hZ (ow hw 81 rfl)) (mvT hZ (ow hw 82 rfl)) (notFace_of_selects (args := #[]) (mvT hZ (ow hw 84 rfl))) (mvT hZ (ow hw 84 rfl)) (mvT hZ (ow hw 83 rfl)) (by decide) (backOf (W := 0) (rm12 l Z a0 hw [] r12 z1 T5.heap n0 (by omega) Y80) hZ (ow hw 85 rfl) (ow hw 29 rfl) (by decide) (by decide)) q79a q79c (g := (mkF m 266 #[sI p0, sI p1, sI p2, sI p3, sI p4, sI p5, sR r6, sR r7, sR r8, sR r9, sI i10, sI z2, sR r12, sI z1, sR b4, sI (-1 : Int32)] [(.ref r12)])) rfl (by rw [hml]; rfl) (Steps.refl _) (argsL := []) (rest := []) (lenOf pd161_2_0 rfl) rfl (le0 rfl) (hb hby at_266) (fun vm₁ hvm => ⟨rfl, e76, (by decide : 32 + 0 ≤ _), (by decide : 9006 + 0 ≤ _)⟩)
    dsimp only [Pt.U, Pt.locs, Pt.cells, Pt.slots] at X79 l79 y79 z79 st79 hQ79
    subst l79 y79 z79
    obtain ⟨rfl, N79q, e79⟩ := hQ79
    have N79 := Fr.app N76 N79q
    refine GoW.trans st79 ?_
    refine GoW.pre (st' := T79.setTop (mkF m 276 #[sI p0, sI p1, sI p2, sI p3, sI p4, sI p5, sR r6, sR r7, sR r8, sR r9, sI i10, sI z2, sR r12, sI z1, sR b4, sI (-1 : Int32)] [(.int z0), (.ref r12)])) (fun target kt => ?_) ?_
    · refine XS.iconst X79.here hx rfl (hb hby at_269) ?_
      refine XS.icmpNo X79.here hx rfl (hb hby at_270) rfl (teq (by decide)).2 ?_
      refine XS.aload X79.here hx rfl (hb hby at_273) rfl rfl ?_
      refine XS.iconst X79.here hx rfl (hb hby at_275) ?_
      exact kt
    have Y82 := ((Y3_3.ext E4).keep K5 (ninS (neN (by omega)) nin0))
    have Y83 := ((Y3_4.ext E4).keep K5 (ninS (neN (by omega)) nin0))
    have Y84 := ((Y3_5.ext E4).keep K5 (ninS (neN (by omega)) nin0))
    have Y85 := ((Y3_9.ext E4).keep K5 (ninS (neN (by omega)) nin0))
    have Y86 := ((Y3_6.ext E4).keep K5 (ninS (neN (by omega)) nin0))
    have Y87 := ((Y3_10.ext E4).keep K5 (ninS (neN (by omega)) nin0))
    have Y88 := ((Y3_7.ext E4).keep K5 (ninS (neN (by omega)) nin0))
    have Y89 := ((Y3_11.ext E4).keep K5 (ninS (neN (by omega)) nin0))
    have Y90 := ((Y3_8.ext E4).keep K5 (ninS (neN (by omega)) nin0))
    have Y91 := ((Y3_0.ext E4).keep K5 (ninS (neN (by omega)) nin0))
    obtain ⟨cq81, kq81, q81a, q81b, q81c⟩ := isOf hZ e79 Y78
    obtain ⟨_, _, ⟨T81, L81, k81, n81⟩, -, X81, ⟨Lc81, hQ81, l81, y81, z81⟩, st81⟩ := X79.virtualBack hx (y := (⟨cA, "value", "(I)Ljava/lang/String;"⟩ : MethodName)) (z := (⟨cA, "value", "(I)Ljava/lang/String;"⟩ : MethodName)) hown (mvT hZ (ow hw 104 rfl)) (mvT hZ (ow hw 105 rfl)) (notFace_of_selects (args := #[]) (mvT hZ (ow hw 107 rfl))) (mvT hZ (ow hw 107 rfl)) (mvT hZ (ow hw 106 rfl)) (by decide) (backOf (W := 0) (rm16_2 l Z a0 hw [] r12 an kan (own_upd fan z0 (.ref r7)) av kav (own_upd fav z0 .null) ae kae (own_upd fae z0 (.int z2)) tx ktx (own_cp (own_lf [(.int c0), (.int c1)] (.int z0)) ftx z2) (.int z1) (.int z2) c0 c1 zc zf T5.heap n0 (by omega) Y78 Y77 Y80 Y82 Y83 Y84 Y85 Y86 Y87 Y88 Y89 Y90 Y91 O_an O_av n_r12_an n_r12_av n_r12_ae n_r12_tx n_an_av n_an_ae n_av_ae n_an_tx n_av_tx n_ae_tx (own_hit _ _ _) (own_hit _ _ _) rfl rfl S_COMPACT hcs S_F hv_zf Y67 (by omega) hc0 hc1) hZ (ow hw 108 rfl) (ow hw 29 rfl) (by decide) (by decide)) q81a q81c (g := (mkF m 276 #[sI p0, sI p1, sI p2, sI p3, sI p4, sI p5, sR r6, sR r7, sR r8, sR r9, sI i10, sI z2, sR r12, sI z1, sR b4, sI (-1 : Int32)] [(.int z0), (.ref r12)])) rfl (by rw [hml]; rfl) (Steps.refl _) (argsL := [(.int z0)]) (rest := []) (lenOf pd161_2_4 rfl) rfl (le0 rfl) (hb hby at_276) (fun vm₁ hvm => ⟨rfl, e79, (by decide : 32 + 2 ≤ _), (by decide : 9006 + 6 ≤ _)⟩)
    dsimp only [Pt.U, Pt.locs, Pt.cells, Pt.slots] at X81 l81 y81 z81 st81 hQ81
    subst l81 y81 z81
    obtain ⟨b81_0, b81_1, k81_0, rfl, N81q, K81, KF81, gb81_0, ltb81_0, gb81_1, ltb81_1, lob81_1, Y81_0, Y81_1, Y81_2, Y81_3, Y81_4, Y81_5, Y81_6⟩ := hQ81
    have sz81 : T5.heap.size ≤ T81.heap.size := K81.1
    have N81 := Fr.app N79 N81q
    refine GoW.trans st81 ?_
    refine GoW.pre (st' := T81.setTop (mkF m 281 #[sI p0, sI p1, sI p2, sI p3, sI p4, sI p5, sR r6, sR r7, sR r8, sR r9, sI i10, sI z2, sR r12, sI z1, sR b4, sI (-1 : Int32)] [(.ref b4), (.ref b81_0)])) (fun target kt => ?_) ?_
    · refine XS.aload X81.here hx rfl (hb hby at_279) rfl rfl ?_
      exact kt
    have Y93 := (Y67.keep K81 (allS (by omega) all0))
    have Y94 := ((A4.keep K5).keep K81)
    have Y95 := (Y5_0.keep K81 (ninS (neN (by omega)) nin0))
    have Y96 := (Y5_1.keep K81 (ninS (neN (by omega)) nin0))
    have Y97 := (Y5_2.keep K81 (ninS (neN (by omega)) nin0))
    obtain ⟨cq92, kq92, q92a, q92b, q92c⟩ := isOf hZ rfl Y81_1
    obtain ⟨_, _, ⟨T92, L92, k92, n92⟩, -, X92, ⟨Lc92, hQ92, l92, y92, z92⟩, st92⟩ := X81.virtualBack hx (y := (⟨cB, "equals", cH⟩ : MethodName)) (z := (⟨cB, "equals", cH⟩ : MethodName)) hown (mvT hZ (ow hw 96 rfl)) (mvT hZ (ow hw 97 rfl)) (notFace_of_selects (args := #[]) (mvT hZ (ow hw 99 rfl))) (mvT hZ (ow hw 99 rfl)) (mvT hZ (ow hw 98 rfl)) (by decide) (backOf (W := 0) (rm14_2T l Z a0 hw [] b81_0 b4 zc (nar .byte (nar .byte z0)) b81_1 k81_0 (nar .byte (c0.toInt8.toInt32)) (nar .byte (c1.toInt8.toInt32)) (nar .byte (nar .byte z0)) b5_0 k5_0 (nar .byte (c0.toInt8.toInt32)) (nar .byte (c1.toInt8.toInt32)) T81.heap n0 (by omega) S_COMPACT Y81_1 Y81_4 Y81_5 Y81_6 Y94 Y95 Y96 Y97 (neN (by omega)) Y93 rfl rfl hcs rfl) hZ (ow hw 100 rfl) (ow hw 2 rfl) (by decide) (by decide)) q92a q92c (g := (mkF m 281 #[sI p0, sI p1, sI p2, sI p3, sI p4, sI p5, sR r6, sR r7, sR r8, sR r9, sI i10, sI z2, sR r12, sI z1, sR b4, sI (-1 : Int32)] [(.ref b4), (.ref b81_0)])) rfl (by rw [hml]; rfl) (Steps.refl _) (argsL := [(.ref b4)]) (rest := []) (lenOf pd161_2_3 rfl) rfl (le0 rfl) (hb hby at_281) (fun vm₁ hvm => ⟨rfl, rfl, (by decide : 34 + 0 ≤ _), (by decide : 9012 + 0 ≤ _)⟩)
    dsimp only [Pt.U, Pt.locs, Pt.cells, Pt.slots] at X92 l92 y92 z92 st92 hQ92
    subst l92 y92 z92
    obtain ⟨rfl, N92q, e92⟩ := hQ92
    have N92 := Fr.app N81 N92q
    refine GoW.trans st92 ?_
    refine GoW.pre (st' := T92.setTop (mkF m 291 #[sI p0, sI p1, sI p2, sI p3, sI p4, sI p5, sR r6, sR r7, sR r8, sR r9, sI i10, sI z2, sR r12, sI z1, sR b4, sI (-1 : Int32)] [(.ref r6), (.ref r12)])) (fun target kt => ?_) ?_
    · refine XS.ifNo X92.here hx rfl (hb hby at_284) rfl ((if0 _ _).trans (feq (by decide)).1) ?_
      refine XS.aload X92.here hx rfl (hb hby at_287) rfl rfl ?_
      refine XS.aload X92.here hx rfl (hb hby at_289) rfl rfl ?_
      exact kt
    have Y99 := (Y78.keep K81)
    have Y100 := (Y77.keep K81 (ninS n_r12_av nin0))
    have Y101 := (Y80.keep K81 (ninS n_r12_av nin0))
    have Y102 := (Y82.keep K81 (ninS n_r12_av nin0))
    have Y103 := (Y83.keep K81 (ninS n_r12_av nin0))
    have Y104 := (Y84.keep K81 (ninS n_r12_av nin0))
    have Y105 := (Y85.keep K81 (ninS n_an_av nin0))
    have Y106 := (Y86.keep K81 (ninS n_r12_av nin0))
    have Y107 := (Y88.keep K81 (ninS n_r12_av nin0))
    have Y108 := (Y89.keep K81 (ninS (Ne.symm n_av_ae) nin0))
    have Y109 := (Y90.keep K81 (ninS n_r12_av nin0))
    have Y110 := (Y91.keep K81 (ninS (Ne.symm n_av_tx) nin0))
    have Y111 := (Y68.keep K81)
    have Y112 := (Y69.keep K81 (ninS n_r6_av nin0))
    have Y113 := (Y70.keep K81 (ninS n_r6_av nin0))
    have Y114 := (Y71.keep K81 (ninS n_va_av nin0))
    have Y115 := ((((F_ha.keep K3 (ninS n_r6_tx (ninS n_r6_r12 (ninS n_r6_an (ninS n_r6_av (ninS n_r6_ae nin0)))))).ext E4).keep K5 (ninS (neN (by omega)) nin0)).keep K81 (ninS n_r6_av nin0))
    have Y116 := ((((F_za.keep K3 (ninS n_r6_tx (ninS n_r6_r12 (ninS n_r6_an (ninS n_r6_av (ninS n_r6_ae nin0)))))).ext E4).keep K5 (ninS (neN (by omega)) nin0)).keep K81 (ninS n_r6_av nin0))
    have Y117 := (Y72.keep K81)
    have Y118 := (Y73.keep K81 (ninS n_r7_av nin0))
    have Y119 := (Y74.keep K81 (ninS n_r7_av nin0))
    have Y120 := (Y75.keep K81 (ninS n_vb_av nin0))
    have Y121 := ((((F_hb.keep K3 (ninS n_r7_tx (ninS n_r7_r12 (ninS n_r7_an (ninS n_r7_av (ninS n_r7_ae nin0)))))).ext E4).keep K5 (ninS (neN (by omega)) nin0)).keep K81 (ninS n_r7_av nin0))
    have Y122 := ((((F_zb.keep K3 (ninS n_r7_tx (ninS n_r7_r12 (ninS n_r7_an (ninS n_r7_av (ninS n_r7_ae nin0)))))).ext E4).keep K5 (ninS (neN (by omega)) nin0)).keep K81 (ninS n_r7_av nin0))
    obtain ⟨cq98, kq98, q98a, q98b, q98c⟩ := isOf hZ e92 Y99
    obtain ⟨_, _, ⟨T98, L98, k98, n98⟩, -, X98, ⟨Lc98, hQ98, l98, y98, z98⟩, st98⟩ := X92.virtualBack hx (y := (⟨cA, "indexOf", "(Ljava/lang/String;)I"⟩ : MethodName)) (z := (⟨cA, "indexOf", "(Ljava/lang/String;)I"⟩ : MethodName)) hown (mvT hZ (ow hw 131 rfl)) (mvT hZ (ow hw 132 rfl)) (notFace_of_selects (args := #[]) (mvT hZ (ow hw 134 rfl))) (mvT hZ (ow hw 134 rfl)) (mvT hZ (ow hw 133 rfl)) (by decide) (backOf (W := 0) (rm23F l Z a0 hw [] r12 r6 an kan (own_upd fan z0 (.ref r7)) av kav (own_upd (own_upd fav z0 .null) z0 (.ref b81_0)) ae kae (own_upd fae z0 (.int z2)) tx ktx (own_cp (own_lf [(.int c0), (.int c1)] (.int z0)) ftx z2) (.int z1) (.int z2) r7 zc ga va ka x0 gb vb kb y0 T81.heap n0 (by omega) Y99 Y100 Y101 Y102 Y103 Y104 Y105 Y106 Y81_0 Y107 Y108 Y109 Y110 O_an O_av n_r12_an n_r12_av n_r12_ae n_r12_tx n_an_av n_an_ae n_av_ae n_an_tx n_av_tx n_ae_tx S_COMPACT hcs Y111 Y112 Y113 Y114 Y115 Y116 Y117 Y118 Y119 Y120 Y121 Y122 n_r6_r7 n_r6_r12 n_r6_an n_r6_av n_r6_ae n_r6_tx n_r6_va n_r6_vb n_r7_r12 n_r7_an n_r7_av n_r7_ae n_r7_tx n_r7_va n_r7_vb (by first | assumption | decide) (by first | assumption | decide) (own_hit _ _ _) Y93 (by omega) (by omega) (hb255 hf8)) hZ (ow hw 135 rfl) (ow hw 29 rfl) (by decide) (by decide)) q98a q98c (g := (mkF m 291 #[sI p0, sI p1, sI p2, sI p3, sI p4, sI p5, sR r6, sR r7, sR r8, sR r9, sI i10, sI z2, sR r12, sI z1, sR b4, sI (-1 : Int32)] [(.ref r6), (.ref r12)])) rfl (by rw [hml]; rfl) (Steps.refl _) (argsL := [(.ref r6)]) (rest := []) (lenOf pd161_2_5 rfl) rfl (le0 rfl) (hb hby at_291) (fun vm₁ hvm => ⟨rfl, e92, (by decide : 34 + 0 ≤ _), (by decide : 9012 + 0 ≤ _)⟩)
    dsimp only [Pt.U, Pt.locs, Pt.cells, Pt.slots] at X98 l98 y98 z98 st98 hQ98
    subst l98 y98 z98
    obtain ⟨rfl, N98q, K98, KF98, Y98_0, Y98_1, Y98_2, Y98_3⟩ := hQ98
    have sz98 : T81.heap.size ≤ T98.heap.size := K98.1
    have N98 := Fr.app N92 N98q
    refine GoW.trans st98 ?_
    refine GoW.pre (st' := T98.setTop (mkF m 308 #[sI p0, sI p1, sI p2, sI p3, sI p4, sI p5, sR r6, sR r7, sR r8, sR r9, sI i10, sI z2, sR r12, sI z1, sR b4, sI (-1 : Int32)] [(.int z1)])) (fun target kt => ?_) ?_
    · refine XS.iload X98.here hx rfl (hb hby at_294) rfl ?_
      refine XS.icmpNo X98.here hx rfl (hb hby at_296) rfl (teq (by decide)).2 ?_
      refine XS.iconst X98.here hx rfl (hb hby at_299) ?_
      refine XS.goto X98.here hx rfl (pc0 := 300) (pc' := 304) rfl (hb hby at_300) (by decide) (by decide) ?_
      refine XS.istore X98.here hx rfl (hb hby at_304) rfl (l' := #[.val (.int p0), .val (.int p1), .val (.int p2), .val (.int p3), .val (.int p4), .val (.int p5), .val (.ref r6), .val (.ref r7), .val (.ref r8), .val (.ref r9), .val (.int i10), .val (.int z2), .val (.ref r12), .val (.int z1), .val (.ref b4), .val (.int (-1 : Int32))]) rfl ?_
      refine XS.iload X98.here hx rfl (hb hby at_306) rfl ?_
      exact kt
    exact GoW.retN X98 hS (leH rfl (by omega)) hx hlk hrt (z' := z1) (by simp) (hb hby at_308) rfl (by decide) (by decide) (by exact ⟨rfl, N98⟩)
theorem blk161 {p : Program} {l : Launch} {e : Env} {s : State} {m : MethodId} {args : Array Value} {below : List Frame} {meth : Method} {c : Code} {Z : State} {a0 : Array Value} {T : State} {locs : List Loc} {h0 : Heap} {n0 : Nat} {vm0 : Vm} {k0 : Nat} (C : Ctx p (s.setVm vm0) m meth c Z code 16 "com/example/satzung/satzung/parse/AttributesClearPinLaw" (some .boolean)) (hw : ∀ d ∈ tables_1, d.before a0 Z = true) (hS : s.Since vm0 k0) (hk : k0 ≤ h0.size) (hI : IB Z vm0 ["w", "v"]) (hnS : n0 = s.heap.size) (hkp : ∀ (b : Addr) (cl : Cell), Z.heap[b]? = some cl → s.heap[b]? = some cl)
    (X0 : Stand p l e room_1 (s.setVm vm0) m args below meth c T locs 30 9000) (e0 : T.heap = h0) (N0 : Fr n0 locs) (p0 : Int32) (p1 : Int32) (p2 : Int32) (p3 : Int32) (p4 : Int32) (p5 : Int32) (r6 : Addr) (r7 : Addr) (r8 : Addr) (r9 : Addr) (i10 : Int32) (i11 : Int32) (r12 : Addr) (zc : Int32) (zf : Value) (ga : Int32) (va : Addr) (ka : ClassId) (x0 : Int32) (gb : Int32) (vb : Addr) (kb : ClassId) (y0 : Int32) (kg : ClassId) (c0 : Int32) (c1 : Int32) (an : Addr) (kan : ClassId) (fan : Int32 → Value) (av : Addr) (kav : ClassId) (fav : Int32 → Value) (ae : Addr) (kae : ClassId) (fae : Int32 → Value) (tx : Addr) (ktx : ClassId) (ftx : Int32 → Value) (Z0 : n0 ≤ h0.size) (S_COMPACT : Sta Z Z.heap cB "COMPACT_STRINGS" "Z" (.int zc)) (hcs : ¬ (zc = z0)) (S_F : Sta Z Z.heap cE "SIOOBE_FORMATTER" "Ljava/util/function/BiFunction;" zf) (hv_zf : zf.isRef = true) (hcw : Jvm.Lit.compactW.before a0 Z = true) (hheld : ∀ q ∈ consts_1, Jvm.Lit.constHeld Z q.1 q.2) (Ol : Old Z n0 h0) (E_r6 : Exa Z h0 r6 cB) (F_ca : Fld Z h0 r6 cB "coder" "B" (.int ga)) (F_va : Fld Z h0 r6 cB "value" "[B" (.ref va)) (A_a : Arv Z h0 va ka .byte z1 [(.int x0)] (.int z0)) (F_ha : Fld Z h0 r6 cB "hash" "I" (.int z0)) (F_za : Fld Z h0 r6 cB "hashIsZero" "Z" (.int z0)) (E_r7 : Exa Z h0 r7 cB) (F_cb : Fld Z h0 r7 cB "coder" "B" (.int gb)) (F_vb : Fld Z h0 r7 cB "value" "[B" (.ref vb)) (A_b : Arv Z h0 vb kb .byte z1 [(.int y0)] (.int z0)) (F_hb : Fld Z h0 r7 cB "hash" "I" (.int z0)) (F_zb : Fld Z h0 r7 cB "hashIsZero" "Z" (.int z0)) (hga : ga = z0) (hgb : gb = z0) (hb255 : ¬ x0 = y0 → ¬ (y0 &&& z255) = (x0 &&& z255)) (A_r9 : Arv Z h0 r9 kg .char z2 [(.int c0), (.int c1)] (.int z0)) (hc0 : ¬ (z255 < c0)) (hc1 : ¬ (z255 < c1)) (E_r12 : Exa Z h0 r12 cA) (F_se : Fld Z h0 r12 cA "size" "I" (.int z0)) (F_sd : Fld Z h0 r12 cA "specified" "I" (.int z0)) (F_th : Fld Z h0 r12 cA "textLength" "I" (.int z0)) (F_ix : Fld Z h0 r12 cA "index" "Ljava/util/Map;" .null) (Fan : Fld Z h0 r12 cA "names" cD (.ref an)) (B_an : Arf Z h0 an kan (.object cB) z16 fan) (Fav : Fld Z h0 r12 cA "values" cD (.ref av)) (B_av : Arf Z h0 av kav (.object cB) z16 fav) (Fae : Fld Z h0 r12 cA "ends" "[I" (.ref ae)) (B_ae : Arf Z h0 ae kae .int z16 fae) (Ftx : Fld Z h0 r12 cA "text" "[C" (.ref tx)) (B_tx : Arf Z h0 tx ktx .char z1024 ftx) (O_an : Ovr Z kan cB) (O_av : Ovr Z kav cB) (n_r12_an : r12 ≠ an) (n_r12_av : r12 ≠ av) (n_r12_ae : r12 ≠ ae) (n_r12_tx : r12 ≠ tx) (n_an_av : an ≠ av) (n_an_ae : an ≠ ae) (n_av_ae : av ≠ ae) (n_an_tx : an ≠ tx) (n_av_tx : av ≠ tx) (n_ae_tx : ae ≠ tx) (n_r6_r7 : r6 ≠ r7) (n_r6_an : r6 ≠ an) (n_r6_av : r6 ≠ av) (n_r6_ae : r6 ≠ ae) (n_r6_tx : r6 ≠ tx) (n_r6_r12 : r6 ≠ r12) (n_r7_an : r7 ≠ an) (n_r7_av : r7 ≠ av) (n_r7_ae : r7 ≠ ae) (n_r7_tx : r7 ≠ tx) (n_r7_r12 : r7 ≠ r12) (n_va_an : va ≠ an) (n_va_av : va ≠ av) (n_va_ae : va ≠ ae) (n_va_tx : va ≠ tx) (n_va_r12 : va ≠ r12) (n_vb_an : vb ≠ an) (n_vb_av : vb ≠ av) (n_vb_ae : vb ≠ ae) (n_vb_tx : vb ≠ tx) (n_vb_r12 : vb ≠ r12) (n_r9_an : r9 ≠ an) (n_r9_av : r9 ≠ av) (n_r9_ae : r9 ≠ ae) (n_r9_tx : r9 ≠ tx) (n_r9_r12 : r9 ≠ r12) (n_r6_va : r6 ≠ va) (n_r6_vb : r6 ≠ vb) (n_r6_r9 : r6 ≠ r9) (n_r7_va : r7 ≠ va) (n_r7_vb : r7 ≠ vb) (n_r7_r9 : r7 ≠ r9) (g_r6 : n0 ≤ r6) (g_r7 : n0 ≤ r7) (g_r12 : n0 ≤ r12) (g_an : n0 ≤ an) (g_av : n0 ≤ av) (g_ae : n0 ≤ ae) (g_tx : n0 ≤ tx) (hlen : i11 = z0 ∨ i11 = z1 ∨ i11 = z2) :
    GoW p e below s 56 16640 (fun v vm h L => v = some (.int 1) ∧ Fr n0 L) (T.setTop (mkF m 161 #[sI p0, sI p1, sI p2, sI p3, sI p4, sI p5, sR r6, sR r7, sR r8, sR r9, sI i10, sI i11, sR r12, sU, sU, sU] [])) := by
  obtain ⟨hx, hZ, hby, hml, hown, hrt, hlk⟩ := id C
  have lt_E_r6 : LT.lt (α := Nat) r6 h0.size := E_r6.lt
  have lt_A_a : LT.lt (α := Nat) va h0.size := A_a.lt
  have lt_E_r7 : LT.lt (α := Nat) r7 h0.size := E_r7.lt
  have lt_A_b : LT.lt (α := Nat) vb h0.size := A_b.lt
  have lt_A_r9 : LT.lt (α := Nat) r9 h0.size := A_r9.lt
  have lt_E_r12 : LT.lt (α := Nat) r12 h0.size := E_r12.lt
  have lt_B_an : LT.lt (α := Nat) an h0.size := B_an.lt
  have lt_B_av : LT.lt (α := Nat) av h0.size := B_av.lt
  have lt_B_ae : LT.lt (α := Nat) ae h0.size := B_ae.lt
  have lt_B_tx : LT.lt (α := Nat) tx h0.size := B_tx.lt
  rcases hlen with rfl | rfl | rfl
  · show GoW p e below s _ _ _ (T.setTop (mkF m 161 #[sI p0, sI p1, sI p2, sI p3, sI p4, sI p5, sR r6, sR r7, sR r8, sR r9, sI i10, sI z0, sR r12, sU, sU, sU] []))
    exact blk161_0 ⟨hx, hZ, hby, hml, hown, hrt, hlk⟩ hw hS (by omega) (IB.sup hI (by simp)) hnS hkp X0 e0 N0 p0 p1 p2 p3 p4 p5 r6 r7 r8 r9 i10 r12 zc zf ga va ka x0 gb vb kb y0 kg c0 c1 an kan fan av kav fav ae kae fae tx ktx ftx (by omega) S_COMPACT hcs S_F hv_zf hcw hheld Ol E_r6 F_ca F_va A_a F_ha F_za E_r7 F_cb F_vb A_b F_hb F_zb hga hgb hb255 A_r9 hc0 hc1 E_r12 F_se F_sd F_th F_ix Fan B_an Fav B_av Fae B_ae Ftx B_tx O_an O_av n_r12_an n_r12_av n_r12_ae n_r12_tx n_an_av n_an_ae n_av_ae n_an_tx n_av_tx n_ae_tx n_r6_r7 n_r6_an n_r6_av n_r6_ae n_r6_tx n_r6_r12 n_r7_an n_r7_av n_r7_ae n_r7_tx n_r7_r12 n_va_an n_va_av n_va_ae n_va_tx n_va_r12 n_vb_an n_vb_av n_vb_ae n_vb_tx n_vb_r12 n_r9_an n_r9_av n_r9_ae n_r9_tx n_r9_r12 n_r6_va n_r6_vb n_r6_r9 n_r7_va n_r7_vb n_r7_r9 (by omega) (by omega) (by omega) (by omega) (by omega) (by omega) (by omega)
  · show GoW p e below s _ _ _ (T.setTop (mkF m 161 #[sI p0, sI p1, sI p2, sI p3, sI p4, sI p5, sR r6, sR r7, sR r8, sR r9, sI i10, sI z1, sR r12, sU, sU, sU] []))
    exact blk161_1 ⟨hx, hZ, hby, hml, hown, hrt, hlk⟩ hw hS (by omega) (IB.sup hI (by simp)) hnS hkp X0 e0 N0 p0 p1 p2 p3 p4 p5 r6 r7 r8 r9 i10 r12 zc zf ga va ka x0 gb vb kb y0 kg c0 c1 an kan fan av kav fav ae kae fae tx ktx ftx (by omega) S_COMPACT hcs S_F hv_zf hcw hheld Ol E_r6 F_ca F_va A_a F_ha F_za E_r7 F_cb F_vb A_b F_hb F_zb hga hgb hb255 A_r9 hc0 hc1 E_r12 F_se F_sd F_th F_ix Fan B_an Fav B_av Fae B_ae Ftx B_tx O_an O_av n_r12_an n_r12_av n_r12_ae n_r12_tx n_an_av n_an_ae n_av_ae n_an_tx n_av_tx n_ae_tx n_r6_r7 n_r6_an n_r6_av n_r6_ae n_r6_tx n_r6_r12 n_r7_an n_r7_av n_r7_ae n_r7_tx n_r7_r12 n_va_an n_va_av n_va_ae n_va_tx n_va_r12 n_vb_an n_vb_av n_vb_ae n_vb_tx n_vb_r12 n_r9_an n_r9_av n_r9_ae n_r9_tx n_r9_r12 n_r6_va n_r6_vb n_r6_r9 n_r7_va n_r7_vb n_r7_r9 (by omega) (by omega) (by omega) (by omega) (by omega) (by omega) (by omega)
  · show GoW p e below s _ _ _ (T.setTop (mkF m 161 #[sI p0, sI p1, sI p2, sI p3, sI p4, sI p5, sR r6, sR r7, sR r8, sR r9, sI i10, sI z2, sR r12, sU, sU, sU] []))
    exact blk161_2 ⟨hx, hZ, hby, hml, hown, hrt, hlk⟩ hw hS (by omega) (IB.sup hI (by simp)) hnS hkp X0 e0 N0 p0 p1 p2 p3 p4 p5 r6 r7 r8 r9 i10 r12 zc zf ga va ka x0 gb vb kb y0 kg c0 c1 an kan fan av kav fav ae kae fae tx ktx ftx (by omega) S_COMPACT hcs S_F hv_zf hcw hheld Ol E_r6 F_ca F_va A_a F_ha F_za E_r7 F_cb F_vb A_b F_hb F_zb hga hgb hb255 A_r9 hc0 hc1 E_r12 F_se F_sd F_th F_ix Fan B_an Fav B_av Fae B_ae Ftx B_tx O_an O_av n_r12_an n_r12_av n_r12_ae n_r12_tx n_an_av n_an_ae n_av_ae n_an_tx n_av_tx n_ae_tx n_r6_r7 n_r6_an n_r6_av n_r6_ae n_r6_tx n_r6_r12 n_r7_an n_r7_av n_r7_ae n_r7_tx n_r7_r12 n_va_an n_va_av n_va_ae n_va_tx n_va_r12 n_vb_an n_vb_av n_vb_ae n_vb_tx n_vb_r12 n_r9_an n_r9_av n_r9_ae n_r9_tx n_r9_r12 n_r6_va n_r6_vb n_r6_r9 n_r7_va n_r7_vb n_r7_r9 (by omega) (by omega) (by omega) (by omega) (by omega) (by omega) (by omega)
/-! the law -/
theorem own_lb (x : Int32) : 0 ≤ (x &&& (2047 : Int32)).toInt ∧ (x &&& (2047 : Int32)).toInt ≤ 2047 := by
  have h := c_and x (2047 : Int32) (by decide)
  have e : (2047 : Int32).toInt = 2047 := by decide
  omega
theorem own_z0 (x : Int32) : (0 : Int32) + x = x := by simp
theorem own_l0 (x : Int32) : ¬ (x &&& (2047 : Int32)) < 0 := by
  have h := own_lb x
  have e0 : (0 : Int32).toInt = 0 := by decide
  rw [Int32.lt_iff_toInt_lt, e0]; omega
theorem own_l1 (x : Int32) : (x &&& (2047 : Int32)).toNatClampNeg ≤ (2048 : Int32).toNatClampNeg := by
  have h := own_lb x
  have e2 : (2048 : Int32).toNatClampNeg = 2048 := by decide
  rw [e2]; simp only [Int32.toNatClampNeg]; omega
theorem own_l2 (x : Int32) (n : ¬ (1024 : Int32) < ((0 : Int32) + (x &&& (2047 : Int32)))) : (x &&& (2047 : Int32)).toNatClampNeg ≤ (1024 : Int32).toNatClampNeg := by
  rw [own_z0, Int32.lt_iff_toInt_lt] at n
  have e2 : (1024 : Int32).toNatClampNeg = 1024 := by decide
  have e3 : (1024 : Int32).toInt = 1024 := by decide
  rw [e2]; simp only [Int32.toNatClampNeg]; omega
theorem own_l3 (x : Int32) : ¬ ((2048 : Int32) < ((0 : Int32) + (x &&& (2047 : Int32)))) := by
  have h := own_lb x
  have e3 : (2048 : Int32).toInt = 2048 := by decide
  rw [own_z0, Int32.lt_iff_toInt_lt]; omega
/-! AttributesClearPinLaw.law (0) -/
theorem pn_0 : plainName "com/example/satzung/satzung/parse/AttributesClearPinLaw" = true := by first | (simp [plainName, overriddenIn]; done) | decide +kernel
theorem pd0_0 : parseMethodDescriptor "(C)Ljava/lang/String;" = some ⟨[.char], some (.object "java/lang/String")⟩ := by decide +kernel
theorem pd0_1 : parseMethodDescriptor "()V" = some ⟨[], none⟩ := by decide +kernel
theorem pd0_2 : parseMethodDescriptor "(Ljava/lang/String;Ljava/lang/String;)V" = some ⟨[(.object "java/lang/String"), (.object "java/lang/String")], none⟩ := by decide +kernel
theorem pd0_3 : parseMethodDescriptor "(Ljava/lang/String;[CII)V" = some ⟨[(.object "java/lang/String"), (.array .char), .int, .int], none⟩ := by decide +kernel
theorem ef_0 (m : MethodId) (p0 : Int32) (p1 : Int32) (p2 : Int32) (p3 : Int32) (p4 : Int32) (p5 : Int32) : entryFrame m #[(.int p0), (.int p1), (.int p2), (.int p3), (.int p4), (.int p5)] maxLocals = (mkF m 0 #[.val (.int p0), .val (.int p1), .val (.int p2), .val (.int p3), .val (.int p4), .val (.int p5), .unset, .unset, .unset, .unset, .unset, .unset, .unset, .unset, .unset, .unset] []) := by first | (simp [entryFrame, mkF, argsToLocals, Value.category, maxLocals]; done) | rfl
def Q0 (Z : State) (p0 : Int32) (p1 : Int32) (p2 : Int32) (p3 : Int32) (p4 : Int32) (p5 : Int32) (zc : Int32) (zf : Value) (h0 : Heap) (n0 : Nat) (v : Option Value) (vm : Vm) (h : Heap) (L : List Loc) : Prop := v = some (.int 1) ∧ Fr n0 L
theorem rm0 (l : Launch) (Z : State) (a0 : Array Value) (hw : ∀ d ∈ tables_1, d.before a0 Z = true) (ws : List Jvm.Cond) (p0 : Int32) (p1 : Int32) (p2 : Int32) (p3 : Int32) (p4 : Int32) (p5 : Int32) (zc : Int32) (zf : Value) (h0 : Heap) (n0 : Nat) (Z0 : n0 ≤ h0.size) (S_COMPACT : Sta Z Z.heap cB "COMPACT_STRINGS" "Z" (.int zc)) (hcs : ¬ (zc = z0)) (S_F : Sta Z Z.heap cE "SIOOBE_FORMATTER" "Ljava/util/function/BiFunction;" zf) (hv_zf : zf.isRef = true) (hcw : Jvm.Lit.compactW.before a0 Z = true) (hheld : ∀ q ∈ consts_1, Jvm.Lit.constHeld Z q.1 q.2) (Ol : Old Z n0 h0) (hn0 : n0 = h0.size) :
    MetFree l x (head1 (Jvm.Cond.code x code maxLocals ret :: ws) room_1) (fun a U => a = #[(.int p0), (.int p1), (.int p2), (.int p3), (.int p4), (.int p5)] ∧ Z.Warmed39 U.vm ∧ U.heap = h0 ∧ IB Z U.vm []) (fun _ _ _ _ _ => True) (fun _ U o U' => ∃ v L, o = .returned v ∧ Q0 Z p0 p1 p2 p3 p4 p5 zc zf h0 n0 v U'.vm U'.heap L ∧ ReturnedEndW U o U' L 56 16640) := by
  refine MetFree.of_bodySF (plainFor_of_name pn_0) hisR ?_
  intro p e s m args below meth c s₁ Bd hml0 hP hK
  obtain ⟨rfl, hZ, hh, hI⟩ := hP
  have hx := Bd.exec
  have hby := Bd.bytes
  have hml : c.maxLocals = 16 := hml0
  have hown : s.vm.findClass "com/example/satzung/satzung/parse/AttributesClearPinLaw" = some m.cls := findClass_of_methodNamed Bd.named
  have hnm := (name_of_methodNamed Bd.named Bd.method).1
  have hrt := Bd.returns
  have hlk := Bd.notSynchronized
  have X0 : Stand p l e room_1 (s.setVm s.vm) m #[(.int p0), (.int p1), (.int p2), (.int p3), (.int p4), (.int p5)] below meth c s₁ [] 0 0 := Stand.of_body Bd
  have hS : s.Since s.vm 0 := (State.WarmedH.refl s).since 0
  have hk := Nat.zero_le h0.size
  have hkp : ∀ (b : Addr) (cl : Cell), Z.heap[b]? = some cl → s.heap[b]? = some cl := fun b cl q => by rw [show (s.heap : Heap) = h0 from hh]; exact Ol.2.2 b cl q
  have hnS : n0 = s.heap.size := by rw [show (s.heap : Heap) = h0 from hh]; exact hn0
  have e0 : s₁.heap = h0 := by rw [← hh, Bd.state]; rfl
  have N0 := Fr.nil n0
  show GoW p e below s 56 16640 (Q0 Z p0 p1 p2 p3 p4 p5 zc zf h0 n0) (s₁.setTop (entryFrame m #[(.int p0), (.int p1), (.int p2), (.int p3), (.int p4), (.int p5)] maxLocals))
  rw [ef_0 m p0 p1 p2 p3 p4 p5]
  refine GoW.pre (st' := s₁.setTop (mkF m 6 #[sI p0, sI p1, sI p2, sI p3, sI p4, sI p5, sU, sU, sU, sU, sU, sU, sU, sU, sU, sU] [(.int ((p0 &&& z255).toUInt32.toUInt16.toUInt32.toInt32))])) (fun target kt => ?_) ?_
  · refine XS.iloadN X0.here hx rfl (hb hby at_0) rfl ?_
    refine XS.sipush X0.here hx rfl (hb hby at_1) ?_
    refine XS.iand X0.here hx rfl (hb hby at_4) rfl ?_
    refine XS.i2c X0.here hx rfl (hb hby at_5) rfl ?_
    exact kt
  obtain ⟨_, _, ⟨T1, L1, k1, n1⟩, -, X1, ⟨Lc1, hQ1, l1, y1, z1⟩, st1⟩ := Jvm.LawKit.callS X0 hx (y := (⟨cB, "valueOf", "(C)Ljava/lang/String;"⟩ : MethodName)) hown (mvT hZ (ow hw 0 rfl)) (mvT hZ (ow hw 1 rfl)) (mvT hZ (ow hw 2 rfl)) (mvT hZ (ow hw 3 rfl)) (by decide) (backOf (W := 0) (rm1 l Z a0 hw [] ((p0 &&& z255).toUInt32.toUInt16.toUInt32.toInt32) zc h0 n0 (by omega) S_COMPACT Ol (own_c255 _) hcs) hZ (ow hw 3 rfl) (ow hw 2 rfl) (by decide) (by decide)) (g := (mkF m 6 #[sI p0, sI p1, sI p2, sI p3, sI p4, sI p5, sU, sU, sU, sU, sU, sU, sU, sU, sU, sU] [(.int ((p0 &&& z255).toUInt32.toUInt16.toUInt32.toInt32))])) rfl (by rw [hml]; rfl) (argsL := [(.int ((p0 &&& z255).toUInt32.toUInt16.toUInt32.toInt32))]) (rest := []) (lenOf pd0_0 rfl) rfl (le0 rfl) (hb hby at_6) (fun vm₁ hvm => ⟨rfl, e0, (by decide : 0 + 2 ≤ _), (by decide : 0 + 5 ≤ _)⟩)
  dsimp only [Pt.U, Pt.locs, Pt.cells, Pt.slots] at X1 l1 y1 z1 st1 hQ1
  subst l1 y1 z1
  obtain ⟨b1_0, b1_1, k1_0, rfl, N1q, K1, KF1, gb1_0, ltb1_0, gb1_1, ltb1_1, lob1_1, Y1_0, Y1_1, Y1_2, Y1_3, Y1_4, Y1_5⟩ := hQ1
  have sz1 : h0.size ≤ T1.heap.size := K1.1
  have N1 := Fr.app N0 N1q
  refine GoW.pre st1 ?_
  refine GoW.pre (st' := T1.setTop (mkF m 17 #[sI p0, sI p1, sI p2, sI p3, sI p4, sI p5, sR b1_0, sU, sU, sU, sU, sU, sU, sU, sU, sU] [(.int ((p1 &&& z255).toUInt32.toUInt16.toUInt32.toInt32))])) (fun target kt => ?_) ?_
  · refine XS.astore X1.here hx rfl (hb hby at_9) rfl rfl (l' := #[.val (.int p0), .val (.int p1), .val (.int p2), .val (.int p3), .val (.int p4), .val (.int p5), .val (.ref b1_0), .unset, .unset, .unset, .unset, .unset, .unset, .unset, .unset, .unset]) rfl ?_
    refine XS.iloadN X1.here hx rfl (hb hby at_11) rfl ?_
    refine XS.sipush X1.here hx rfl (hb hby at_12) ?_
    refine XS.iand X1.here hx rfl (hb hby at_15) rfl ?_
    refine XS.i2c X1.here hx rfl (hb hby at_16) rfl ?_
    exact kt
  have Y3 := (Ol.keep K1 all0)
  obtain ⟨_, _, ⟨T2, L2, k2, n2⟩, -, X2, ⟨Lc2, hQ2, l2, y2, z2⟩, st2⟩ := Jvm.LawKit.callS X1 hx (y := (⟨cB, "valueOf", "(C)Ljava/lang/String;"⟩ : MethodName)) hown (mvT hZ (ow hw 0 rfl)) (mvT hZ (ow hw 1 rfl)) (mvT hZ (ow hw 2 rfl)) (mvT hZ (ow hw 3 rfl)) (by decide) (backOf (W := 0) (rm1 l Z a0 hw [] ((p1 &&& z255).toUInt32.toUInt16.toUInt32.toInt32) zc T1.heap n0 (by omega) S_COMPACT Y3 (own_c255 _) hcs) hZ (ow hw 3 rfl) (ow hw 2 rfl) (by decide) (by decide)) (g := (mkF m 17 #[sI p0, sI p1, sI p2, sI p3, sI p4, sI p5, sR b1_0, sU, sU, sU, sU, sU, sU, sU, sU, sU] [(.int ((p1 &&& z255).toUInt32.toUInt16.toUInt32.toInt32))])) rfl (by rw [hml]; rfl) (argsL := [(.int ((p1 &&& z255).toUInt32.toUInt16.toUInt32.toInt32))]) (rest := []) (lenOf pd0_0 rfl) rfl (le0 rfl) (hb hby at_17) (fun vm₁ hvm => ⟨rfl, rfl, (by decide : 2 + 2 ≤ _), (by decide : 5 + 5 ≤ _)⟩)
  dsimp only [Pt.U, Pt.locs, Pt.cells, Pt.slots] at X2 l2 y2 z2 st2 hQ2
  subst l2 y2 z2
  obtain ⟨b2_0, b2_1, k2_0, rfl, N2q, K2, KF2, gb2_0, ltb2_0, gb2_1, ltb2_1, lob2_1, Y2_0, Y2_1, Y2_2, Y2_3, Y2_4, Y2_5⟩ := hQ2
  have sz2 : T1.heap.size ≤ T2.heap.size := K2.1
  have N2 := Fr.app N1 N2q
  refine GoW.pre st2 ?_
  refine GoW.pre (st' := T2.setTop (mkF m 25 #[sI p0, sI p1, sI p2, sI p3, sI p4, sI p5, sR b1_0, sR b2_0, sU, sU, sU, sU, sU, sU, sU, sU] [(.int z2048)])) (fun target kt => ?_) ?_
  · refine XS.astore X2.here hx rfl (hb hby at_20) rfl rfl (l' := #[.val (.int p0), .val (.int p1), .val (.int p2), .val (.int p3), .val (.int p4), .val (.int p5), .val (.ref b1_0), .val (.ref b2_0), .unset, .unset, .unset, .unset, .unset, .unset, .unset, .unset]) rfl ?_
    refine XS.sipush X2.here hx rfl (hb hby at_22) ?_
    exact kt
  obtain ⟨T4, h4, k4, X4, e4, E4, A4, st4⟩ := newP X2 hx hZ (ow hw 26 rfl) rfl (g := (mkF m 25 #[sI p0, sI p1, sI p2, sI p3, sI p4, sI p5, sR b1_0, sR b2_0, sU, sU, sU, sU, sU, sU, sU, sU] [(.int z2048)])) rfl (hb hby at_25) rfl (by decide) (cap := 2048) (by decide) (by decide) (by decide) (by decide)
  obtain ⟨b4, g4⟩ : ∃ z, z = T2.heap.size := ⟨_, rfl⟩
  rw [← g4] at A4 st4
  have sz4 : T2.heap.size ≤ h4.size := E4.1
  have V4 : Arv Z h4 b4 k4 .char z2048 [] (.int z0) := Arv.new A4 (by decide)
  have lt4 : b4 < h4.size := V4.lt
  have V4f : Arf Z h4 b4 k4 .char z2048 (fun _ => (.int z0)) := Arf.of_arv V4
  refine GoW.pre st4 ?_
  refine GoW.pre (st' := T4.setTop (mkF m 39 #[sI p0, sI p1, sI p2, sI p3, sI p4, sI p5, sR b1_0, sR b2_0, sR b4, sU, sU, sU, sU, sU, sU, sU] [(.int ((p4 &&& z255).toUInt32.toUInt16.toUInt32.toInt32)), (.int z0), (.ref b4)])) (fun target kt => ?_) ?_
  · refine XS.astore X4.here hx rfl (hb hby at_27) rfl rfl (l' := #[.val (.int p0), .val (.int p1), .val (.int p2), .val (.int p3), .val (.int p4), .val (.int p5), .val (.ref b1_0), .val (.ref b2_0), .val (.ref b4), .unset, .unset, .unset, .unset, .unset, .unset, .unset]) rfl ?_
    refine XS.aload X4.here hx rfl (hb hby at_29) rfl rfl ?_
    refine XS.iconst X4.here hx rfl (hb hby at_31) ?_
    refine XS.iload X4.here hx rfl (hb hby at_32) rfl ?_
    refine XS.sipush X4.here hx rfl (hb hby at_34) ?_
    refine XS.iand X4.here hx rfl (hb hby at_37) rfl ?_
    refine XS.i2c X4.here hx rfl (hb hby at_38) rfl ?_
    exact kt
  obtain ⟨cl5, Ar5, q5, Sz5, Nn5, Hs5⟩ := id V4f
  have in5 : ¬ (z0 < 0 ∨ cl5.slots.size ≤ (z0).toNatClampNeg) := by rw [Sz5]; exact (by decide)
  obtain ⟨T5, h5, X5, e5, W5, st5⟩ := stC X4 hx hZ e4 Ar5 (j := z0) in5 (g := (mkF m 39 #[sI p0, sI p1, sI p2, sI p3, sI p4, sI p5, sR b1_0, sR b2_0, sR b4, sU, sU, sU, sU, sU, sU, sU] [(.int ((p4 &&& z255).toUInt32.toUInt16.toUInt32.toInt32)), (.int z0), (.ref b4)])) rfl rfl (hb hby at_39)
  have sz5 : h4.size ≤ h5.size := (Keep.of_wr W5).1
  have V5 : Arf Z h5 b4 k4 .char z2048 (own_upd (fun _ => (.int z0)) z0 (.int (nar .char ((p4 &&& z255).toUInt32.toUInt16.toUInt32.toInt32)))) := Arf.set Ar5 q5 Sz5 Nn5 Hs5 (fits_nar_char _) in5 W5
  have N5 := Fr.snoc X5 N2 (by omega)
  refine GoW.pre st5 ?_
  refine GoW.pre (st' := T5.setTop (mkF m 55 #[sI p0, sI p1, sI p2, sI p3, sI p4, sI p5, sR b1_0, sR b2_0, sR b4, sU, sU, sU, sU, sU, sU, sU] [(.int ((((p4.toUInt32 >>> ((8 : Int32) &&& 31).toUInt32).toInt32) &&& z255).toUInt32.toUInt16.toUInt32.toInt32)), (.int z2047), (.ref b4)])) (fun target kt => ?_) ?_
  · refine XS.aload X5.here hx rfl (hb hby at_40) rfl rfl ?_
    refine XS.sipush X5.here hx rfl (hb hby at_42) ?_
    refine XS.iload X5.here hx rfl (hb hby at_45) rfl ?_
    refine XS.bipush X5.here hx rfl (hb hby at_47) ?_
    refine XS.iushr X5.here hx rfl (hb hby at_49) rfl ?_
    refine XS.sipush X5.here hx rfl (hb hby at_50) ?_
    refine XS.iand X5.here hx rfl (hb hby at_53) rfl ?_
    refine XS.i2c X5.here hx rfl (hb hby at_54) rfl ?_
    exact kt
  obtain ⟨cl6, Ar6, q6, Sz6, Nn6, Hs6⟩ := id V5
  have in6 : ¬ (z2047 < 0 ∨ cl6.slots.size ≤ (z2047).toNatClampNeg) := by rw [Sz6]; exact (by decide)
  obtain ⟨T6, h6, X6, e6, W6, st6⟩ := stC X5 hx hZ e5 Ar6 (j := z2047) in6 (g := (mkF m 55 #[sI p0, sI p1, sI p2, sI p3, sI p4, sI p5, sR b1_0, sR b2_0, sR b4, sU, sU, sU, sU, sU, sU, sU] [(.int ((((p4.toUInt32 >>> ((8 : Int32) &&& 31).toUInt32).toInt32) &&& z255).toUInt32.toUInt16.toUInt32.toInt32)), (.int z2047), (.ref b4)])) rfl rfl (hb hby at_55)
  have sz6 : h5.size ≤ h6.size := (Keep.of_wr W6).1
  have V6 : Arf Z h6 b4 k4 .char z2048 (own_upd (own_upd (fun _ => (.int z0)) z0 (.int (nar .char ((p4 &&& z255).toUInt32.toUInt16.toUInt32.toInt32)))) z2047 (.int (nar .char ((((p4.toUInt32 >>> ((8 : Int32) &&& 31).toUInt32).toInt32) &&& z255).toUInt32.toUInt16.toUInt32.toInt32)))) := Arf.set Ar6 q6 Sz6 Nn6 Hs6 (fits_nar_char _) in6 W6
  have N6 := Fr.snoc X6 N5 (by omega)
  refine GoW.pre st6 ?_
  refine GoW.pre (st' := T6.setTop (mkF m 57 #[sI p0, sI p1, sI p2, sI p3, sI p4, sI p5, sR b1_0, sR b2_0, sR b4, sU, sU, sU, sU, sU, sU, sU] [(.int z2)])) (fun target kt => ?_) ?_
  · refine XS.iconst X6.here hx rfl (hb hby at_56) ?_
    exact kt
  obtain ⟨T7, h7, k7, X7, e7, E7, A7, st7⟩ := newP X6 hx hZ (ow hw 26 rfl) e6 (g := (mkF m 57 #[sI p0, sI p1, sI p2, sI p3, sI p4, sI p5, sR b1_0, sR b2_0, sR b4, sU, sU, sU, sU, sU, sU, sU] [(.int z2)])) rfl (hb hby at_57) rfl (by decide) (cap := 2) (by decide) (by decide) (by decide) (by decide)
  obtain ⟨b7, g7⟩ : ∃ z, z = h6.size := ⟨_, rfl⟩
  rw [← g7] at A7 st7
  have sz7 : h6.size ≤ h7.size := E7.1
  have V7 : Arv Z h7 b7 k7 .char z2 [(.int z0), (.int z0)] (.int z0) := (Arv.new A7 (by decide)).pad (pad_rep [] (.int z0) 2)
  have lt7 : b7 < h7.size := V7.lt
  refine GoW.pre st7 ?_
  refine GoW.pre (st' := T7.setTop (mkF m 71 #[sI p0, sI p1, sI p2, sI p3, sI p4, sI p5, sR b1_0, sR b2_0, sR b4, sR b7, sU, sU, sU, sU, sU, sU] [(.int ((p5 &&& z255).toUInt32.toUInt16.toUInt32.toInt32)), (.int z0), (.ref b7)])) (fun target kt => ?_) ?_
  · refine XS.astore X7.here hx rfl (hb hby at_59) rfl rfl (l' := #[.val (.int p0), .val (.int p1), .val (.int p2), .val (.int p3), .val (.int p4), .val (.int p5), .val (.ref b1_0), .val (.ref b2_0), .val (.ref b4), .val (.ref b7), .unset, .unset, .unset, .unset, .unset, .unset]) rfl ?_
    refine XS.aload X7.here hx rfl (hb hby at_61) rfl rfl ?_
    refine XS.iconst X7.here hx rfl (hb hby at_63) ?_
    refine XS.iload X7.here hx rfl (hb hby at_64) rfl ?_
    refine XS.sipush X7.here hx rfl (hb hby at_66) ?_
    refine XS.iand X7.here hx rfl (hb hby at_69) rfl ?_
    refine XS.i2c X7.here hx rfl (hb hby at_70) rfl ?_
    exact kt
  obtain ⟨cl8, Ar8, q8, Sz8, Nn8, Hs8, Gs8⟩ := id V7
  have in8 := inb_of (j := z0) Sz8 ⟨by decide, by decide⟩
  obtain ⟨T8, h8, X8, e8, W8, st8⟩ := stC X7 hx hZ e7 Ar8 (j := z0) in8 (g := (mkF m 71 #[sI p0, sI p1, sI p2, sI p3, sI p4, sI p5, sR b1_0, sR b2_0, sR b4, sR b7, sU, sU, sU, sU, sU, sU] [(.int ((p5 &&& z255).toUInt32.toUInt16.toUInt32.toInt32)), (.int z0), (.ref b7)])) rfl rfl (hb hby at_71)
  have sz8 : h7.size ≤ h8.size := (Keep.of_wr W8).1
  have V8 : Arv Z h8 b7 k7 .char z2 [(.int (nar .char ((p5 &&& z255).toUInt32.toUInt16.toUInt32.toInt32))), (.int z0)] (.int z0) := Arv.set Ar8 q8 Sz8 Nn8 Hs8 Gs8 (fits_nar_char _) W8 0 rfl (Nat.le_of_ble_eq_true rfl)
  have N8 := Fr.snoc X8 N6 (by omega)
  refine GoW.pre st8 ?_
  refine GoW.pre (st' := T8.setTop (mkF m 85 #[sI p0, sI p1, sI p2, sI p3, sI p4, sI p5, sR b1_0, sR b2_0, sR b4, sR b7, sU, sU, sU, sU, sU, sU] [(.int ((((p5.toUInt32 >>> ((8 : Int32) &&& 31).toUInt32).toInt32) &&& z255).toUInt32.toUInt16.toUInt32.toInt32)), (.int z1), (.ref b7)])) (fun target kt => ?_) ?_
  · refine XS.aload X8.here hx rfl (hb hby at_72) rfl rfl ?_
    refine XS.iconst X8.here hx rfl (hb hby at_74) ?_
    refine XS.iload X8.here hx rfl (hb hby at_75) rfl ?_
    refine XS.bipush X8.here hx rfl (hb hby at_77) ?_
    refine XS.iushr X8.here hx rfl (hb hby at_79) rfl ?_
    refine XS.sipush X8.here hx rfl (hb hby at_80) ?_
    refine XS.iand X8.here hx rfl (hb hby at_83) rfl ?_
    refine XS.i2c X8.here hx rfl (hb hby at_84) rfl ?_
    exact kt
  obtain ⟨cl9, Ar9, q9, Sz9, Nn9, Hs9, Gs9⟩ := id V8
  have in9 := inb_of (j := z1) Sz9 ⟨by decide, by decide⟩
  obtain ⟨T9, h9, X9, e9, W9, st9⟩ := stC X8 hx hZ e8 Ar9 (j := z1) in9 (g := (mkF m 85 #[sI p0, sI p1, sI p2, sI p3, sI p4, sI p5, sR b1_0, sR b2_0, sR b4, sR b7, sU, sU, sU, sU, sU, sU] [(.int ((((p5.toUInt32 >>> ((8 : Int32) &&& 31).toUInt32).toInt32) &&& z255).toUInt32.toUInt16.toUInt32.toInt32)), (.int z1), (.ref b7)])) rfl rfl (hb hby at_85)
  have sz9 : h8.size ≤ h9.size := (Keep.of_wr W9).1
  have V9 : Arv Z h9 b7 k7 .char z2 [(.int (nar .char ((p5 &&& z255).toUInt32.toUInt16.toUInt32.toInt32))), (.int (nar .char ((((p5.toUInt32 >>> ((8 : Int32) &&& 31).toUInt32).toInt32) &&& z255).toUInt32.toUInt16.toUInt32.toInt32)))] (.int z0) := Arv.set Ar9 q9 Sz9 Nn9 Hs9 Gs9 (fits_nar_char _) W9 1 rfl (Nat.le_of_ble_eq_true rfl)
  have N9 := Fr.snoc X9 N8 (by omega)
  refine GoW.pre st9 ?_
  refine GoW.pre (st' := T9.setTop (mkF m 102 #[sI p0, sI p1, sI p2, sI p3, sI p4, sI p5, sR b1_0, sR b2_0, sR b4, sR b7, .val (.int (p3 &&& z2047)), .val (.int (((p5.toUInt32 >>> (z16 &&& 31).toUInt32).toInt32) - ((p5.toUInt32 >>> (z16 &&& 31).toUInt32).toInt32) / z3 * z3)), sU, sU, sU, sU] [])) (fun target kt => ?_) ?_
  · refine XS.iloadN X9.here hx rfl (hb hby at_86) rfl ?_
    refine XS.sipush X9.here hx rfl (hb hby at_87) ?_
    refine XS.iand X9.here hx rfl (hb hby at_90) rfl ?_
    refine XS.istore X9.here hx rfl (hb hby at_91) rfl (l' := #[.val (.int p0), .val (.int p1), .val (.int p2), .val (.int p3), .val (.int p4), .val (.int p5), .val (.ref b1_0), .val (.ref b2_0), .val (.ref b4), .val (.ref b7), .val (.int (p3 &&& z2047)), .unset, .unset, .unset, .unset, .unset]) rfl ?_
    refine XS.iload X9.here hx rfl (hb hby at_93) rfl ?_
    refine XS.bipush X9.here hx rfl (hb hby at_95) ?_
    refine XS.iushr X9.here hx rfl (hb hby at_97) rfl ?_
    refine XS.iconst X9.here hx rfl (hb hby at_98) ?_
    refine XS.irem X9.here hx rfl (hb hby at_99) rfl (by decide) ?_
    refine XS.istore X9.here hx rfl (hb hby at_100) rfl (l' := #[.val (.int p0), .val (.int p1), .val (.int p2), .val (.int p3), .val (.int p4), .val (.int p5), .val (.ref b1_0), .val (.ref b2_0), .val (.ref b4), .val (.ref b7), .val (.int (p3 &&& z2047)), .val (.int (((p5.toUInt32 >>> (z16 &&& 31).toUInt32).toInt32) - ((p5.toUInt32 >>> (z16 &&& 31).toUInt32).toInt32) / z3 * z3)), .unset, .unset, .unset, .unset]) rfl ?_
    exact kt
  obtain ⟨T10, h10, X10, e10, E10, A10, D10, -, st10⟩ := newO X9 hx hZ hown (ow hw 27 rfl) (ow hw 28 rfl) (ow hw 29 rfl) e9 (g := (mkF m 102 #[sI p0, sI p1, sI p2, sI p3, sI p4, sI p5, sR b1_0, sR b2_0, sR b4, sR b7, .val (.int (p3 &&& z2047)), .val (.int (((p5.toUInt32 >>> (z16 &&& 31).toUInt32).toInt32) - ((p5.toUInt32 >>> (z16 &&& 31).toUInt32).toInt32) / z3 * z3)), sU, sU, sU, sU] [])) rfl (hb hby at_102) (by decide) (by decide)
  obtain ⟨b10, g10⟩ : ∃ z, z = h9.size := ⟨_, rfl⟩
  rw [← g10] at A10 D10 st10
  have sz10 : h9.size ≤ h10.size := E10.1
  have lt10 : b10 < h10.size := A10.lt
  have F10_names : Fld Z h10 b10 cA "names" cD .null := D10 (Or.inl (ow hw 37 rfl)) (ty := (.array (.object cB))) (by decide)
  have F10_values : Fld Z h10 b10 cA "values" cD .null := D10 (Or.inl (ow hw 39 rfl)) (ty := (.array (.object cB))) (by decide)
  have F10_ends : Fld Z h10 b10 cA "ends" "[I" .null := D10 (Or.inl (ow hw 42 rfl)) (ty := (.array .int)) (by decide)
  have F10_text : Fld Z h10 b10 cA "text" "[C" .null := D10 (Or.inl (ow hw 44 rfl)) (ty := (.array .char)) (by decide)
  have F10_size : Fld Z h10 b10 cA "size" "I" (.int z0) := D10 (Or.inl (ow hw 58 rfl)) (ty := .int) (by decide)
  have F10_textLength : Fld Z h10 b10 cA "textLength" "I" (.int z0) := D10 (Or.inl (ow hw 60 rfl)) (ty := .int) (by decide)
  have F10_index : Fld Z h10 b10 cA "index" "Ljava/util/Map;" .null := D10 (Or.inl (ow hw 62 rfl)) (ty := (.object "java/util/Map")) (by decide)
  have F10_specified : Fld Z h10 b10 cA "specified" "I" (.int z0) := D10 (Or.inl (ow hw 64 rfl)) (ty := .int) (by decide)
  refine GoW.pre st10 ?_
  refine GoW.pre (st' := T10.setTop (mkF m 106 #[sI p0, sI p1, sI p2, sI p3, sI p4, sI p5, sR b1_0, sR b2_0, sR b4, sR b7, .val (.int (p3 &&& z2047)), .val (.int (((p5.toUInt32 >>> (z16 &&& 31).toUInt32).toInt32) - ((p5.toUInt32 >>> (z16 &&& 31).toUInt32).toInt32) / z3 * z3)), sU, sU, sU, sU] [(.ref b10), (.ref b10)])) (fun target kt => ?_) ?_
  · refine XS.dup X10.here hx rfl (hb hby at_105) rfl rfl ?_
    exact kt
  obtain ⟨_, _, ⟨T11, L11, k11, n11⟩, -, X11, ⟨Lc11, hQ11, l11, y11, z11⟩, st11⟩ := X10.specialBack hx (y := (⟨cA, "<init>", "()V"⟩ : MethodName)) rfl hown (mvT hZ (ow hw 30 rfl)) (mvT hZ (ow hw 31 rfl)) (mvT hZ (ow hw 32 rfl)) (by decide) (backOf (W := 1) (rm6 l Z a0 hw [] b10 .null .null .null .null h10 n0 (by omega) A10 F10_names (by omega) F10_values F10_ends F10_text) hZ (ow hw 32 rfl) (ow hw 29 rfl) (by decide) (by decide)) (g := (mkF m 106 #[sI p0, sI p1, sI p2, sI p3, sI p4, sI p5, sR b1_0, sR b2_0, sR b4, sR b7, .val (.int (p3 &&& z2047)), .val (.int (((p5.toUInt32 >>> (z16 &&& 31).toUInt32).toInt32) - ((p5.toUInt32 >>> (z16 &&& 31).toUInt32).toInt32) / z3 * z3)), sU, sU, sU, sU] [(.ref b10), (.ref b10)])) rfl (by rw [hml]; rfl) (Steps.refl _) (a := b10) (argsL := []) (rest := [(.ref b10)]) (lenOf pd0_1 rfl) rfl (le0 rfl) (hb hby at_106) (fun vm₁ hvm => ⟨rfl, e10, (by decide : 7 + 4 ≤ _), (by decide : 2068 + 1072 ≤ _)⟩)
  dsimp only [Pt.U, Pt.locs, Pt.cells, Pt.slots] at X11 l11 y11 z11 st11 hQ11
  subst l11 y11 z11
  obtain ⟨b11_0, b11_1, b11_2, b11_3, k11_0, k11_1, k11_2, k11_3, rfl, N11q, K11, KF11, gb11_0, ltb11_0, gb11_1, ltb11_1, lob11_1, gb11_2, ltb11_2, lob11_2, gb11_3, ltb11_3, lob11_3, Y11_0, Y11_1, Y11_2, Y11_3, Y11_4, Y11_5, Y11_6, Y11_7, Y11_8, Y11_9⟩ := hQ11
  have sz11 : h10.size ≤ T11.heap.size := K11.1
  have N11 := Fr.app N9 N11q
  refine GoW.trans st11 ?_
  refine GoW.pre (st' := T11.setTop (mkF m 114 #[sI p0, sI p1, sI p2, sI p3, sI p4, sI p5, sR b1_0, sR b2_0, sR b4, sR b7, .val (.int (p3 &&& z2047)), .val (.int (((p5.toUInt32 >>> (z16 &&& 31).toUInt32).toInt32) - ((p5.toUInt32 >>> (z16 &&& 31).toUInt32).toInt32) / z3 * z3)), sR b10, sU, sU, sU] [(.int (p2 &&& z1))])) (fun target kt => ?_) ?_
  · refine XS.astore X11.here hx rfl (hb hby at_109) rfl rfl (l' := #[.val (.int p0), .val (.int p1), .val (.int p2), .val (.int p3), .val (.int p4), .val (.int p5), .val (.ref b1_0), .val (.ref b2_0), .val (.ref b4), .val (.ref b7), .val (.int (p3 &&& z2047)), .val (.int (((p5.toUInt32 >>> (z16 &&& 31).toUInt32).toInt32) - ((p5.toUInt32 >>> (z16 &&& 31).toUInt32).toInt32) / z3 * z3)), .val (.ref b10), .unset, .unset, .unset]) rfl ?_
    refine XS.iloadN X11.here hx rfl (hb hby at_111) rfl ?_
    refine XS.iconst X11.here hx rfl (hb hby at_112) ?_
    refine XS.iand X11.here hx rfl (hb hby at_113) rfl ?_
    exact kt
  by_cases h114_12 : (p2 &&& z1) = z0
  · refine GoW.pre (st' := T11.setTop (mkF m 132 #[sI p0, sI p1, sI p2, sI p3, sI p4, sI p5, sR b1_0, sR b2_0, sR b4, sR b7, .val (.int (p3 &&& z2047)), .val (.int (((p5.toUInt32 >>> (z16 &&& 31).toUInt32).toInt32) - ((p5.toUInt32 >>> (z16 &&& 31).toUInt32).toInt32) / z3 * z3)), sR b10, sU, sU, sU] [])) (fun target kt => ?_) ?_
    · refine XS.ifYes X11.here hx rfl (pc0 := 114) (pc' := 132) rfl (hb hby at_114) rfl ((if0 _ _).trans (teq h114_12).1) (by decide) (by decide) ?_
      exact kt
    refine GoW.pre (st' := T11.setTop (mkF m 136 #[sI p0, sI p1, sI p2, sI p3, sI p4, sI p5, sR b1_0, sR b2_0, sR b4, sR b7, .val (.int (p3 &&& z2047)), .val (.int (((p5.toUInt32 >>> (z16 &&& 31).toUInt32).toInt32) - ((p5.toUInt32 >>> (z16 &&& 31).toUInt32).toInt32) / z3 * z3)), sR b10, sU, sU, sU] [(.ref b1_0), (.ref b10)])) (fun target kt => ?_) ?_
    · refine XS.aload X11.here hx rfl (hb hby at_132) rfl rfl ?_
      refine XS.aload X11.here hx rfl (hb hby at_134) rfl rfl ?_
      exact kt
    have Y14 := (((((((((Y3.keep K2 all0).ext E4).wr W5 (by omega)).wr W6 (by omega)).ext E7).wr W8 (by omega)).wr W9 (by omega)).ext E10).keep K11 (allS (by omega) all0))
    obtain ⟨la13, T13, h13, kq13, b13, k13, X13, e13, E13, hS, hk, hZ, hown, Ea13, Fc13, Fv13, Va13, lt13, lu13, hI, Lt_la13, st13⟩ := ldcSVL X11 hx hZ hown (ow hw 45 rfl) (own_wS hw) rfl hS (by omega) (hnS ▸ N11) hkp hI (by decide) (hheld _ (List.mem_of_getElem? (i := 0) rfl)) hcw (vs := [(.int (118 : Int32))]) (z := z1) ⟨by decide, by decide⟩ (by decide) rfl (g := (mkF m 136 #[sI p0, sI p1, sI p2, sI p3, sI p4, sI p5, sR b1_0, sR b2_0, sR b4, sR b7, .val (.int (p3 &&& z2047)), .val (.int (((p5.toUInt32 >>> (z16 &&& 31).toUInt32).toInt32) - ((p5.toUInt32 >>> (z16 &&& 31).toUInt32).toInt32) / z3 * z3)), sR b10, sU, sU, sU] [(.ref b1_0), (.ref b10)])) rfl (hb hby at_136) (n := 4) (by decide) (by decide) (by decide) (by decide)
    have sz13 : T11.heap.size ≤ h13.size := E13.1
    refine GoW.pre st13 ?_
    have Y16 := ((A10.keep K11).ext E13)
    have Y17 := ((KF11 _ _ _ _ _ F10_size (pallS (Or.inr (slot_ne (Or.inl (ow hw 58 rfl)) (Or.inl (ow hw 37 rfl)) (by decide) (t := .int) (t' := (.array (.object cB))) (by decide) (by decide))) (pallS (Or.inr (slot_ne (Or.inl (ow hw 58 rfl)) (Or.inl (ow hw 39 rfl)) (by decide) (t := .int) (t' := (.array (.object cB))) (by decide) (by decide))) (pallS (Or.inr (slot_ne (Or.inl (ow hw 58 rfl)) (Or.inl (ow hw 42 rfl)) (by decide) (t := .int) (t' := (.array .int)) (by decide) (by decide))) (pallS (Or.inr (slot_ne (Or.inl (ow hw 58 rfl)) (Or.inl (ow hw 44 rfl)) (by decide) (t := .int) (t' := (.array .char)) (by decide) (by decide))) pall0))))).ext E13)
    have Y18 := ((KF11 _ _ _ _ _ F10_specified (pallS (Or.inr (slot_ne (Or.inl (ow hw 64 rfl)) (Or.inl (ow hw 37 rfl)) (by decide) (t := .int) (t' := (.array (.object cB))) (by decide) (by decide))) (pallS (Or.inr (slot_ne (Or.inl (ow hw 64 rfl)) (Or.inl (ow hw 39 rfl)) (by decide) (t := .int) (t' := (.array (.object cB))) (by decide) (by decide))) (pallS (Or.inr (slot_ne (Or.inl (ow hw 64 rfl)) (Or.inl (ow hw 42 rfl)) (by decide) (t := .int) (t' := (.array .int)) (by decide) (by decide))) (pallS (Or.inr (slot_ne (Or.inl (ow hw 64 rfl)) (Or.inl (ow hw 44 rfl)) (by decide) (t := .int) (t' := (.array .char)) (by decide) (by decide))) pall0))))).ext E13)
    have Y19 := ((KF11 _ _ _ _ _ F10_textLength (pallS (Or.inr (slot_ne (Or.inl (ow hw 60 rfl)) (Or.inl (ow hw 37 rfl)) (by decide) (t := .int) (t' := (.array (.object cB))) (by decide) (by decide))) (pallS (Or.inr (slot_ne (Or.inl (ow hw 60 rfl)) (Or.inl (ow hw 39 rfl)) (by decide) (t := .int) (t' := (.array (.object cB))) (by decide) (by decide))) (pallS (Or.inr (slot_ne (Or.inl (ow hw 60 rfl)) (Or.inl (ow hw 42 rfl)) (by decide) (t := .int) (t' := (.array .int)) (by decide) (by decide))) (pallS (Or.inr (slot_ne (Or.inl (ow hw 60 rfl)) (Or.inl (ow hw 44 rfl)) (by decide) (t := .int) (t' := (.array .char)) (by decide) (by decide))) pall0))))).ext E13)
    have Y20 := ((KF11 _ _ _ _ _ F10_index (pallS (Or.inr (slot_ne (Or.inl (ow hw 62 rfl)) (Or.inl (ow hw 37 rfl)) (by decide) (t := (.object "java/util/Map")) (t' := (.array (.object cB))) (by decide) (by decide))) (pallS (Or.inr (slot_ne (Or.inl (ow hw 62 rfl)) (Or.inl (ow hw 39 rfl)) (by decide) (t := (.object "java/util/Map")) (t' := (.array (.object cB))) (by decide) (by decide))) (pallS (Or.inr (slot_ne (Or.inl (ow hw 62 rfl)) (Or.inl (ow hw 42 rfl)) (by decide) (t := (.object "java/util/Map")) (t' := (.array .int)) (by decide) (by decide))) (pallS (Or.inr (slot_ne (Or.inl (ow hw 62 rfl)) (Or.inl (ow hw 44 rfl)) (by decide) (t := (.object "java/util/Map")) (t' := (.array .char)) (by decide) (by decide))) pall0))))).ext E13)
    have Y21 := (Y11_0.ext E13)
    have Y22 := (Y11_4.ext E13)
    have Y23 := (Y11_1.ext E13)
    have Y24 := (Y11_6.ext E13)
    have Y25 := (Y11_2.ext E13)
    have Y26 := (Y11_8.ext E13)
    have Y27 := (Y11_3.ext E13)
    have Y28 := ((((((((((Y1_0.keep K2).ext E4).wr W5).wr W6).ext E7).wr W8).wr W9).ext E10).keep K11).ext E13)
    obtain ⟨cq15, kq15, q15a, q15b, q15c⟩ := isOf hZ e13 Y16
    obtain ⟨_, _, ⟨T15, L15, k15, n15⟩, -, X15, ⟨Lc15, hQ15, l15, y15, z15⟩, st15⟩ := X13.virtualBack hx (y := (⟨cA, "add", cC⟩ : MethodName)) (z := (⟨cA, "add", cC⟩ : MethodName)) hown (mvT hZ (ow hw 48 rfl)) (mvT hZ (ow hw 49 rfl)) (notFace_of_selects (args := #[]) (mvT hZ (ow hw 51 rfl))) (mvT hZ (ow hw 51 rfl)) (mvT hZ (ow hw 50 rfl)) (by decide) (backOf (W := 0) (rm7 l Z a0 hw [] b10 b1_0 la13 b11_0 k11_0 (fun _ => .null) b11_1 k11_1 (fun _ => .null) b11_2 k11_2 (fun _ => (.int z0)) b11_3 (.int z0) z0 h13 n0 (by omega) Y16 Y17 Y18 Y19 Y20 Y21 Y22 Y23 Y24 Y25 Y26 Y27 Y11_5 Y11_7 (neN (by omega)) (neN (by omega)) (neN (by omega)) (neN (by omega)) (neN (by omega)) (neN (by omega)) Y28 Ea13 (by omega) (by omega) (by omega) (by omega)) hZ (ow hw 52 rfl) (ow hw 29 rfl) (by decide) (by decide)) q15a q15c (g := (mkF m 138 #[sI p0, sI p1, sI p2, sI p3, sI p4, sI p5, sR b1_0, sR b2_0, sR b4, sR b7, .val (.int (p3 &&& z2047)), .val (.int (((p5.toUInt32 >>> (z16 &&& 31).toUInt32).toInt32) - ((p5.toUInt32 >>> (z16 &&& 31).toUInt32).toInt32) / z3 * z3)), sR b10, sU, sU, sU] [(.ref la13), (.ref b1_0), (.ref b10)])) rfl (by rw [hml]; rfl) (Steps.refl _) (argsL := [(.ref b1_0), (.ref la13)]) (rest := []) (lenOf pd0_2 rfl) rfl (le0 rfl) (hb hby at_138) (fun vm₁ hvm => ⟨rfl, e13, (by decide : 13 + 0 ≤ _), (by decide : 3148 + 0 ≤ _)⟩)
    dsimp only [Pt.U, Pt.locs, Pt.cells, Pt.slots] at X15 l15 y15 z15 st15 hQ15
    subst l15 y15 z15
    obtain ⟨rfl, N15q, K15, KF15, Y15_0, Y15_1, Y15_2, Y15_3, Y15_4, Y15_5, Y15_6, Y15_7, Y15_8, Y15_9, Y15_10⟩ := hQ15
    have sz15 : h13.size ≤ T15.heap.size := K15.1
    have N15 := Fr.app N11 N15q
    refine GoW.trans st15 ?_
    refine GoW.pre (st' := T15.setTop (mkF m 144 #[sI p0, sI p1, sI p2, sI p3, sI p4, sI p5, sR b1_0, sR b2_0, sR b4, sR b7, .val (.int (p3 &&& z2047)), .val (.int (((p5.toUInt32 >>> (z16 &&& 31).toUInt32).toInt32) - ((p5.toUInt32 >>> (z16 &&& 31).toUInt32).toInt32) / z3 * z3)), sR b10, sU, sU, sU] [(.int (p2 &&& z2))])) (fun target kt => ?_) ?_
    · refine XS.iloadN X15.here hx rfl (hb hby at_141) rfl ?_
      refine XS.iconst X15.here hx rfl (hb hby at_142) ?_
      refine XS.iand X15.here hx rfl (hb hby at_143) rfl ?_
      exact kt
    by_cases h144_29 : (p2 &&& z2) = z0
    · refine GoW.pre (st' := T15.setTop (mkF m 156 #[sI p0, sI p1, sI p2, sI p3, sI p4, sI p5, sR b1_0, sR b2_0, sR b4, sR b7, .val (.int (p3 &&& z2047)), .val (.int (((p5.toUInt32 >>> (z16 &&& 31).toUInt32).toInt32) - ((p5.toUInt32 >>> (z16 &&& 31).toUInt32).toInt32) / z3 * z3)), sR b10, sU, sU, sU] [])) (fun target kt => ?_) ?_
      · refine XS.ifYes X15.here hx rfl (pc0 := 144) (pc' := 156) rfl (hb hby at_144) rfl ((if0 _ _).trans (teq h144_29).1) (by decide) (by decide) ?_
        exact kt
      refine GoW.pre (st' := T15.setTop (mkF m 158 #[sI p0, sI p1, sI p2, sI p3, sI p4, sI p5, sR b1_0, sR b2_0, sR b4, sR b7, .val (.int (p3 &&& z2047)), .val (.int (((p5.toUInt32 >>> (z16 &&& 31).toUInt32).toInt32) - ((p5.toUInt32 >>> (z16 &&& 31).toUInt32).toInt32) / z3 * z3)), sR b10, sU, sU, sU] [(.ref b10)])) (fun target kt => ?_) ?_
      · refine XS.aload X15.here hx rfl (hb hby at_156) rfl rfl ?_
        exact kt
      have Y31 := (Y16.keep K15)
      have Y32 := ((Y11_9.ext E13).keep K15 (ninS (neN (by omega)) (ninS (neN (by omega)) (ninS (neN (by omega)) (ninS (neN (by omega)) nin0)))))
      obtain ⟨cq30, kq30, q30a, q30b, q30c⟩ := isOf hZ rfl Y31
      obtain ⟨_, _, ⟨T30, L30, k30, n30⟩, -, X30, ⟨Lc30, hQ30, l30, y30, z30⟩, st30⟩ := X15.virtualBack hx (y := (⟨cA, "clear", "()V"⟩ : MethodName)) (z := (⟨cA, "clear", "()V"⟩ : MethodName)) hown (mvT hZ (ow hw 71 rfl)) (mvT hZ (ow hw 72 rfl)) (notFace_of_selects (args := #[]) (mvT hZ (ow hw 74 rfl))) (mvT hZ (ow hw 74 rfl)) (mvT hZ (ow hw 73 rfl)) (by decide) (backOf (W := 0) (rm10_1024 l Z a0 hw [] b10 b11_0 k11_0 (own_upd (fun _ => .null) z0 (.ref b1_0)) b11_1 k11_1 (own_upd (fun _ => .null) z0 (.ref la13)) b11_2 k11_2 (own_upd (fun _ => (.int z0)) z0 (.int z0)) b11_3 k11_3 (fun _ => (.int z0)) (.int z1) (.int z1) (.int z0) T15.heap n0 (by omega) Y31 Y15_3 Y15_4 Y15_5 Y15_6 Y15_7 Y15_0 Y15_8 Y15_1 Y15_9 Y15_2 Y15_10 Y32 Y11_5 Y11_7 (neN (by omega)) (neN (by omega)) (neN (by omega)) (neN (by omega)) (neN (by omega)) (neN (by omega)) (neN (by omega)) (neN (by omega)) (neN (by omega)) (neN (by omega)) (by omega)) hZ (ow hw 75 rfl) (ow hw 29 rfl) (by decide) (by decide)) q30a q30c (g := (mkF m 158 #[sI p0, sI p1, sI p2, sI p3, sI p4, sI p5, sR b1_0, sR b2_0, sR b4, sR b7, .val (.int (p3 &&& z2047)), .val (.int (((p5.toUInt32 >>> (z16 &&& 31).toUInt32).toInt32) - ((p5.toUInt32 >>> (z16 &&& 31).toUInt32).toInt32) / z3 * z3)), sR b10, sU, sU, sU] [(.ref b10)])) rfl (by rw [hml]; rfl) (Steps.refl _) (argsL := []) (rest := []) (lenOf pd0_1 rfl) rfl (le0 rfl) (hb hby at_158) (fun vm₁ hvm => ⟨rfl, rfl, (by decide : 13 + 0 ≤ _), (by decide : 3148 + 0 ≤ _)⟩)
      dsimp only [Pt.U, Pt.locs, Pt.cells, Pt.slots] at X30 l30 y30 z30 st30 hQ30
      subst l30 y30 z30
      obtain ⟨rfl, N30q, K30, KF30, Y30_0, Y30_1, Y30_2, Y30_3, Y30_4, Y30_5, Y30_6, Y30_7⟩ := hQ30
      have sz30 : T15.heap.size ≤ T30.heap.size := K30.1
      have N30 := Fr.app N15 N30q
      refine GoW.trans st30 ?_
      have Y33 := (((Y14.ext E13).keep K15 (allS (by omega) (allS (by omega) (allS (by omega) (allS (by omega) all0))))).keep K30 (allS (by omega) all0))
      have Y34 := ((Y28.keep K15).keep K30)
      have Y35 := ((((((((((((Y1_4.keep K2 nin0).ext E4).other W5 (Or.inl (neN (by omega)))).other W6 (Or.inl (neN (by omega)))).ext E7).other W8 (Or.inl (neN (by omega)))).other W9 (Or.inl (neN (by omega)))).ext E10).keep K11 (ninS (neN (by omega)) nin0)).ext E13).keep K15 (ninS (neN (by omega)) (ninS (neN (by omega)) (ninS (neN (by omega)) (ninS (neN (by omega)) nin0))))).keep K30 (ninS (neN (by omega)) nin0))
      have Y36 := ((((((((((((Y1_3.keep K2 nin0).ext E4).other W5 (Or.inl (neN (by omega)))).other W6 (Or.inl (neN (by omega)))).ext E7).other W8 (Or.inl (neN (by omega)))).other W9 (Or.inl (neN (by omega)))).ext E10).keep K11 (ninS (neN (by omega)) nin0)).ext E13).keep K15 (ninS (neN (by omega)) (ninS (neN (by omega)) (ninS (neN (by omega)) (ninS (neN (by omega)) nin0))))).keep K30 (ninS (neN (by omega)) nin0))
      have Y37 := ((((((((((((Y1_5.keep K2 nin0).ext E4).other W5 (neN (by omega))).other W6 (neN (by omega))).ext E7).other W8 (neN (by omega))).other W9 (neN (by omega))).ext E10).keep K11 (ninS (neN (by omega)) nin0)).ext E13).keep K15 (ninS (neN (by omega)) (ninS (neN (by omega)) (ninS (neN (by omega)) (ninS (neN (by omega)) nin0))))).keep K30 (ninS (neN (by omega)) nin0))
      have Y38 := ((((((((((((Y1_1.keep K2 nin0).ext E4).other W5 (Or.inl (neN (by omega)))).other W6 (Or.inl (neN (by omega)))).ext E7).other W8 (Or.inl (neN (by omega)))).other W9 (Or.inl (neN (by omega)))).ext E10).keep K11 (ninS (neN (by omega)) nin0)).ext E13).keep K15 (ninS (neN (by omega)) (ninS (neN (by omega)) (ninS (neN (by omega)) (ninS (neN (by omega)) nin0))))).keep K30 (ninS (neN (by omega)) nin0))
      have Y39 := ((((((((((((Y1_2.keep K2 nin0).ext E4).other W5 (Or.inl (neN (by omega)))).other W6 (Or.inl (neN (by omega)))).ext E7).other W8 (Or.inl (neN (by omega)))).other W9 (Or.inl (neN (by omega)))).ext E10).keep K11 (ninS (neN (by omega)) nin0)).ext E13).keep K15 (ninS (neN (by omega)) (ninS (neN (by omega)) (ninS (neN (by omega)) (ninS (neN (by omega)) nin0))))).keep K30 (ninS (neN (by omega)) nin0))
      have Y40 := (((((((((((Y2_0.ext E4).wr W5).wr W6).ext E7).wr W8).wr W9).ext E10).keep K11).ext E13).keep K15).keep K30)
      have Y41 := (((((((((((Y2_4.ext E4).other W5 (Or.inl (neN (by omega)))).other W6 (Or.inl (neN (by omega)))).ext E7).other W8 (Or.inl (neN (by omega)))).other W9 (Or.inl (neN (by omega)))).ext E10).keep K11 (ninS (neN (by omega)) nin0)).ext E13).keep K15 (ninS (neN (by omega)) (ninS (neN (by omega)) (ninS (neN (by omega)) (ninS (neN (by omega)) nin0))))).keep K30 (ninS (neN (by omega)) nin0))
      have Y42 := (((((((((((Y2_3.ext E4).other W5 (Or.inl (neN (by omega)))).other W6 (Or.inl (neN (by omega)))).ext E7).other W8 (Or.inl (neN (by omega)))).other W9 (Or.inl (neN (by omega)))).ext E10).keep K11 (ninS (neN (by omega)) nin0)).ext E13).keep K15 (ninS (neN (by omega)) (ninS (neN (by omega)) (ninS (neN (by omega)) (ninS (neN (by omega)) nin0))))).keep K30 (ninS (neN (by omega)) nin0))
      have Y43 := (((((((((((Y2_5.ext E4).other W5 (neN (by omega))).other W6 (neN (by omega))).ext E7).other W8 (neN (by omega))).other W9 (neN (by omega))).ext E10).keep K11 (ninS (neN (by omega)) nin0)).ext E13).keep K15 (ninS (neN (by omega)) (ninS (neN (by omega)) (ninS (neN (by omega)) (ninS (neN (by omega)) nin0))))).keep K30 (ninS (neN (by omega)) nin0))
      have Y44 := (((((((((((Y2_1.ext E4).other W5 (Or.inl (neN (by omega)))).other W6 (Or.inl (neN (by omega)))).ext E7).other W8 (Or.inl (neN (by omega)))).other W9 (Or.inl (neN (by omega)))).ext E10).keep K11 (ninS (neN (by omega)) nin0)).ext E13).keep K15 (ninS (neN (by omega)) (ninS (neN (by omega)) (ninS (neN (by omega)) (ninS (neN (by omega)) nin0))))).keep K30 (ninS (neN (by omega)) nin0))
      have Y45 := (((((((((((Y2_2.ext E4).other W5 (Or.inl (neN (by omega)))).other W6 (Or.inl (neN (by omega)))).ext E7).other W8 (Or.inl (neN (by omega)))).other W9 (Or.inl (neN (by omega)))).ext E10).keep K11 (ninS (neN (by omega)) nin0)).ext E13).keep K15 (ninS (neN (by omega)) (ninS (neN (by omega)) (ninS (neN (by omega)) (ninS (neN (by omega)) nin0))))).keep K30 (ninS (neN (by omega)) nin0))
      have Y46 := (((((V9.ext E10).keep K11 (ninS (neN (by omega)) nin0)).ext E13).keep K15 (ninS (neN (by omega)) (ninS (neN (by omega)) (ninS (neN (by omega)) (ninS (neN (by omega)) nin0))))).keep K30 (ninS (neN (by omega)) nin0))
      have Y47 := (Y31.keep K30)
      have Y48 := (Y15_0.keep K30 (ninS (neN (by omega)) nin0))
      have Y49 := (Y15_1.keep K30 (ninS (neN (by omega)) nin0))
      have Y50 := (Y15_2.keep K30 (ninS (neN (by omega)) nin0))
      have Y51 := (Y32.keep K30 (ninS (neN (by omega)) nin0))
      exact blk161 ⟨hx, hZ, hby, hml, hown, hrt, hlk⟩ hw hS (by omega) (IB.sup hI (by simp)) hnS hkp (padS X30 (by decide) (by decide)) rfl N30 p0 p1 p2 p3 p4 p5 b1_0 b2_0 b4 b7 (p3 &&& z2047) (((p5.toUInt32 >>> (z16 &&& 31).toUInt32).toInt32) - ((p5.toUInt32 >>> (z16 &&& 31).toUInt32).toInt32) / z3 * z3) b10 zc zf (nar .byte z0) b1_1 k1_0 (nar .byte (((p0 &&& z255).toUInt32.toUInt16.toUInt32.toInt32).toInt8.toInt32)) (nar .byte z0) b2_1 k2_0 (nar .byte (((p1 &&& z255).toUInt32.toUInt16.toUInt32.toInt32).toInt8.toInt32)) k7 (nar .char ((p5 &&& z255).toUInt32.toUInt16.toUInt32.toInt32)) (nar .char ((((p5.toUInt32 >>> ((8 : Int32) &&& 31).toUInt32).toInt32) &&& z255).toUInt32.toUInt16.toUInt32.toInt32)) b11_0 k11_0 (own_upd (fun _ => .null) z0 (.ref b1_0)) b11_1 k11_1 (own_upd (fun _ => .null) z0 (.ref la13)) b11_2 k11_2 (own_upd (fun _ => (.int z0)) z0 (.int z0)) b11_3 k11_3 (fun _ => (.int z0)) (by omega) S_COMPACT hcs S_F hv_zf hcw hheld Y33 Y34 Y35 Y36 Y37 Y38 Y39 Y40 Y41 Y42 Y43 Y44 Y45 (by decide) (by decide) (own_b255 _ _) Y46 (own_c255n _) (own_c255n _) Y47 Y30_0 Y30_1 Y30_2 Y30_3 Y30_4 Y48 Y30_5 Y49 Y30_6 Y50 Y30_7 Y51 Y11_5 Y11_7 (neN (by omega)) (neN (by omega)) (neN (by omega)) (neN (by omega)) (neN (by omega)) (neN (by omega)) (neN (by omega)) (neN (by omega)) (neN (by omega)) (neN (by omega)) (neN (by omega)) (neN (by omega)) (neN (by omega)) (neN (by omega)) (neN (by omega)) (neN (by omega)) (neN (by omega)) (neN (by omega)) (neN (by omega)) (neN (by omega)) (neN (by omega)) (neN (by omega)) (neN (by omega)) (neN (by omega)) (neN (by omega)) (neN (by omega)) (neN (by omega)) (neN (by omega)) (neN (by omega)) (neN (by omega)) (neN (by omega)) (neN (by omega)) (neN (by omega)) (neN (by omega)) (neN (by omega)) (neN (by omega)) (neN (by omega)) (neN (by omega)) (neN (by omega)) (neN (by omega)) (neN (by omega)) (neN (by omega)) (by omega) (by omega) (by omega) (by omega) (by omega) (by omega) (by omega) (own_rem3 _)
    · refine GoW.pre (st' := T15.setTop (mkF m 147 #[sI p0, sI p1, sI p2, sI p3, sI p4, sI p5, sR b1_0, sR b2_0, sR b4, sR b7, .val (.int (p3 &&& z2047)), .val (.int (((p5.toUInt32 >>> (z16 &&& 31).toUInt32).toInt32) - ((p5.toUInt32 >>> (z16 &&& 31).toUInt32).toInt32) / z3 * z3)), sR b10, sU, sU, sU] [])) (fun target kt => ?_) ?_
      · refine XS.ifNo X15.here hx rfl (hb hby at_144) rfl ((if0 _ _).trans (feq h144_29).1) ?_
        exact kt
      refine GoW.pre (st' := T15.setTop (mkF m 151 #[sI p0, sI p1, sI p2, sI p3, sI p4, sI p5, sR b1_0, sR b2_0, sR b4, sR b7, .val (.int (p3 &&& z2047)), .val (.int (((p5.toUInt32 >>> (z16 &&& 31).toUInt32).toInt32) - ((p5.toUInt32 >>> (z16 &&& 31).toUInt32).toInt32) / z3 * z3)), sR b10, sU, sU, sU] [(.ref b2_0), (.ref b10)])) (fun target kt => ?_) ?_
      · refine XS.aload X15.here hx rfl (hb hby at_147) rfl rfl ?_
        refine XS.aload X15.here hx rfl (hb hby at_149) rfl rfl ?_
        exact kt
      have Y53 := ((Y14.ext E13).keep K15 (allS (by omega) (allS (by omega) (allS (by omega) (allS (by omega) all0)))))
      obtain ⟨la52, T52, h52, kq52, b52, k52, X52, e52, E52, hS, hk, hZ, hown, Ea52, Fc52, Fv52, Va52, lt52, lu52, hI, Lt_la52, st52⟩ := ldcSVL X15 hx hZ hown (ow hw 65 rfl) (own_wS hw) rfl hS (by omega) (hnS ▸ N15) hkp hI (by decide) (hheld _ (List.mem_of_getElem? (i := 1) rfl)) hcw (vs := [(.int (119 : Int32))]) (z := z1) ⟨by decide, by decide⟩ (by decide) rfl (g := (mkF m 151 #[sI p0, sI p1, sI p2, sI p3, sI p4, sI p5, sR b1_0, sR b2_0, sR b4, sR b7, .val (.int (p3 &&& z2047)), .val (.int (((p5.toUInt32 >>> (z16 &&& 31).toUInt32).toInt32) - ((p5.toUInt32 >>> (z16 &&& 31).toUInt32).toInt32) / z3 * z3)), sR b10, sU, sU, sU] [(.ref b2_0), (.ref b10)])) rfl (hb hby at_151) (n := 4) (by decide) (by decide) (by decide) (by decide)
      have sz52 : T15.heap.size ≤ h52.size := E52.1
      refine GoW.pre st52 ?_
      have Y55 := ((Y16.keep K15).ext E52)
      have Y56 := (Y15_3.ext E52)
      have Y57 := (Y15_4.ext E52)
      have Y58 := (Y15_5.ext E52)
      have Y59 := (Y15_6.ext E52)
      have Y60 := (Y15_7.ext E52)
      have Y61 := (Y15_0.ext E52)
      have Y62 := (Y15_8.ext E52)
      have Y63 := (Y15_1.ext E52)
      have Y64 := (Y15_9.ext E52)
      have Y65 := (Y15_2.ext E52)
      have Y66 := (Y15_10.ext E52)
      have Y67 := (((((((((((Y2_0.ext E4).wr W5).wr W6).ext E7).wr W8).wr W9).ext E10).keep K11).ext E13).keep K15).ext E52)
      obtain ⟨cq54, kq54, q54a, q54b, q54c⟩ := isOf hZ e52 Y55
      obtain ⟨_, _, ⟨T54, L54, k54, n54⟩, -, X54, ⟨Lc54, hQ54, l54, y54, z54⟩, st54⟩ := X52.virtualBack hx (y := (⟨cA, "addDefault", cC⟩ : MethodName)) (z := (⟨cA, "addDefault", cC⟩ : MethodName)) hown (mvT hZ (ow hw 66 rfl)) (mvT hZ (ow hw 67 rfl)) (notFace_of_selects (args := #[]) (mvT hZ (ow hw 69 rfl))) (mvT hZ (ow hw 69 rfl)) (mvT hZ (ow hw 68 rfl)) (by decide) (backOf (W := 0) (rm9 l Z a0 hw [] b10 b2_0 la52 b11_0 k11_0 (own_upd (fun _ => .null) z0 (.ref b1_0)) b11_1 k11_1 (own_upd (fun _ => .null) z0 (.ref la13)) b11_2 k11_2 (own_upd (fun _ => (.int z0)) z0 (.int z0)) b11_3 (.int z1) z0 h52 n0 (by omega) Y55 Y56 Y57 Y58 Y59 Y60 Y61 Y62 Y63 Y64 Y65 Y66 Y11_5 Y11_7 (neN (by omega)) (neN (by omega)) (neN (by omega)) (neN (by omega)) (neN (by omega)) (neN (by omega)) Y67 Ea52 (by omega) (by omega) (by omega) (by omega)) hZ (ow hw 70 rfl) (ow hw 29 rfl) (by decide) (by decide)) q54a q54c (g := (mkF m 153 #[sI p0, sI p1, sI p2, sI p3, sI p4, sI p5, sR b1_0, sR b2_0, sR b4, sR b7, .val (.int (p3 &&& z2047)), .val (.int (((p5.toUInt32 >>> (z16 &&& 31).toUInt32).toInt32) - ((p5.toUInt32 >>> (z16 &&& 31).toUInt32).toInt32) / z3 * z3)), sR b10, sU, sU, sU] [(.ref la52), (.ref b2_0), (.ref b10)])) rfl (by rw [hml]; rfl) (Steps.refl _) (argsL := [(.ref b2_0), (.ref la52)]) (rest := []) (lenOf pd0_2 rfl) rfl (le0 rfl) (hb hby at_153) (fun vm₁ hvm => ⟨rfl, e52, (by decide : 15 + 0 ≤ _), (by decide : 3156 + 0 ≤ _)⟩)
      dsimp only [Pt.U, Pt.locs, Pt.cells, Pt.slots] at X54 l54 y54 z54 st54 hQ54
      subst l54 y54 z54
      obtain ⟨rfl, N54q, K54, KF54, Y54_0, Y54_1, Y54_2, Y54_3, Y54_4, Y54_5, Y54_6, Y54_7, Y54_8, Y54_9, Y54_10⟩ := hQ54
      have sz54 : h52.size ≤ T54.heap.size := K54.1
      have N54 := Fr.app N15 N54q
      refine GoW.trans st54 ?_
      refine GoW.pre (st' := T54.setTop (mkF m 158 #[sI p0, sI p1, sI p2, sI p3, sI p4, sI p5, sR b1_0, sR b2_0, sR b4, sR b7, .val (.int (p3 &&& z2047)), .val (.int (((p5.toUInt32 >>> (z16 &&& 31).toUInt32).toInt32) - ((p5.toUInt32 >>> (z16 &&& 31).toUInt32).toInt32) / z3 * z3)), sR b10, sU, sU, sU] [(.ref b10)])) (fun target kt => ?_) ?_
      · refine XS.aload X54.here hx rfl (hb hby at_156) rfl rfl ?_
        exact kt
      have Y69 := (Y55.keep K54)
      have Y70 := ((((Y11_9.ext E13).keep K15 (ninS (neN (by omega)) (ninS (neN (by omega)) (ninS (neN (by omega)) (ninS (neN (by omega)) nin0))))).ext E52).keep K54 (ninS (neN (by omega)) (ninS (neN (by omega)) (ninS (neN (by omega)) (ninS (neN (by omega)) nin0)))))
      obtain ⟨cq68, kq68, q68a, q68b, q68c⟩ := isOf hZ rfl Y69
      obtain ⟨_, _, ⟨T68, L68, k68, n68⟩, -, X68, ⟨Lc68, hQ68, l68, y68, z68⟩, st68⟩ := X54.virtualBack hx (y := (⟨cA, "clear", "()V"⟩ : MethodName)) (z := (⟨cA, "clear", "()V"⟩ : MethodName)) hown (mvT hZ (ow hw 71 rfl)) (mvT hZ (ow hw 72 rfl)) (notFace_of_selects (args := #[]) (mvT hZ (ow hw 74 rfl))) (mvT hZ (ow hw 74 rfl)) (mvT hZ (ow hw 73 rfl)) (by decide) (backOf (W := 0) (rm10_1024 l Z a0 hw [] b10 b11_0 k11_0 (own_upd (own_upd (fun _ => .null) z0 (.ref b1_0)) z1 (.ref b2_0)) b11_1 k11_1 (own_upd (own_upd (fun _ => .null) z0 (.ref la13)) z1 (.ref la52)) b11_2 k11_2 (own_upd (own_upd (fun _ => (.int z0)) z0 (.int z0)) z1 (.int z0)) b11_3 k11_3 (fun _ => (.int z0)) (.int z2) (.int z1) (.int z0) T54.heap n0 (by omega) Y69 Y54_3 Y54_4 Y54_5 Y54_6 Y54_7 Y54_0 Y54_8 Y54_1 Y54_9 Y54_2 Y54_10 Y70 Y11_5 Y11_7 (neN (by omega)) (neN (by omega)) (neN (by omega)) (neN (by omega)) (neN (by omega)) (neN (by omega)) (neN (by omega)) (neN (by omega)) (neN (by omega)) (neN (by omega)) (by omega)) hZ (ow hw 75 rfl) (ow hw 29 rfl) (by decide) (by decide)) q68a q68c (g := (mkF m 158 #[sI p0, sI p1, sI p2, sI p3, sI p4, sI p5, sR b1_0, sR b2_0, sR b4, sR b7, .val (.int (p3 &&& z2047)), .val (.int (((p5.toUInt32 >>> (z16 &&& 31).toUInt32).toInt32) - ((p5.toUInt32 >>> (z16 &&& 31).toUInt32).toInt32) / z3 * z3)), sR b10, sU, sU, sU] [(.ref b10)])) rfl (by rw [hml]; rfl) (Steps.refl _) (argsL := []) (rest := []) (lenOf pd0_1 rfl) rfl (le0 rfl) (hb hby at_158) (fun vm₁ hvm => ⟨rfl, rfl, (by decide : 15 + 0 ≤ _), (by decide : 3156 + 0 ≤ _)⟩)
      dsimp only [Pt.U, Pt.locs, Pt.cells, Pt.slots] at X68 l68 y68 z68 st68 hQ68
      subst l68 y68 z68
      obtain ⟨rfl, N68q, K68, KF68, Y68_0, Y68_1, Y68_2, Y68_3, Y68_4, Y68_5, Y68_6, Y68_7⟩ := hQ68
      have sz68 : T54.heap.size ≤ T68.heap.size := K68.1
      have N68 := Fr.app N54 N68q
      refine GoW.trans st68 ?_
      have Y71 := (((Y53.ext E52).keep K54 (allS (by omega) (allS (by omega) (allS (by omega) (allS (by omega) all0))))).keep K68 (allS (by omega) all0))
      have Y72 := ((((Y28.keep K15).ext E52).keep K54).keep K68)
      have Y73 := ((((((((((((((Y1_4.keep K2 nin0).ext E4).other W5 (Or.inl (neN (by omega)))).other W6 (Or.inl (neN (by omega)))).ext E7).other W8 (Or.inl (neN (by omega)))).other W9 (Or.inl (neN (by omega)))).ext E10).keep K11 (ninS (neN (by omega)) nin0)).ext E13).keep K15 (ninS (neN (by omega)) (ninS (neN (by omega)) (ninS (neN (by omega)) (ninS (neN (by omega)) nin0))))).ext E52).keep K54 (ninS (neN (by omega)) (ninS (neN (by omega)) (ninS (neN (by omega)) (ninS (neN (by omega)) nin0))))).keep K68 (ninS (neN (by omega)) nin0))
      have Y74 := ((((((((((((((Y1_3.keep K2 nin0).ext E4).other W5 (Or.inl (neN (by omega)))).other W6 (Or.inl (neN (by omega)))).ext E7).other W8 (Or.inl (neN (by omega)))).other W9 (Or.inl (neN (by omega)))).ext E10).keep K11 (ninS (neN (by omega)) nin0)).ext E13).keep K15 (ninS (neN (by omega)) (ninS (neN (by omega)) (ninS (neN (by omega)) (ninS (neN (by omega)) nin0))))).ext E52).keep K54 (ninS (neN (by omega)) (ninS (neN (by omega)) (ninS (neN (by omega)) (ninS (neN (by omega)) nin0))))).keep K68 (ninS (neN (by omega)) nin0))
      have Y75 := ((((((((((((((Y1_5.keep K2 nin0).ext E4).other W5 (neN (by omega))).other W6 (neN (by omega))).ext E7).other W8 (neN (by omega))).other W9 (neN (by omega))).ext E10).keep K11 (ninS (neN (by omega)) nin0)).ext E13).keep K15 (ninS (neN (by omega)) (ninS (neN (by omega)) (ninS (neN (by omega)) (ninS (neN (by omega)) nin0))))).ext E52).keep K54 (ninS (neN (by omega)) (ninS (neN (by omega)) (ninS (neN (by omega)) (ninS (neN (by omega)) nin0))))).keep K68 (ninS (neN (by omega)) nin0))
      have Y76 := ((((((((((((((Y1_1.keep K2 nin0).ext E4).other W5 (Or.inl (neN (by omega)))).other W6 (Or.inl (neN (by omega)))).ext E7).other W8 (Or.inl (neN (by omega)))).other W9 (Or.inl (neN (by omega)))).ext E10).keep K11 (ninS (neN (by omega)) nin0)).ext E13).keep K15 (ninS (neN (by omega)) (ninS (neN (by omega)) (ninS (neN (by omega)) (ninS (neN (by omega)) nin0))))).ext E52).keep K54 (ninS (neN (by omega)) (ninS (neN (by omega)) (ninS (neN (by omega)) (ninS (neN (by omega)) nin0))))).keep K68 (ninS (neN (by omega)) nin0))
      have Y77 := ((((((((((((((Y1_2.keep K2 nin0).ext E4).other W5 (Or.inl (neN (by omega)))).other W6 (Or.inl (neN (by omega)))).ext E7).other W8 (Or.inl (neN (by omega)))).other W9 (Or.inl (neN (by omega)))).ext E10).keep K11 (ninS (neN (by omega)) nin0)).ext E13).keep K15 (ninS (neN (by omega)) (ninS (neN (by omega)) (ninS (neN (by omega)) (ninS (neN (by omega)) nin0))))).ext E52).keep K54 (ninS (neN (by omega)) (ninS (neN (by omega)) (ninS (neN (by omega)) (ninS (neN (by omega)) nin0))))).keep K68 (ninS (neN (by omega)) nin0))
      have Y78 := ((Y67.keep K54).keep K68)
      have Y79 := (((((((((((((Y2_4.ext E4).other W5 (Or.inl (neN (by omega)))).other W6 (Or.inl (neN (by omega)))).ext E7).other W8 (Or.inl (neN (by omega)))).other W9 (Or.inl (neN (by omega)))).ext E10).keep K11 (ninS (neN (by omega)) nin0)).ext E13).keep K15 (ninS (neN (by omega)) (ninS (neN (by omega)) (ninS (neN (by omega)) (ninS (neN (by omega)) nin0))))).ext E52).keep K54 (ninS (neN (by omega)) (ninS (neN (by omega)) (ninS (neN (by omega)) (ninS (neN (by omega)) nin0))))).keep K68 (ninS (neN (by omega)) nin0))
      have Y80 := (((((((((((((Y2_3.ext E4).other W5 (Or.inl (neN (by omega)))).other W6 (Or.inl (neN (by omega)))).ext E7).other W8 (Or.inl (neN (by omega)))).other W9 (Or.inl (neN (by omega)))).ext E10).keep K11 (ninS (neN (by omega)) nin0)).ext E13).keep K15 (ninS (neN (by omega)) (ninS (neN (by omega)) (ninS (neN (by omega)) (ninS (neN (by omega)) nin0))))).ext E52).keep K54 (ninS (neN (by omega)) (ninS (neN (by omega)) (ninS (neN (by omega)) (ninS (neN (by omega)) nin0))))).keep K68 (ninS (neN (by omega)) nin0))
      have Y81 := (((((((((((((Y2_5.ext E4).other W5 (neN (by omega))).other W6 (neN (by omega))).ext E7).other W8 (neN (by omega))).other W9 (neN (by omega))).ext E10).keep K11 (ninS (neN (by omega)) nin0)).ext E13).keep K15 (ninS (neN (by omega)) (ninS (neN (by omega)) (ninS (neN (by omega)) (ninS (neN (by omega)) nin0))))).ext E52).keep K54 (ninS (neN (by omega)) (ninS (neN (by omega)) (ninS (neN (by omega)) (ninS (neN (by omega)) nin0))))).keep K68 (ninS (neN (by omega)) nin0))
      have Y82 := (((((((((((((Y2_1.ext E4).other W5 (Or.inl (neN (by omega)))).other W6 (Or.inl (neN (by omega)))).ext E7).other W8 (Or.inl (neN (by omega)))).other W9 (Or.inl (neN (by omega)))).ext E10).keep K11 (ninS (neN (by omega)) nin0)).ext E13).keep K15 (ninS (neN (by omega)) (ninS (neN (by omega)) (ninS (neN (by omega)) (ninS (neN (by omega)) nin0))))).ext E52).keep K54 (ninS (neN (by omega)) (ninS (neN (by omega)) (ninS (neN (by omega)) (ninS (neN (by omega)) nin0))))).keep K68 (ninS (neN (by omega)) nin0))
      have Y83 := (((((((((((((Y2_2.ext E4).other W5 (Or.inl (neN (by omega)))).other W6 (Or.inl (neN (by omega)))).ext E7).other W8 (Or.inl (neN (by omega)))).other W9 (Or.inl (neN (by omega)))).ext E10).keep K11 (ninS (neN (by omega)) nin0)).ext E13).keep K15 (ninS (neN (by omega)) (ninS (neN (by omega)) (ninS (neN (by omega)) (ninS (neN (by omega)) nin0))))).ext E52).keep K54 (ninS (neN (by omega)) (ninS (neN (by omega)) (ninS (neN (by omega)) (ninS (neN (by omega)) nin0))))).keep K68 (ninS (neN (by omega)) nin0))
      have Y84 := (((((((V9.ext E10).keep K11 (ninS (neN (by omega)) nin0)).ext E13).keep K15 (ninS (neN (by omega)) (ninS (neN (by omega)) (ninS (neN (by omega)) (ninS (neN (by omega)) nin0))))).ext E52).keep K54 (ninS (neN (by omega)) (ninS (neN (by omega)) (ninS (neN (by omega)) (ninS (neN (by omega)) nin0))))).keep K68 (ninS (neN (by omega)) nin0))
      have Y85 := (Y69.keep K68)
      have Y86 := (Y54_0.keep K68 (ninS (neN (by omega)) nin0))
      have Y87 := (Y54_1.keep K68 (ninS (neN (by omega)) nin0))
      have Y88 := (Y54_2.keep K68 (ninS (neN (by omega)) nin0))
      have Y89 := (Y70.keep K68 (ninS (neN (by omega)) nin0))
      exact blk161 ⟨hx, hZ, hby, hml, hown, hrt, hlk⟩ hw hS (by omega) (IB.sup hI (by simp)) hnS hkp (padS X68 (by decide) (by decide)) rfl N68 p0 p1 p2 p3 p4 p5 b1_0 b2_0 b4 b7 (p3 &&& z2047) (((p5.toUInt32 >>> (z16 &&& 31).toUInt32).toInt32) - ((p5.toUInt32 >>> (z16 &&& 31).toUInt32).toInt32) / z3 * z3) b10 zc zf (nar .byte z0) b1_1 k1_0 (nar .byte (((p0 &&& z255).toUInt32.toUInt16.toUInt32.toInt32).toInt8.toInt32)) (nar .byte z0) b2_1 k2_0 (nar .byte (((p1 &&& z255).toUInt32.toUInt16.toUInt32.toInt32).toInt8.toInt32)) k7 (nar .char ((p5 &&& z255).toUInt32.toUInt16.toUInt32.toInt32)) (nar .char ((((p5.toUInt32 >>> ((8 : Int32) &&& 31).toUInt32).toInt32) &&& z255).toUInt32.toUInt16.toUInt32.toInt32)) b11_0 k11_0 (own_upd (own_upd (fun _ => .null) z0 (.ref b1_0)) z1 (.ref b2_0)) b11_1 k11_1 (own_upd (own_upd (fun _ => .null) z0 (.ref la13)) z1 (.ref la52)) b11_2 k11_2 (own_upd (own_upd (fun _ => (.int z0)) z0 (.int z0)) z1 (.int z0)) b11_3 k11_3 (fun _ => (.int z0)) (by omega) S_COMPACT hcs S_F hv_zf hcw hheld Y71 Y72 Y73 Y74 Y75 Y76 Y77 Y78 Y79 Y80 Y81 Y82 Y83 (by decide) (by decide) (own_b255 _ _) Y84 (own_c255n _) (own_c255n _) Y85 Y68_0 Y68_1 Y68_2 Y68_3 Y68_4 Y86 Y68_5 Y87 Y68_6 Y88 Y68_7 Y89 Y11_5 Y11_7 (neN (by omega)) (neN (by omega)) (neN (by omega)) (neN (by omega)) (neN (by omega)) (neN (by omega)) (neN (by omega)) (neN (by omega)) (neN (by omega)) (neN (by omega)) (neN (by omega)) (neN (by omega)) (neN (by omega)) (neN (by omega)) (neN (by omega)) (neN (by omega)) (neN (by omega)) (neN (by omega)) (neN (by omega)) (neN (by omega)) (neN (by omega)) (neN (by omega)) (neN (by omega)) (neN (by omega)) (neN (by omega)) (neN (by omega)) (neN (by omega)) (neN (by omega)) (neN (by omega)) (neN (by omega)) (neN (by omega)) (neN (by omega)) (neN (by omega)) (neN (by omega)) (neN (by omega)) (neN (by omega)) (neN (by omega)) (neN (by omega)) (neN (by omega)) (neN (by omega)) (neN (by omega)) (neN (by omega)) (by omega) (by omega) (by omega) (by omega) (by omega) (by omega) (by omega) (own_rem3 _)
  · refine GoW.pre (st' := T11.setTop (mkF m 117 #[sI p0, sI p1, sI p2, sI p3, sI p4, sI p5, sR b1_0, sR b2_0, sR b4, sR b7, .val (.int (p3 &&& z2047)), .val (.int (((p5.toUInt32 >>> (z16 &&& 31).toUInt32).toInt32) - ((p5.toUInt32 >>> (z16 &&& 31).toUInt32).toInt32) / z3 * z3)), sR b10, sU, sU, sU] [])) (fun target kt => ?_) ?_
    · refine XS.ifNo X11.here hx rfl (hb hby at_114) rfl ((if0 _ _).trans (feq h114_12).1) ?_
      exact kt
    refine GoW.pre (st' := T11.setTop (mkF m 126 #[sI p0, sI p1, sI p2, sI p3, sI p4, sI p5, sR b1_0, sR b2_0, sR b4, sR b7, .val (.int (p3 &&& z2047)), .val (.int (((p5.toUInt32 >>> (z16 &&& 31).toUInt32).toInt32) - ((p5.toUInt32 >>> (z16 &&& 31).toUInt32).toInt32) / z3 * z3)), sR b10, sU, sU, sU] [(.int (p3 &&& z2047)), (.int z0), (.ref b4), (.ref b1_0), (.ref b10)])) (fun target kt => ?_) ?_
    · refine XS.aload X11.here hx rfl (hb hby at_117) rfl rfl ?_
      refine XS.aload X11.here hx rfl (hb hby at_119) rfl rfl ?_
      refine XS.aload X11.here hx rfl (hb hby at_121) rfl rfl ?_
      refine XS.iconst X11.here hx rfl (hb hby at_123) ?_
      refine XS.iload X11.here hx rfl (hb hby at_124) rfl ?_
      exact kt
    by_cases hf90 : z1024 < (z0 + (p3 &&& z2047))
    · have Y92 : Exa Z T11.heap b10 cA := (A10.keep K11)
      have Y93 := (KF11 _ _ _ _ _ F10_size (pallS (Or.inr (slot_ne (Or.inl (ow hw 58 rfl)) (Or.inl (ow hw 37 rfl)) (by decide) (t := .int) (t' := (.array (.object cB))) (by decide) (by decide))) (pallS (Or.inr (slot_ne (Or.inl (ow hw 58 rfl)) (Or.inl (ow hw 39 rfl)) (by decide) (t := .int) (t' := (.array (.object cB))) (by decide) (by decide))) (pallS (Or.inr (slot_ne (Or.inl (ow hw 58 rfl)) (Or.inl (ow hw 42 rfl)) (by decide) (t := .int) (t' := (.array .int)) (by decide) (by decide))) (pallS (Or.inr (slot_ne (Or.inl (ow hw 58 rfl)) (Or.inl (ow hw 44 rfl)) (by decide) (t := .int) (t' := (.array .char)) (by decide) (by decide))) pall0)))))
      have Y94 := (KF11 _ _ _ _ _ F10_specified (pallS (Or.inr (slot_ne (Or.inl (ow hw 64 rfl)) (Or.inl (ow hw 37 rfl)) (by decide) (t := .int) (t' := (.array (.object cB))) (by decide) (by decide))) (pallS (Or.inr (slot_ne (Or.inl (ow hw 64 rfl)) (Or.inl (ow hw 39 rfl)) (by decide) (t := .int) (t' := (.array (.object cB))) (by decide) (by decide))) (pallS (Or.inr (slot_ne (Or.inl (ow hw 64 rfl)) (Or.inl (ow hw 42 rfl)) (by decide) (t := .int) (t' := (.array .int)) (by decide) (by decide))) (pallS (Or.inr (slot_ne (Or.inl (ow hw 64 rfl)) (Or.inl (ow hw 44 rfl)) (by decide) (t := .int) (t' := (.array .char)) (by decide) (by decide))) pall0)))))
      have Y95 := (KF11 _ _ _ _ _ F10_textLength (pallS (Or.inr (slot_ne (Or.inl (ow hw 60 rfl)) (Or.inl (ow hw 37 rfl)) (by decide) (t := .int) (t' := (.array (.object cB))) (by decide) (by decide))) (pallS (Or.inr (slot_ne (Or.inl (ow hw 60 rfl)) (Or.inl (ow hw 39 rfl)) (by decide) (t := .int) (t' := (.array (.object cB))) (by decide) (by decide))) (pallS (Or.inr (slot_ne (Or.inl (ow hw 60 rfl)) (Or.inl (ow hw 42 rfl)) (by decide) (t := .int) (t' := (.array .int)) (by decide) (by decide))) (pallS (Or.inr (slot_ne (Or.inl (ow hw 60 rfl)) (Or.inl (ow hw 44 rfl)) (by decide) (t := .int) (t' := (.array .char)) (by decide) (by decide))) pall0)))))
      have Y96 := (KF11 _ _ _ _ _ F10_index (pallS (Or.inr (slot_ne (Or.inl (ow hw 62 rfl)) (Or.inl (ow hw 37 rfl)) (by decide) (t := (.object "java/util/Map")) (t' := (.array (.object cB))) (by decide) (by decide))) (pallS (Or.inr (slot_ne (Or.inl (ow hw 62 rfl)) (Or.inl (ow hw 39 rfl)) (by decide) (t := (.object "java/util/Map")) (t' := (.array (.object cB))) (by decide) (by decide))) (pallS (Or.inr (slot_ne (Or.inl (ow hw 62 rfl)) (Or.inl (ow hw 42 rfl)) (by decide) (t := (.object "java/util/Map")) (t' := (.array .int)) (by decide) (by decide))) (pallS (Or.inr (slot_ne (Or.inl (ow hw 62 rfl)) (Or.inl (ow hw 44 rfl)) (by decide) (t := (.object "java/util/Map")) (t' := (.array .char)) (by decide) (by decide))) pall0)))))
      have Y97 := (((((V6.ext E7).other W8 (neN (by omega))).other W9 (neN (by omega))).ext E10).keep K11 (ninS (neN (by omega)) nin0))
      have Y98 := (((((((((Y1_0.keep K2).ext E4).wr W5).wr W6).ext E7).wr W8).wr W9).ext E10).keep K11)
      obtain ⟨cq91, kq91, q91a, q91b, q91c⟩ := isOf hZ rfl Y92
      obtain ⟨_, _, ⟨T91, L91, k91, n91⟩, -, X91, ⟨Lc91, hQ91, l91, y91, z91⟩, st91⟩ := X11.virtualBack hx (y := (⟨cA, "add", "(Ljava/lang/String;[CII)V"⟩ : MethodName)) (z := (⟨cA, "add", "(Ljava/lang/String;[CII)V"⟩ : MethodName)) hown (mvT hZ (ow hw 86 rfl)) (mvT hZ (ow hw 87 rfl)) (notFace_of_selects (args := #[]) (mvT hZ (ow hw 89 rfl))) (mvT hZ (ow hw 89 rfl)) (mvT hZ (ow hw 88 rfl)) (by decide) (backOf (W := 0) (rm13b l Z a0 hw [] b10 b1_0 b4 (p3 &&& z2047) b11_0 k11_0 (fun _ => .null) b11_1 k11_1 (fun _ => .null) b11_2 k11_2 (fun _ => (.int z0)) b11_3 k11_3 (fun _ => (.int z0)) (.int z0) k4 (own_upd (own_upd (fun _ => (.int z0)) z0 (.int (nar .char ((p4 &&& z255).toUInt32.toUInt16.toUInt32.toInt32)))) z2047 (.int (nar .char ((((p4.toUInt32 >>> ((8 : Int32) &&& 31).toUInt32).toInt32) &&& z255).toUInt32.toUInt16.toUInt32.toInt32)))) T11.heap n0 (by omega) Y92 Y93 Y94 Y95 Y96 Y11_0 Y11_4 Y11_1 Y11_6 Y11_2 Y11_8 Y11_3 Y11_9 Y11_5 Y11_7 (neN (by omega)) (neN (by omega)) (neN (by omega)) (neN (by omega)) (neN (by omega)) (neN (by omega)) (neN (by omega)) (neN (by omega)) (neN (by omega)) (neN (by omega)) Y97 Y98 (neN (by omega)) (neN (by omega)) (neN (by omega)) (neN (by omega)) (neN (by omega)) (by omega) (by omega) (by omega) (by omega) (own_l0 _) (own_l1 _) (own_l1 _) (own_l3 _) hf90) hZ (ow hw 90 rfl) (ow hw 29 rfl) (by decide) (by decide)) q91a q91c (g := (mkF m 126 #[sI p0, sI p1, sI p2, sI p3, sI p4, sI p5, sR b1_0, sR b2_0, sR b4, sR b7, .val (.int (p3 &&& z2047)), .val (.int (((p5.toUInt32 >>> (z16 &&& 31).toUInt32).toInt32) - ((p5.toUInt32 >>> (z16 &&& 31).toUInt32).toInt32) / z3 * z3)), sR b10, sU, sU, sU] [(.int (p3 &&& z2047)), (.int z0), (.ref b4), (.ref b1_0), (.ref b10)])) rfl (by rw [hml]; rfl) (Steps.refl _) (argsL := [(.ref b1_0), (.ref b4), (.int z0), (.int (p3 &&& z2047))]) (rest := []) (lenOf pd0_3 rfl) rfl (le0 rfl) (hb hby at_126) (fun vm₁ hvm => ⟨rfl, rfl, (by decide : 11 + 1 ≤ _), (by decide : 3140 + 2048 ≤ _)⟩)
      dsimp only [Pt.U, Pt.locs, Pt.cells, Pt.slots] at X91 l91 y91 z91 st91 hQ91
      subst l91 y91 z91
      obtain ⟨b91_0, k91_0, rfl, N91q, K91, KF91, gb91_0, ltb91_0, Y91_0, Y91_1, Y91_2, Y91_3, Y91_4, Y91_5, Y91_6, Y91_7, Y91_8, Y91_9, Y91_10, Y91_11⟩ := hQ91
      have sz91 : T11.heap.size ≤ T91.heap.size := K91.1
      have N91 := Fr.app N11 N91q
      refine GoW.trans st91 ?_
      refine GoW.pre (st' := T91.setTop (mkF m 144 #[sI p0, sI p1, sI p2, sI p3, sI p4, sI p5, sR b1_0, sR b2_0, sR b4, sR b7, .val (.int (p3 &&& z2047)), .val (.int (((p5.toUInt32 >>> (z16 &&& 31).toUInt32).toInt32) - ((p5.toUInt32 >>> (z16 &&& 31).toUInt32).toInt32) / z3 * z3)), sR b10, sU, sU, sU] [(.int (p2 &&& z2))])) (fun target kt => ?_) ?_
      · refine XS.goto X91.here hx rfl (pc0 := 129) (pc' := 141) rfl (hb hby at_129) (by decide) (by decide) ?_
        refine XS.iloadN X91.here hx rfl (hb hby at_141) rfl ?_
        refine XS.iconst X91.here hx rfl (hb hby at_142) ?_
        refine XS.iand X91.here hx rfl (hb hby at_143) rfl ?_
        exact kt
      by_cases h144_99 : (p2 &&& z2) = z0
      · refine GoW.pre (st' := T91.setTop (mkF m 156 #[sI p0, sI p1, sI p2, sI p3, sI p4, sI p5, sR b1_0, sR b2_0, sR b4, sR b7, .val (.int (p3 &&& z2047)), .val (.int (((p5.toUInt32 >>> (z16 &&& 31).toUInt32).toInt32) - ((p5.toUInt32 >>> (z16 &&& 31).toUInt32).toInt32) / z3 * z3)), sR b10, sU, sU, sU] [])) (fun target kt => ?_) ?_
        · refine XS.ifYes X91.here hx rfl (pc0 := 144) (pc' := 156) rfl (hb hby at_144) rfl ((if0 _ _).trans (teq h144_99).1) (by decide) (by decide) ?_
          exact kt
        refine GoW.pre (st' := T91.setTop (mkF m 158 #[sI p0, sI p1, sI p2, sI p3, sI p4, sI p5, sR b1_0, sR b2_0, sR b4, sR b7, .val (.int (p3 &&& z2047)), .val (.int (((p5.toUInt32 >>> (z16 &&& 31).toUInt32).toInt32) - ((p5.toUInt32 >>> (z16 &&& 31).toUInt32).toInt32) / z3 * z3)), sR b10, sU, sU, sU] [(.ref b10)])) (fun target kt => ?_) ?_
        · refine XS.aload X91.here hx rfl (hb hby at_156) rfl rfl ?_
          exact kt
        have Y101 := (Y92.keep K91)
        obtain ⟨cq100, kq100, q100a, q100b, q100c⟩ := isOf hZ rfl Y101
        obtain ⟨_, _, ⟨T100, L100, k100, n100⟩, -, X100, ⟨Lc100, hQ100, l100, y100, z100⟩, st100⟩ := X91.virtualBack hx (y := (⟨cA, "clear", "()V"⟩ : MethodName)) (z := (⟨cA, "clear", "()V"⟩ : MethodName)) hown (mvT hZ (ow hw 71 rfl)) (mvT hZ (ow hw 72 rfl)) (notFace_of_selects (args := #[]) (mvT hZ (ow hw 74 rfl))) (mvT hZ (ow hw 74 rfl)) (mvT hZ (ow hw 73 rfl)) (by decide) (backOf (W := 0) (rm10_2048 l Z a0 hw [] b10 b11_0 k11_0 (own_upd (fun _ => .null) z0 (.ref b1_0)) b11_1 k11_1 (own_upd (fun _ => .null) z0 .null) b11_2 k11_2 (own_upd (fun _ => (.int z0)) z0 (.int (z0 + (p3 &&& z2047)))) b91_0 k91_0 (own_cp (own_upd (own_upd (fun _ => (.int z0)) z0 (.int (nar .char ((p4 &&& z255).toUInt32.toUInt16.toUInt32.toInt32)))) z2047 (.int (nar .char ((((p4.toUInt32 >>> ((8 : Int32) &&& 31).toUInt32).toInt32) &&& z255).toUInt32.toUInt16.toUInt32.toInt32)))) (own_cp (fun _ => (.int z0)) (fun _ => (.int z0)) z1024) (p3 &&& z2047)) (.int z1) (.int z1) (.int (z0 + (p3 &&& z2047))) T91.heap n0 (by omega) Y101 Y91_0 Y91_1 Y91_2 Y91_3 Y91_4 Y91_8 Y91_5 Y91_9 Y91_6 Y91_10 Y91_7 Y91_11 Y11_5 Y11_7 (neN (by omega)) (neN (by omega)) (neN (by omega)) (neN (by omega)) (neN (by omega)) (neN (by omega)) (neN (by omega)) (neN (by omega)) (neN (by omega)) (neN (by omega)) (by omega)) hZ (ow hw 75 rfl) (ow hw 29 rfl) (by decide) (by decide)) q100a q100c (g := (mkF m 158 #[sI p0, sI p1, sI p2, sI p3, sI p4, sI p5, sR b1_0, sR b2_0, sR b4, sR b7, .val (.int (p3 &&& z2047)), .val (.int (((p5.toUInt32 >>> (z16 &&& 31).toUInt32).toInt32) - ((p5.toUInt32 >>> (z16 &&& 31).toUInt32).toInt32) / z3 * z3)), sR b10, sU, sU, sU] [(.ref b10)])) rfl (by rw [hml]; rfl) (Steps.refl _) (argsL := []) (rest := []) (lenOf pd0_1 rfl) rfl (le0 rfl) (hb hby at_158) (fun vm₁ hvm => ⟨rfl, rfl, (by decide : 12 + 1 ≤ _), (by decide : 5188 + 1024 ≤ _)⟩)
        dsimp only [Pt.U, Pt.locs, Pt.cells, Pt.slots] at X100 l100 y100 z100 st100 hQ100
        subst l100 y100 z100
        obtain ⟨b100_0, k100_0, rfl, N100q, K100, KF100, gb100_0, ltb100_0, Y100_0, Y100_1, Y100_2, Y100_3, Y100_4, Y100_5, Y100_6, Y100_7, Y100_8⟩ := hQ100
        have sz100 : T91.heap.size ≤ T100.heap.size := K100.1
        have N100 := Fr.app N91 N100q
        refine GoW.trans st100 ?_
        have Y102 := (((((((((((Y3.keep K2 all0).ext E4).wr W5 (by omega)).wr W6 (by omega)).ext E7).wr W8 (by omega)).wr W9 (by omega)).ext E10).keep K11 (allS (by omega) all0)).keep K91 (allS (by omega) (allS (by omega) (allS (by omega) (allS (by omega) all0))))).keep K100 (allS (by omega) all0))
        have Y103 := ((Y98.keep K91).keep K100)
        have Y104 := (((((((((((Y1_4.keep K2 nin0).ext E4).other W5 (Or.inl (neN (by omega)))).other W6 (Or.inl (neN (by omega)))).ext E7).other W8 (Or.inl (neN (by omega)))).other W9 (Or.inl (neN (by omega)))).ext E10).keep K11 (ninS (neN (by omega)) nin0)).keep K91 (ninS (neN (by omega)) (ninS (neN (by omega)) (ninS (neN (by omega)) (ninS (neN (by omega)) nin0))))).keep K100 (ninS (neN (by omega)) nin0))
        have Y105 := (((((((((((Y1_3.keep K2 nin0).ext E4).other W5 (Or.inl (neN (by omega)))).other W6 (Or.inl (neN (by omega)))).ext E7).other W8 (Or.inl (neN (by omega)))).other W9 (Or.inl (neN (by omega)))).ext E10).keep K11 (ninS (neN (by omega)) nin0)).keep K91 (ninS (neN (by omega)) (ninS (neN (by omega)) (ninS (neN (by omega)) (ninS (neN (by omega)) nin0))))).keep K100 (ninS (neN (by omega)) nin0))
        have Y106 := (((((((((((Y1_5.keep K2 nin0).ext E4).other W5 (neN (by omega))).other W6 (neN (by omega))).ext E7).other W8 (neN (by omega))).other W9 (neN (by omega))).ext E10).keep K11 (ninS (neN (by omega)) nin0)).keep K91 (ninS (neN (by omega)) (ninS (neN (by omega)) (ninS (neN (by omega)) (ninS (neN (by omega)) nin0))))).keep K100 (ninS (neN (by omega)) nin0))
        have Y107 := (((((((((((Y1_1.keep K2 nin0).ext E4).other W5 (Or.inl (neN (by omega)))).other W6 (Or.inl (neN (by omega)))).ext E7).other W8 (Or.inl (neN (by omega)))).other W9 (Or.inl (neN (by omega)))).ext E10).keep K11 (ninS (neN (by omega)) nin0)).keep K91 (ninS (neN (by omega)) (ninS (neN (by omega)) (ninS (neN (by omega)) (ninS (neN (by omega)) nin0))))).keep K100 (ninS (neN (by omega)) nin0))
        have Y108 := (((((((((((Y1_2.keep K2 nin0).ext E4).other W5 (Or.inl (neN (by omega)))).other W6 (Or.inl (neN (by omega)))).ext E7).other W8 (Or.inl (neN (by omega)))).other W9 (Or.inl (neN (by omega)))).ext E10).keep K11 (ninS (neN (by omega)) nin0)).keep K91 (ninS (neN (by omega)) (ninS (neN (by omega)) (ninS (neN (by omega)) (ninS (neN (by omega)) nin0))))).keep K100 (ninS (neN (by omega)) nin0))
        have Y109 := ((((((((((Y2_0.ext E4).wr W5).wr W6).ext E7).wr W8).wr W9).ext E10).keep K11).keep K91).keep K100)
        have Y110 := ((((((((((Y2_4.ext E4).other W5 (Or.inl (neN (by omega)))).other W6 (Or.inl (neN (by omega)))).ext E7).other W8 (Or.inl (neN (by omega)))).other W9 (Or.inl (neN (by omega)))).ext E10).keep K11 (ninS (neN (by omega)) nin0)).keep K91 (ninS (neN (by omega)) (ninS (neN (by omega)) (ninS (neN (by omega)) (ninS (neN (by omega)) nin0))))).keep K100 (ninS (neN (by omega)) nin0))
        have Y111 := ((((((((((Y2_3.ext E4).other W5 (Or.inl (neN (by omega)))).other W6 (Or.inl (neN (by omega)))).ext E7).other W8 (Or.inl (neN (by omega)))).other W9 (Or.inl (neN (by omega)))).ext E10).keep K11 (ninS (neN (by omega)) nin0)).keep K91 (ninS (neN (by omega)) (ninS (neN (by omega)) (ninS (neN (by omega)) (ninS (neN (by omega)) nin0))))).keep K100 (ninS (neN (by omega)) nin0))
        have Y112 := ((((((((((Y2_5.ext E4).other W5 (neN (by omega))).other W6 (neN (by omega))).ext E7).other W8 (neN (by omega))).other W9 (neN (by omega))).ext E10).keep K11 (ninS (neN (by omega)) nin0)).keep K91 (ninS (neN (by omega)) (ninS (neN (by omega)) (ninS (neN (by omega)) (ninS (neN (by omega)) nin0))))).keep K100 (ninS (neN (by omega)) nin0))
        have Y113 := ((((((((((Y2_1.ext E4).other W5 (Or.inl (neN (by omega)))).other W6 (Or.inl (neN (by omega)))).ext E7).other W8 (Or.inl (neN (by omega)))).other W9 (Or.inl (neN (by omega)))).ext E10).keep K11 (ninS (neN (by omega)) nin0)).keep K91 (ninS (neN (by omega)) (ninS (neN (by omega)) (ninS (neN (by omega)) (ninS (neN (by omega)) nin0))))).keep K100 (ninS (neN (by omega)) nin0))
        have Y114 := ((((((((((Y2_2.ext E4).other W5 (Or.inl (neN (by omega)))).other W6 (Or.inl (neN (by omega)))).ext E7).other W8 (Or.inl (neN (by omega)))).other W9 (Or.inl (neN (by omega)))).ext E10).keep K11 (ninS (neN (by omega)) nin0)).keep K91 (ninS (neN (by omega)) (ninS (neN (by omega)) (ninS (neN (by omega)) (ninS (neN (by omega)) nin0))))).keep K100 (ninS (neN (by omega)) nin0))
        have Y115 := ((((V9.ext E10).keep K11 (ninS (neN (by omega)) nin0)).keep K91 (ninS (neN (by omega)) (ninS (neN (by omega)) (ninS (neN (by omega)) (ninS (neN (by omega)) nin0))))).keep K100 (ninS (neN (by omega)) nin0))
        have Y116 := (Y101.keep K100)
        have Y117 := (Y91_8.keep K100 (ninS (neN (by omega)) nin0))
        have Y118 := (Y91_9.keep K100 (ninS (neN (by omega)) nin0))
        have Y119 := (Y91_10.keep K100 (ninS (neN (by omega)) nin0))
        exact blk161 ⟨hx, hZ, hby, hml, hown, hrt, hlk⟩ hw hS (by omega) (IB.sup hI (by simp)) hnS hkp (padS X100 (by decide) (by decide)) rfl N100 p0 p1 p2 p3 p4 p5 b1_0 b2_0 b4 b7 (p3 &&& z2047) (((p5.toUInt32 >>> (z16 &&& 31).toUInt32).toInt32) - ((p5.toUInt32 >>> (z16 &&& 31).toUInt32).toInt32) / z3 * z3) b10 zc zf (nar .byte z0) b1_1 k1_0 (nar .byte (((p0 &&& z255).toUInt32.toUInt16.toUInt32.toInt32).toInt8.toInt32)) (nar .byte z0) b2_1 k2_0 (nar .byte (((p1 &&& z255).toUInt32.toUInt16.toUInt32.toInt32).toInt8.toInt32)) k7 (nar .char ((p5 &&& z255).toUInt32.toUInt16.toUInt32.toInt32)) (nar .char ((((p5.toUInt32 >>> ((8 : Int32) &&& 31).toUInt32).toInt32) &&& z255).toUInt32.toUInt16.toUInt32.toInt32)) b11_0 k11_0 (own_upd (fun _ => .null) z0 (.ref b1_0)) b11_1 k11_1 (own_upd (fun _ => .null) z0 .null) b11_2 k11_2 (own_upd (fun _ => (.int z0)) z0 (.int (z0 + (p3 &&& z2047)))) b100_0 k100_0 (fun _ => (.int z0)) (by omega) S_COMPACT hcs S_F hv_zf hcw hheld Y102 Y103 Y104 Y105 Y106 Y107 Y108 Y109 Y110 Y111 Y112 Y113 Y114 (by decide) (by decide) (own_b255 _ _) Y115 (own_c255n _) (own_c255n _) Y116 Y100_0 Y100_1 Y100_2 Y100_3 Y100_4 Y117 Y100_5 Y118 Y100_6 Y119 Y100_7 Y100_8 Y11_5 Y11_7 (neN (by omega)) (neN (by omega)) (neN (by omega)) (neN (by omega)) (neN (by omega)) (neN (by omega)) (neN (by omega)) (neN (by omega)) (neN (by omega)) (neN (by omega)) (neN (by omega)) (neN (by omega)) (neN (by omega)) (neN (by omega)) (neN (by omega)) (neN (by omega)) (neN (by omega)) (neN (by omega)) (neN (by omega)) (neN (by omega)) (neN (by omega)) (neN (by omega)) (neN (by omega)) (neN (by omega)) (neN (by omega)) (neN (by omega)) (neN (by omega)) (neN (by omega)) (neN (by omega)) (neN (by omega)) (neN (by omega)) (neN (by omega)) (neN (by omega)) (neN (by omega)) (neN (by omega)) (neN (by omega)) (neN (by omega)) (neN (by omega)) (neN (by omega)) (neN (by omega)) (neN (by omega)) (neN (by omega)) (by omega) (by omega) (by omega) (by omega) (by omega) (by omega) (by omega) (own_rem3 _)
      · refine GoW.pre (st' := T91.setTop (mkF m 147 #[sI p0, sI p1, sI p2, sI p3, sI p4, sI p5, sR b1_0, sR b2_0, sR b4, sR b7, .val (.int (p3 &&& z2047)), .val (.int (((p5.toUInt32 >>> (z16 &&& 31).toUInt32).toInt32) - ((p5.toUInt32 >>> (z16 &&& 31).toUInt32).toInt32) / z3 * z3)), sR b10, sU, sU, sU] [])) (fun target kt => ?_) ?_
        · refine XS.ifNo X91.here hx rfl (hb hby at_144) rfl ((if0 _ _).trans (feq h144_99).1) ?_
          exact kt
        refine GoW.pre (st' := T91.setTop (mkF m 151 #[sI p0, sI p1, sI p2, sI p3, sI p4, sI p5, sR b1_0, sR b2_0, sR b4, sR b7, .val (.int (p3 &&& z2047)), .val (.int (((p5.toUInt32 >>> (z16 &&& 31).toUInt32).toInt32) - ((p5.toUInt32 >>> (z16 &&& 31).toUInt32).toInt32) / z3 * z3)), sR b10, sU, sU, sU] [(.ref b2_0), (.ref b10)])) (fun target kt => ?_) ?_
        · refine XS.aload X91.here hx rfl (hb hby at_147) rfl rfl ?_
          refine XS.aload X91.here hx rfl (hb hby at_149) rfl rfl ?_
          exact kt
        have Y121 := ((((((((((Y3.keep K2 all0).ext E4).wr W5 (by omega)).wr W6 (by omega)).ext E7).wr W8 (by omega)).wr W9 (by omega)).ext E10).keep K11 (allS (by omega) all0)).keep K91 (allS (by omega) (allS (by omega) (allS (by omega) (allS (by omega) all0)))))
        obtain ⟨la120, T120, h120, kq120, b120, k120, X120, e120, E120, hS, hk, hZ, hown, Ea120, Fc120, Fv120, Va120, lt120, lu120, hI, Lt_la120, st120⟩ := ldcSVL X91 hx hZ hown (ow hw 65 rfl) (own_wS hw) rfl hS (by omega) (hnS ▸ N91) hkp hI (by decide) (hheld _ (List.mem_of_getElem? (i := 1) rfl)) hcw (vs := [(.int (119 : Int32))]) (z := z1) ⟨by decide, by decide⟩ (by decide) rfl (g := (mkF m 151 #[sI p0, sI p1, sI p2, sI p3, sI p4, sI p5, sR b1_0, sR b2_0, sR b4, sR b7, .val (.int (p3 &&& z2047)), .val (.int (((p5.toUInt32 >>> (z16 &&& 31).toUInt32).toInt32) - ((p5.toUInt32 >>> (z16 &&& 31).toUInt32).toInt32) / z3 * z3)), sR b10, sU, sU, sU] [(.ref b2_0), (.ref b10)])) rfl (hb hby at_151) (n := 4) (by decide) (by decide) (by decide) (by decide)
        have sz120 : T91.heap.size ≤ h120.size := E120.1
        refine GoW.pre st120 ?_
        have Y123 := ((Y92.keep K91).ext E120)
        have Y124 := (Y91_0.ext E120)
        have Y125 := (Y91_1.ext E120)
        have Y126 := (Y91_2.ext E120)
        have Y127 := (Y91_3.ext E120)
        have Y128 := (Y91_4.ext E120)
        have Y129 := (Y91_8.ext E120)
        have Y130 := (Y91_5.ext E120)
        have Y131 := (Y91_9.ext E120)
        have Y132 := (Y91_6.ext E120)
        have Y133 := (Y91_10.ext E120)
        have Y134 := (Y91_7.ext E120)
        have Y135 := ((((((((((Y2_0.ext E4).wr W5).wr W6).ext E7).wr W8).wr W9).ext E10).keep K11).keep K91).ext E120)
        obtain ⟨cq122, kq122, q122a, q122b, q122c⟩ := isOf hZ e120 Y123
        obtain ⟨_, _, ⟨T122, L122, k122, n122⟩, -, X122, ⟨Lc122, hQ122, l122, y122, z122⟩, st122⟩ := X120.virtualBack hx (y := (⟨cA, "addDefault", cC⟩ : MethodName)) (z := (⟨cA, "addDefault", cC⟩ : MethodName)) hown (mvT hZ (ow hw 66 rfl)) (mvT hZ (ow hw 67 rfl)) (notFace_of_selects (args := #[]) (mvT hZ (ow hw 69 rfl))) (mvT hZ (ow hw 69 rfl)) (mvT hZ (ow hw 68 rfl)) (by decide) (backOf (W := 0) (rm9 l Z a0 hw [] b10 b2_0 la120 b11_0 k11_0 (own_upd (fun _ => .null) z0 (.ref b1_0)) b11_1 k11_1 (own_upd (fun _ => .null) z0 .null) b11_2 k11_2 (own_upd (fun _ => (.int z0)) z0 (.int (z0 + (p3 &&& z2047)))) b91_0 (.int z1) (z0 + (p3 &&& z2047)) h120 n0 (by omega) Y123 Y124 Y125 Y126 Y127 Y128 Y129 Y130 Y131 Y132 Y133 Y134 Y11_5 Y11_7 (neN (by omega)) (neN (by omega)) (neN (by omega)) (neN (by omega)) (neN (by omega)) (neN (by omega)) Y135 Ea120 (by omega) (by omega) (by omega) (by omega)) hZ (ow hw 70 rfl) (ow hw 29 rfl) (by decide) (by decide)) q122a q122c (g := (mkF m 153 #[sI p0, sI p1, sI p2, sI p3, sI p4, sI p5, sR b1_0, sR b2_0, sR b4, sR b7, .val (.int (p3 &&& z2047)), .val (.int (((p5.toUInt32 >>> (z16 &&& 31).toUInt32).toInt32) - ((p5.toUInt32 >>> (z16 &&& 31).toUInt32).toInt32) / z3 * z3)), sR b10, sU, sU, sU] [(.ref la120), (.ref b2_0), (.ref b10)])) rfl (by rw [hml]; rfl) (Steps.refl _) (argsL := [(.ref b2_0), (.ref la120)]) (rest := []) (lenOf pd0_2 rfl) rfl (le0 rfl) (hb hby at_153) (fun vm₁ hvm => ⟨rfl, e120, (by decide : 14 + 0 ≤ _), (by decide : 5196 + 0 ≤ _)⟩)
        dsimp only [Pt.U, Pt.locs, Pt.cells, Pt.slots] at X122 l122 y122 z122 st122 hQ122
        subst l122 y122 z122
        obtain ⟨rfl, N122q, K122, KF122, Y122_0, Y122_1, Y122_2, Y122_3, Y122_4, Y122_5, Y122_6, Y122_7, Y122_8, Y122_9, Y122_10⟩ := hQ122
        have sz122 : h120.size ≤ T122.heap.size := K122.1
        have N122 := Fr.app N91 N122q
        refine GoW.trans st122 ?_
        refine GoW.pre (st' := T122.setTop (mkF m 158 #[sI p0, sI p1, sI p2, sI p3, sI p4, sI p5, sR b1_0, sR b2_0, sR b4, sR b7, .val (.int (p3 &&& z2047)), .val (.int (((p5.toUInt32 >>> (z16 &&& 31).toUInt32).toInt32) - ((p5.toUInt32 >>> (z16 &&& 31).toUInt32).toInt32) / z3 * z3)), sR b10, sU, sU, sU] [(.ref b10)])) (fun target kt => ?_) ?_
        · refine XS.aload X122.here hx rfl (hb hby at_156) rfl rfl ?_
          exact kt
        have Y137 := (Y123.keep K122)
        have Y138 := ((Y91_11.ext E120).keep K122 (ninS (neN (by omega)) (ninS (neN (by omega)) (ninS (neN (by omega)) (ninS (neN (by omega)) nin0)))))
        obtain ⟨cq136, kq136, q136a, q136b, q136c⟩ := isOf hZ rfl Y137
        obtain ⟨_, _, ⟨T136, L136, k136, n136⟩, -, X136, ⟨Lc136, hQ136, l136, y136, z136⟩, st136⟩ := X122.virtualBack hx (y := (⟨cA, "clear", "()V"⟩ : MethodName)) (z := (⟨cA, "clear", "()V"⟩ : MethodName)) hown (mvT hZ (ow hw 71 rfl)) (mvT hZ (ow hw 72 rfl)) (notFace_of_selects (args := #[]) (mvT hZ (ow hw 74 rfl))) (mvT hZ (ow hw 74 rfl)) (mvT hZ (ow hw 73 rfl)) (by decide) (backOf (W := 0) (rm10_2048 l Z a0 hw [] b10 b11_0 k11_0 (own_upd (own_upd (fun _ => .null) z0 (.ref b1_0)) z1 (.ref b2_0)) b11_1 k11_1 (own_upd (own_upd (fun _ => .null) z0 .null) z1 (.ref la120)) b11_2 k11_2 (own_upd (own_upd (fun _ => (.int z0)) z0 (.int (z0 + (p3 &&& z2047)))) z1 (.int (z0 + (p3 &&& z2047)))) b91_0 k91_0 (own_cp (own_upd (own_upd (fun _ => (.int z0)) z0 (.int (nar .char ((p4 &&& z255).toUInt32.toUInt16.toUInt32.toInt32)))) z2047 (.int (nar .char ((((p4.toUInt32 >>> ((8 : Int32) &&& 31).toUInt32).toInt32) &&& z255).toUInt32.toUInt16.toUInt32.toInt32)))) (own_cp (fun _ => (.int z0)) (fun _ => (.int z0)) z1024) (p3 &&& z2047)) (.int z2) (.int z1) (.int (z0 + (p3 &&& z2047))) T122.heap n0 (by omega) Y137 Y122_3 Y122_4 Y122_5 Y122_6 Y122_7 Y122_0 Y122_8 Y122_1 Y122_9 Y122_2 Y122_10 Y138 Y11_5 Y11_7 (neN (by omega)) (neN (by omega)) (neN (by omega)) (neN (by omega)) (neN (by omega)) (neN (by omega)) (neN (by omega)) (neN (by omega)) (neN (by omega)) (neN (by omega)) (by omega)) hZ (ow hw 75 rfl) (ow hw 29 rfl) (by decide) (by decide)) q136a q136c (g := (mkF m 158 #[sI p0, sI p1, sI p2, sI p3, sI p4, sI p5, sR b1_0, sR b2_0, sR b4, sR b7, .val (.int (p3 &&& z2047)), .val (.int (((p5.toUInt32 >>> (z16 &&& 31).toUInt32).toInt32) - ((p5.toUInt32 >>> (z16 &&& 31).toUInt32).toInt32) / z3 * z3)), sR b10, sU, sU, sU] [(.ref b10)])) rfl (by rw [hml]; rfl) (Steps.refl _) (argsL := []) (rest := []) (lenOf pd0_1 rfl) rfl (le0 rfl) (hb hby at_158) (fun vm₁ hvm => ⟨rfl, rfl, (by decide : 14 + 1 ≤ _), (by decide : 5196 + 1024 ≤ _)⟩)
        dsimp only [Pt.U, Pt.locs, Pt.cells, Pt.slots] at X136 l136 y136 z136 st136 hQ136
        subst l136 y136 z136
        obtain ⟨b136_0, k136_0, rfl, N136q, K136, KF136, gb136_0, ltb136_0, Y136_0, Y136_1, Y136_2, Y136_3, Y136_4, Y136_5, Y136_6, Y136_7, Y136_8⟩ := hQ136
        have sz136 : T122.heap.size ≤ T136.heap.size := K136.1
        have N136 := Fr.app N122 N136q
        refine GoW.trans st136 ?_
        have Y139 := (((Y121.ext E120).keep K122 (allS (by omega) (allS (by omega) (allS (by omega) (allS (by omega) all0))))).keep K136 (allS (by omega) all0))
        have Y140 := ((((Y98.keep K91).ext E120).keep K122).keep K136)
        have Y141 := (((((((((((((Y1_4.keep K2 nin0).ext E4).other W5 (Or.inl (neN (by omega)))).other W6 (Or.inl (neN (by omega)))).ext E7).other W8 (Or.inl (neN (by omega)))).other W9 (Or.inl (neN (by omega)))).ext E10).keep K11 (ninS (neN (by omega)) nin0)).keep K91 (ninS (neN (by omega)) (ninS (neN (by omega)) (ninS (neN (by omega)) (ninS (neN (by omega)) nin0))))).ext E120).keep K122 (ninS (neN (by omega)) (ninS (neN (by omega)) (ninS (neN (by omega)) (ninS (neN (by omega)) nin0))))).keep K136 (ninS (neN (by omega)) nin0))
        have Y142 := (((((((((((((Y1_3.keep K2 nin0).ext E4).other W5 (Or.inl (neN (by omega)))).other W6 (Or.inl (neN (by omega)))).ext E7).other W8 (Or.inl (neN (by omega)))).other W9 (Or.inl (neN (by omega)))).ext E10).keep K11 (ninS (neN (by omega)) nin0)).keep K91 (ninS (neN (by omega)) (ninS (neN (by omega)) (ninS (neN (by omega)) (ninS (neN (by omega)) nin0))))).ext E120).keep K122 (ninS (neN (by omega)) (ninS (neN (by omega)) (ninS (neN (by omega)) (ninS (neN (by omega)) nin0))))).keep K136 (ninS (neN (by omega)) nin0))
        have Y143 := (((((((((((((Y1_5.keep K2 nin0).ext E4).other W5 (neN (by omega))).other W6 (neN (by omega))).ext E7).other W8 (neN (by omega))).other W9 (neN (by omega))).ext E10).keep K11 (ninS (neN (by omega)) nin0)).keep K91 (ninS (neN (by omega)) (ninS (neN (by omega)) (ninS (neN (by omega)) (ninS (neN (by omega)) nin0))))).ext E120).keep K122 (ninS (neN (by omega)) (ninS (neN (by omega)) (ninS (neN (by omega)) (ninS (neN (by omega)) nin0))))).keep K136 (ninS (neN (by omega)) nin0))
        have Y144 := (((((((((((((Y1_1.keep K2 nin0).ext E4).other W5 (Or.inl (neN (by omega)))).other W6 (Or.inl (neN (by omega)))).ext E7).other W8 (Or.inl (neN (by omega)))).other W9 (Or.inl (neN (by omega)))).ext E10).keep K11 (ninS (neN (by omega)) nin0)).keep K91 (ninS (neN (by omega)) (ninS (neN (by omega)) (ninS (neN (by omega)) (ninS (neN (by omega)) nin0))))).ext E120).keep K122 (ninS (neN (by omega)) (ninS (neN (by omega)) (ninS (neN (by omega)) (ninS (neN (by omega)) nin0))))).keep K136 (ninS (neN (by omega)) nin0))
        have Y145 := (((((((((((((Y1_2.keep K2 nin0).ext E4).other W5 (Or.inl (neN (by omega)))).other W6 (Or.inl (neN (by omega)))).ext E7).other W8 (Or.inl (neN (by omega)))).other W9 (Or.inl (neN (by omega)))).ext E10).keep K11 (ninS (neN (by omega)) nin0)).keep K91 (ninS (neN (by omega)) (ninS (neN (by omega)) (ninS (neN (by omega)) (ninS (neN (by omega)) nin0))))).ext E120).keep K122 (ninS (neN (by omega)) (ninS (neN (by omega)) (ninS (neN (by omega)) (ninS (neN (by omega)) nin0))))).keep K136 (ninS (neN (by omega)) nin0))
        have Y146 := ((Y135.keep K122).keep K136)
        have Y147 := ((((((((((((Y2_4.ext E4).other W5 (Or.inl (neN (by omega)))).other W6 (Or.inl (neN (by omega)))).ext E7).other W8 (Or.inl (neN (by omega)))).other W9 (Or.inl (neN (by omega)))).ext E10).keep K11 (ninS (neN (by omega)) nin0)).keep K91 (ninS (neN (by omega)) (ninS (neN (by omega)) (ninS (neN (by omega)) (ninS (neN (by omega)) nin0))))).ext E120).keep K122 (ninS (neN (by omega)) (ninS (neN (by omega)) (ninS (neN (by omega)) (ninS (neN (by omega)) nin0))))).keep K136 (ninS (neN (by omega)) nin0))
        have Y148 := ((((((((((((Y2_3.ext E4).other W5 (Or.inl (neN (by omega)))).other W6 (Or.inl (neN (by omega)))).ext E7).other W8 (Or.inl (neN (by omega)))).other W9 (Or.inl (neN (by omega)))).ext E10).keep K11 (ninS (neN (by omega)) nin0)).keep K91 (ninS (neN (by omega)) (ninS (neN (by omega)) (ninS (neN (by omega)) (ninS (neN (by omega)) nin0))))).ext E120).keep K122 (ninS (neN (by omega)) (ninS (neN (by omega)) (ninS (neN (by omega)) (ninS (neN (by omega)) nin0))))).keep K136 (ninS (neN (by omega)) nin0))
        have Y149 := ((((((((((((Y2_5.ext E4).other W5 (neN (by omega))).other W6 (neN (by omega))).ext E7).other W8 (neN (by omega))).other W9 (neN (by omega))).ext E10).keep K11 (ninS (neN (by omega)) nin0)).keep K91 (ninS (neN (by omega)) (ninS (neN (by omega)) (ninS (neN (by omega)) (ninS (neN (by omega)) nin0))))).ext E120).keep K122 (ninS (neN (by omega)) (ninS (neN (by omega)) (ninS (neN (by omega)) (ninS (neN (by omega)) nin0))))).keep K136 (ninS (neN (by omega)) nin0))
        have Y150 := ((((((((((((Y2_1.ext E4).other W5 (Or.inl (neN (by omega)))).other W6 (Or.inl (neN (by omega)))).ext E7).other W8 (Or.inl (neN (by omega)))).other W9 (Or.inl (neN (by omega)))).ext E10).keep K11 (ninS (neN (by omega)) nin0)).keep K91 (ninS (neN (by omega)) (ninS (neN (by omega)) (ninS (neN (by omega)) (ninS (neN (by omega)) nin0))))).ext E120).keep K122 (ninS (neN (by omega)) (ninS (neN (by omega)) (ninS (neN (by omega)) (ninS (neN (by omega)) nin0))))).keep K136 (ninS (neN (by omega)) nin0))
        have Y151 := ((((((((((((Y2_2.ext E4).other W5 (Or.inl (neN (by omega)))).other W6 (Or.inl (neN (by omega)))).ext E7).other W8 (Or.inl (neN (by omega)))).other W9 (Or.inl (neN (by omega)))).ext E10).keep K11 (ninS (neN (by omega)) nin0)).keep K91 (ninS (neN (by omega)) (ninS (neN (by omega)) (ninS (neN (by omega)) (ninS (neN (by omega)) nin0))))).ext E120).keep K122 (ninS (neN (by omega)) (ninS (neN (by omega)) (ninS (neN (by omega)) (ninS (neN (by omega)) nin0))))).keep K136 (ninS (neN (by omega)) nin0))
        have Y152 := ((((((V9.ext E10).keep K11 (ninS (neN (by omega)) nin0)).keep K91 (ninS (neN (by omega)) (ninS (neN (by omega)) (ninS (neN (by omega)) (ninS (neN (by omega)) nin0))))).ext E120).keep K122 (ninS (neN (by omega)) (ninS (neN (by omega)) (ninS (neN (by omega)) (ninS (neN (by omega)) nin0))))).keep K136 (ninS (neN (by omega)) nin0))
        have Y153 := (Y137.keep K136)
        have Y154 := (Y122_0.keep K136 (ninS (neN (by omega)) nin0))
        have Y155 := (Y122_1.keep K136 (ninS (neN (by omega)) nin0))
        have Y156 := (Y122_2.keep K136 (ninS (neN (by omega)) nin0))
        exact blk161 ⟨hx, hZ, hby, hml, hown, hrt, hlk⟩ hw hS (by omega) (IB.sup hI (by simp)) hnS hkp (padS X136 (by decide) (by decide)) rfl N136 p0 p1 p2 p3 p4 p5 b1_0 b2_0 b4 b7 (p3 &&& z2047) (((p5.toUInt32 >>> (z16 &&& 31).toUInt32).toInt32) - ((p5.toUInt32 >>> (z16 &&& 31).toUInt32).toInt32) / z3 * z3) b10 zc zf (nar .byte z0) b1_1 k1_0 (nar .byte (((p0 &&& z255).toUInt32.toUInt16.toUInt32.toInt32).toInt8.toInt32)) (nar .byte z0) b2_1 k2_0 (nar .byte (((p1 &&& z255).toUInt32.toUInt16.toUInt32.toInt32).toInt8.toInt32)) k7 (nar .char ((p5 &&& z255).toUInt32.toUInt16.toUInt32.toInt32)) (nar .char ((((p5.toUInt32 >>> ((8 : Int32) &&& 31).toUInt32).toInt32) &&& z255).toUInt32.toUInt16.toUInt32.toInt32)) b11_0 k11_0 (own_upd (own_upd (fun _ => .null) z0 (.ref b1_0)) z1 (.ref b2_0)) b11_1 k11_1 (own_upd (own_upd (fun _ => .null) z0 .null) z1 (.ref la120)) b11_2 k11_2 (own_upd (own_upd (fun _ => (.int z0)) z0 (.int (z0 + (p3 &&& z2047)))) z1 (.int (z0 + (p3 &&& z2047)))) b136_0 k136_0 (fun _ => (.int z0)) (by omega) S_COMPACT hcs S_F hv_zf hcw hheld Y139 Y140 Y141 Y142 Y143 Y144 Y145 Y146 Y147 Y148 Y149 Y150 Y151 (by decide) (by decide) (own_b255 _ _) Y152 (own_c255n _) (own_c255n _) Y153 Y136_0 Y136_1 Y136_2 Y136_3 Y136_4 Y154 Y136_5 Y155 Y136_6 Y156 Y136_7 Y136_8 Y11_5 Y11_7 (neN (by omega)) (neN (by omega)) (neN (by omega)) (neN (by omega)) (neN (by omega)) (neN (by omega)) (neN (by omega)) (neN (by omega)) (neN (by omega)) (neN (by omega)) (neN (by omega)) (neN (by omega)) (neN (by omega)) (neN (by omega)) (neN (by omega)) (neN (by omega)) (neN (by omega)) (neN (by omega)) (neN (by omega)) (neN (by omega)) (neN (by omega)) (neN (by omega)) (neN (by omega)) (neN (by omega)) (neN (by omega)) (neN (by omega)) (neN (by omega)) (neN (by omega)) (neN (by omega)) (neN (by omega)) (neN (by omega)) (neN (by omega)) (neN (by omega)) (neN (by omega)) (neN (by omega)) (neN (by omega)) (neN (by omega)) (neN (by omega)) (neN (by omega)) (neN (by omega)) (neN (by omega)) (neN (by omega)) (by omega) (by omega) (by omega) (by omega) (by omega) (by omega) (by omega) (own_rem3 _)
    · have Y158 : Exa Z T11.heap b10 cA := (A10.keep K11)
      have Y159 := (KF11 _ _ _ _ _ F10_size (pallS (Or.inr (slot_ne (Or.inl (ow hw 58 rfl)) (Or.inl (ow hw 37 rfl)) (by decide) (t := .int) (t' := (.array (.object cB))) (by decide) (by decide))) (pallS (Or.inr (slot_ne (Or.inl (ow hw 58 rfl)) (Or.inl (ow hw 39 rfl)) (by decide) (t := .int) (t' := (.array (.object cB))) (by decide) (by decide))) (pallS (Or.inr (slot_ne (Or.inl (ow hw 58 rfl)) (Or.inl (ow hw 42 rfl)) (by decide) (t := .int) (t' := (.array .int)) (by decide) (by decide))) (pallS (Or.inr (slot_ne (Or.inl (ow hw 58 rfl)) (Or.inl (ow hw 44 rfl)) (by decide) (t := .int) (t' := (.array .char)) (by decide) (by decide))) pall0)))))
      have Y160 := (KF11 _ _ _ _ _ F10_specified (pallS (Or.inr (slot_ne (Or.inl (ow hw 64 rfl)) (Or.inl (ow hw 37 rfl)) (by decide) (t := .int) (t' := (.array (.object cB))) (by decide) (by decide))) (pallS (Or.inr (slot_ne (Or.inl (ow hw 64 rfl)) (Or.inl (ow hw 39 rfl)) (by decide) (t := .int) (t' := (.array (.object cB))) (by decide) (by decide))) (pallS (Or.inr (slot_ne (Or.inl (ow hw 64 rfl)) (Or.inl (ow hw 42 rfl)) (by decide) (t := .int) (t' := (.array .int)) (by decide) (by decide))) (pallS (Or.inr (slot_ne (Or.inl (ow hw 64 rfl)) (Or.inl (ow hw 44 rfl)) (by decide) (t := .int) (t' := (.array .char)) (by decide) (by decide))) pall0)))))
      have Y161 := (KF11 _ _ _ _ _ F10_textLength (pallS (Or.inr (slot_ne (Or.inl (ow hw 60 rfl)) (Or.inl (ow hw 37 rfl)) (by decide) (t := .int) (t' := (.array (.object cB))) (by decide) (by decide))) (pallS (Or.inr (slot_ne (Or.inl (ow hw 60 rfl)) (Or.inl (ow hw 39 rfl)) (by decide) (t := .int) (t' := (.array (.object cB))) (by decide) (by decide))) (pallS (Or.inr (slot_ne (Or.inl (ow hw 60 rfl)) (Or.inl (ow hw 42 rfl)) (by decide) (t := .int) (t' := (.array .int)) (by decide) (by decide))) (pallS (Or.inr (slot_ne (Or.inl (ow hw 60 rfl)) (Or.inl (ow hw 44 rfl)) (by decide) (t := .int) (t' := (.array .char)) (by decide) (by decide))) pall0)))))
      have Y162 := (KF11 _ _ _ _ _ F10_index (pallS (Or.inr (slot_ne (Or.inl (ow hw 62 rfl)) (Or.inl (ow hw 37 rfl)) (by decide) (t := (.object "java/util/Map")) (t' := (.array (.object cB))) (by decide) (by decide))) (pallS (Or.inr (slot_ne (Or.inl (ow hw 62 rfl)) (Or.inl (ow hw 39 rfl)) (by decide) (t := (.object "java/util/Map")) (t' := (.array (.object cB))) (by decide) (by decide))) (pallS (Or.inr (slot_ne (Or.inl (ow hw 62 rfl)) (Or.inl (ow hw 42 rfl)) (by decide) (t := (.object "java/util/Map")) (t' := (.array .int)) (by decide) (by decide))) (pallS (Or.inr (slot_ne (Or.inl (ow hw 62 rfl)) (Or.inl (ow hw 44 rfl)) (by decide) (t := (.object "java/util/Map")) (t' := (.array .char)) (by decide) (by decide))) pall0)))))
      have Y163 := (((((V6.ext E7).other W8 (neN (by omega))).other W9 (neN (by omega))).ext E10).keep K11 (ninS (neN (by omega)) nin0))
      have Y164 := (((((((((Y1_0.keep K2).ext E4).wr W5).wr W6).ext E7).wr W8).wr W9).ext E10).keep K11)
      obtain ⟨cq157, kq157, q157a, q157b, q157c⟩ := isOf hZ rfl Y158
      obtain ⟨_, _, ⟨T157, L157, k157, n157⟩, -, X157, ⟨Lc157, hQ157, l157, y157, z157⟩, st157⟩ := X11.virtualBack hx (y := (⟨cA, "add", "(Ljava/lang/String;[CII)V"⟩ : MethodName)) (z := (⟨cA, "add", "(Ljava/lang/String;[CII)V"⟩ : MethodName)) hown (mvT hZ (ow hw 86 rfl)) (mvT hZ (ow hw 87 rfl)) (notFace_of_selects (args := #[]) (mvT hZ (ow hw 89 rfl))) (mvT hZ (ow hw 89 rfl)) (mvT hZ (ow hw 88 rfl)) (by decide) (backOf (W := 0) (rm13a l Z a0 hw [] b10 b1_0 b4 (p3 &&& z2047) b11_0 k11_0 (fun _ => .null) b11_1 k11_1 (fun _ => .null) b11_2 k11_2 (fun _ => (.int z0)) b11_3 k11_3 (fun _ => (.int z0)) (.int z0) k4 (own_upd (own_upd (fun _ => (.int z0)) z0 (.int (nar .char ((p4 &&& z255).toUInt32.toUInt16.toUInt32.toInt32)))) z2047 (.int (nar .char ((((p4.toUInt32 >>> ((8 : Int32) &&& 31).toUInt32).toInt32) &&& z255).toUInt32.toUInt16.toUInt32.toInt32)))) T11.heap n0 (by omega) Y158 Y159 Y160 Y161 Y162 Y11_0 Y11_4 Y11_1 Y11_6 Y11_2 Y11_8 Y11_3 Y11_9 Y11_5 Y11_7 (neN (by omega)) (neN (by omega)) (neN (by omega)) (neN (by omega)) (neN (by omega)) (neN (by omega)) (neN (by omega)) (neN (by omega)) (neN (by omega)) (neN (by omega)) Y163 Y164 (neN (by omega)) (neN (by omega)) (neN (by omega)) (neN (by omega)) (neN (by omega)) (by omega) (by omega) (by omega) (by omega) (by omega) (own_l0 _) (own_l1 _) (own_l2 _ hf90) hf90) hZ (ow hw 90 rfl) (ow hw 29 rfl) (by decide) (by decide)) q157a q157c (g := (mkF m 126 #[sI p0, sI p1, sI p2, sI p3, sI p4, sI p5, sR b1_0, sR b2_0, sR b4, sR b7, .val (.int (p3 &&& z2047)), .val (.int (((p5.toUInt32 >>> (z16 &&& 31).toUInt32).toInt32) - ((p5.toUInt32 >>> (z16 &&& 31).toUInt32).toInt32) / z3 * z3)), sR b10, sU, sU, sU] [(.int (p3 &&& z2047)), (.int z0), (.ref b4), (.ref b1_0), (.ref b10)])) rfl (by rw [hml]; rfl) (Steps.refl _) (argsL := [(.ref b1_0), (.ref b4), (.int z0), (.int (p3 &&& z2047))]) (rest := []) (lenOf pd0_3 rfl) rfl (le0 rfl) (hb hby at_126) (fun vm₁ hvm => ⟨rfl, rfl, (by decide : 11 + 0 ≤ _), (by decide : 3140 + 0 ≤ _)⟩)
      dsimp only [Pt.U, Pt.locs, Pt.cells, Pt.slots] at X157 l157 y157 z157 st157 hQ157
      subst l157 y157 z157
      obtain ⟨rfl, N157q, K157, KF157, Y157_0, Y157_1, Y157_2, Y157_3, Y157_4, Y157_5, Y157_6, Y157_7, Y157_8, Y157_9, Y157_10, Y157_11⟩ := hQ157
      have sz157 : T11.heap.size ≤ T157.heap.size := K157.1
      have N157 := Fr.app N11 N157q
      refine GoW.trans st157 ?_
      refine GoW.pre (st' := T157.setTop (mkF m 144 #[sI p0, sI p1, sI p2, sI p3, sI p4, sI p5, sR b1_0, sR b2_0, sR b4, sR b7, .val (.int (p3 &&& z2047)), .val (.int (((p5.toUInt32 >>> (z16 &&& 31).toUInt32).toInt32) - ((p5.toUInt32 >>> (z16 &&& 31).toUInt32).toInt32) / z3 * z3)), sR b10, sU, sU, sU] [(.int (p2 &&& z2))])) (fun target kt => ?_) ?_
      · refine XS.goto X157.here hx rfl (pc0 := 129) (pc' := 141) rfl (hb hby at_129) (by decide) (by decide) ?_
        refine XS.iloadN X157.here hx rfl (hb hby at_141) rfl ?_
        refine XS.iconst X157.here hx rfl (hb hby at_142) ?_
        refine XS.iand X157.here hx rfl (hb hby at_143) rfl ?_
        exact kt
      by_cases h144_165 : (p2 &&& z2) = z0
      · refine GoW.pre (st' := T157.setTop (mkF m 156 #[sI p0, sI p1, sI p2, sI p3, sI p4, sI p5, sR b1_0, sR b2_0, sR b4, sR b7, .val (.int (p3 &&& z2047)), .val (.int (((p5.toUInt32 >>> (z16 &&& 31).toUInt32).toInt32) - ((p5.toUInt32 >>> (z16 &&& 31).toUInt32).toInt32) / z3 * z3)), sR b10, sU, sU, sU] [])) (fun target kt => ?_) ?_
        · refine XS.ifYes X157.here hx rfl (pc0 := 144) (pc' := 156) rfl (hb hby at_144) rfl ((if0 _ _).trans (teq h144_165).1) (by decide) (by decide) ?_
          exact kt
        refine GoW.pre (st' := T157.setTop (mkF m 158 #[sI p0, sI p1, sI p2, sI p3, sI p4, sI p5, sR b1_0, sR b2_0, sR b4, sR b7, .val (.int (p3 &&& z2047)), .val (.int (((p5.toUInt32 >>> (z16 &&& 31).toUInt32).toInt32) - ((p5.toUInt32 >>> (z16 &&& 31).toUInt32).toInt32) / z3 * z3)), sR b10, sU, sU, sU] [(.ref b10)])) (fun target kt => ?_) ?_
        · refine XS.aload X157.here hx rfl (hb hby at_156) rfl rfl ?_
          exact kt
        have Y167 := (Y158.keep K157)
        obtain ⟨cq166, kq166, q166a, q166b, q166c⟩ := isOf hZ rfl Y167
        obtain ⟨_, _, ⟨T166, L166, k166, n166⟩, -, X166, ⟨Lc166, hQ166, l166, y166, z166⟩, st166⟩ := X157.virtualBack hx (y := (⟨cA, "clear", "()V"⟩ : MethodName)) (z := (⟨cA, "clear", "()V"⟩ : MethodName)) hown (mvT hZ (ow hw 71 rfl)) (mvT hZ (ow hw 72 rfl)) (notFace_of_selects (args := #[]) (mvT hZ (ow hw 74 rfl))) (mvT hZ (ow hw 74 rfl)) (mvT hZ (ow hw 73 rfl)) (by decide) (backOf (W := 0) (rm10_1024 l Z a0 hw [] b10 b11_0 k11_0 (own_upd (fun _ => .null) z0 (.ref b1_0)) b11_1 k11_1 (own_upd (fun _ => .null) z0 .null) b11_2 k11_2 (own_upd (fun _ => (.int z0)) z0 (.int (z0 + (p3 &&& z2047)))) b11_3 k11_3 (own_cp (own_upd (own_upd (fun _ => (.int z0)) z0 (.int (nar .char ((p4 &&& z255).toUInt32.toUInt16.toUInt32.toInt32)))) z2047 (.int (nar .char ((((p4.toUInt32 >>> ((8 : Int32) &&& 31).toUInt32).toInt32) &&& z255).toUInt32.toUInt16.toUInt32.toInt32)))) (fun _ => (.int z0)) (p3 &&& z2047)) (.int z1) (.int z1) (.int (z0 + (p3 &&& z2047))) T157.heap n0 (by omega) Y167 Y157_1 Y157_2 Y157_3 Y157_4 Y157_5 Y157_9 Y157_6 Y157_10 Y157_7 Y157_11 Y157_8 Y157_0 Y11_5 Y11_7 (neN (by omega)) (neN (by omega)) (neN (by omega)) (neN (by omega)) (neN (by omega)) (neN (by omega)) (neN (by omega)) (neN (by omega)) (neN (by omega)) (neN (by omega)) (by omega)) hZ (ow hw 75 rfl) (ow hw 29 rfl) (by decide) (by decide)) q166a q166c (g := (mkF m 158 #[sI p0, sI p1, sI p2, sI p3, sI p4, sI p5, sR b1_0, sR b2_0, sR b4, sR b7, .val (.int (p3 &&& z2047)), .val (.int (((p5.toUInt32 >>> (z16 &&& 31).toUInt32).toInt32) - ((p5.toUInt32 >>> (z16 &&& 31).toUInt32).toInt32) / z3 * z3)), sR b10, sU, sU, sU] [(.ref b10)])) rfl (by rw [hml]; rfl) (Steps.refl _) (argsL := []) (rest := []) (lenOf pd0_1 rfl) rfl (le0 rfl) (hb hby at_158) (fun vm₁ hvm => ⟨rfl, rfl, (by decide : 11 + 0 ≤ _), (by decide : 3140 + 0 ≤ _)⟩)
        dsimp only [Pt.U, Pt.locs, Pt.cells, Pt.slots] at X166 l166 y166 z166 st166 hQ166
        subst l166 y166 z166
        obtain ⟨rfl, N166q, K166, KF166, Y166_0, Y166_1, Y166_2, Y166_3, Y166_4, Y166_5, Y166_6, Y166_7⟩ := hQ166
        have sz166 : T157.heap.size ≤ T166.heap.size := K166.1
        have N166 := Fr.app N157 N166q
        refine GoW.trans st166 ?_
        have Y168 := (((((((((((Y3.keep K2 all0).ext E4).wr W5 (by omega)).wr W6 (by omega)).ext E7).wr W8 (by omega)).wr W9 (by omega)).ext E10).keep K11 (allS (by omega) all0)).keep K157 (allS (by omega) (allS (by omega) (allS (by omega) (allS (by omega) (allS (by omega) all0)))))).keep K166 (allS (by omega) all0))
        have Y169 := ((Y164.keep K157).keep K166)
        have Y170 := (((((((((((Y1_4.keep K2 nin0).ext E4).other W5 (Or.inl (neN (by omega)))).other W6 (Or.inl (neN (by omega)))).ext E7).other W8 (Or.inl (neN (by omega)))).other W9 (Or.inl (neN (by omega)))).ext E10).keep K11 (ninS (neN (by omega)) nin0)).keep K157 (ninS (neN (by omega)) (ninS (neN (by omega)) (ninS (neN (by omega)) (ninS (neN (by omega)) (ninS (neN (by omega)) nin0)))))).keep K166 (ninS (neN (by omega)) nin0))
        have Y171 := (((((((((((Y1_3.keep K2 nin0).ext E4).other W5 (Or.inl (neN (by omega)))).other W6 (Or.inl (neN (by omega)))).ext E7).other W8 (Or.inl (neN (by omega)))).other W9 (Or.inl (neN (by omega)))).ext E10).keep K11 (ninS (neN (by omega)) nin0)).keep K157 (ninS (neN (by omega)) (ninS (neN (by omega)) (ninS (neN (by omega)) (ninS (neN (by omega)) (ninS (neN (by omega)) nin0)))))).keep K166 (ninS (neN (by omega)) nin0))
        have Y172 := (((((((((((Y1_5.keep K2 nin0).ext E4).other W5 (neN (by omega))).other W6 (neN (by omega))).ext E7).other W8 (neN (by omega))).other W9 (neN (by omega))).ext E10).keep K11 (ninS (neN (by omega)) nin0)).keep K157 (ninS (neN (by omega)) (ninS (neN (by omega)) (ninS (neN (by omega)) (ninS (neN (by omega)) (ninS (neN (by omega)) nin0)))))).keep K166 (ninS (neN (by omega)) nin0))
        have Y173 := (((((((((((Y1_1.keep K2 nin0).ext E4).other W5 (Or.inl (neN (by omega)))).other W6 (Or.inl (neN (by omega)))).ext E7).other W8 (Or.inl (neN (by omega)))).other W9 (Or.inl (neN (by omega)))).ext E10).keep K11 (ninS (neN (by omega)) nin0)).keep K157 (ninS (neN (by omega)) (ninS (neN (by omega)) (ninS (neN (by omega)) (ninS (neN (by omega)) (ninS (neN (by omega)) nin0)))))).keep K166 (ninS (neN (by omega)) nin0))
        have Y174 := (((((((((((Y1_2.keep K2 nin0).ext E4).other W5 (Or.inl (neN (by omega)))).other W6 (Or.inl (neN (by omega)))).ext E7).other W8 (Or.inl (neN (by omega)))).other W9 (Or.inl (neN (by omega)))).ext E10).keep K11 (ninS (neN (by omega)) nin0)).keep K157 (ninS (neN (by omega)) (ninS (neN (by omega)) (ninS (neN (by omega)) (ninS (neN (by omega)) (ninS (neN (by omega)) nin0)))))).keep K166 (ninS (neN (by omega)) nin0))
        have Y175 := ((((((((((Y2_0.ext E4).wr W5).wr W6).ext E7).wr W8).wr W9).ext E10).keep K11).keep K157).keep K166)
        have Y176 := ((((((((((Y2_4.ext E4).other W5 (Or.inl (neN (by omega)))).other W6 (Or.inl (neN (by omega)))).ext E7).other W8 (Or.inl (neN (by omega)))).other W9 (Or.inl (neN (by omega)))).ext E10).keep K11 (ninS (neN (by omega)) nin0)).keep K157 (ninS (neN (by omega)) (ninS (neN (by omega)) (ninS (neN (by omega)) (ninS (neN (by omega)) (ninS (neN (by omega)) nin0)))))).keep K166 (ninS (neN (by omega)) nin0))
        have Y177 := ((((((((((Y2_3.ext E4).other W5 (Or.inl (neN (by omega)))).other W6 (Or.inl (neN (by omega)))).ext E7).other W8 (Or.inl (neN (by omega)))).other W9 (Or.inl (neN (by omega)))).ext E10).keep K11 (ninS (neN (by omega)) nin0)).keep K157 (ninS (neN (by omega)) (ninS (neN (by omega)) (ninS (neN (by omega)) (ninS (neN (by omega)) (ninS (neN (by omega)) nin0)))))).keep K166 (ninS (neN (by omega)) nin0))
        have Y178 := ((((((((((Y2_5.ext E4).other W5 (neN (by omega))).other W6 (neN (by omega))).ext E7).other W8 (neN (by omega))).other W9 (neN (by omega))).ext E10).keep K11 (ninS (neN (by omega)) nin0)).keep K157 (ninS (neN (by omega)) (ninS (neN (by omega)) (ninS (neN (by omega)) (ninS (neN (by omega)) (ninS (neN (by omega)) nin0)))))).keep K166 (ninS (neN (by omega)) nin0))
        have Y179 := ((((((((((Y2_1.ext E4).other W5 (Or.inl (neN (by omega)))).other W6 (Or.inl (neN (by omega)))).ext E7).other W8 (Or.inl (neN (by omega)))).other W9 (Or.inl (neN (by omega)))).ext E10).keep K11 (ninS (neN (by omega)) nin0)).keep K157 (ninS (neN (by omega)) (ninS (neN (by omega)) (ninS (neN (by omega)) (ninS (neN (by omega)) (ninS (neN (by omega)) nin0)))))).keep K166 (ninS (neN (by omega)) nin0))
        have Y180 := ((((((((((Y2_2.ext E4).other W5 (Or.inl (neN (by omega)))).other W6 (Or.inl (neN (by omega)))).ext E7).other W8 (Or.inl (neN (by omega)))).other W9 (Or.inl (neN (by omega)))).ext E10).keep K11 (ninS (neN (by omega)) nin0)).keep K157 (ninS (neN (by omega)) (ninS (neN (by omega)) (ninS (neN (by omega)) (ninS (neN (by omega)) (ninS (neN (by omega)) nin0)))))).keep K166 (ninS (neN (by omega)) nin0))
        have Y181 := ((((V9.ext E10).keep K11 (ninS (neN (by omega)) nin0)).keep K157 (ninS (neN (by omega)) (ninS (neN (by omega)) (ninS (neN (by omega)) (ninS (neN (by omega)) (ninS (neN (by omega)) nin0)))))).keep K166 (ninS (neN (by omega)) nin0))
        have Y182 := (Y167.keep K166)
        have Y183 := (Y157_9.keep K166 (ninS (neN (by omega)) nin0))
        have Y184 := (Y157_10.keep K166 (ninS (neN (by omega)) nin0))
        have Y185 := (Y157_11.keep K166 (ninS (neN (by omega)) nin0))
        have Y186 := (Y157_0.keep K166 (ninS (neN (by omega)) nin0))
        exact blk161 ⟨hx, hZ, hby, hml, hown, hrt, hlk⟩ hw hS (by omega) (IB.sup hI (by simp)) hnS hkp (padS X166 (by decide) (by decide)) rfl N166 p0 p1 p2 p3 p4 p5 b1_0 b2_0 b4 b7 (p3 &&& z2047) (((p5.toUInt32 >>> (z16 &&& 31).toUInt32).toInt32) - ((p5.toUInt32 >>> (z16 &&& 31).toUInt32).toInt32) / z3 * z3) b10 zc zf (nar .byte z0) b1_1 k1_0 (nar .byte (((p0 &&& z255).toUInt32.toUInt16.toUInt32.toInt32).toInt8.toInt32)) (nar .byte z0) b2_1 k2_0 (nar .byte (((p1 &&& z255).toUInt32.toUInt16.toUInt32.toInt32).toInt8.toInt32)) k7 (nar .char ((p5 &&& z255).toUInt32.toUInt16.toUInt32.toInt32)) (nar .char ((((p5.toUInt32 >>> ((8 : Int32) &&& 31).toUInt32).toInt32) &&& z255).toUInt32.toUInt16.toUInt32.toInt32)) b11_0 k11_0 (own_upd (fun _ => .null) z0 (.ref b1_0)) b11_1 k11_1 (own_upd (fun _ => .null) z0 .null) b11_2 k11_2 (own_upd (fun _ => (.int z0)) z0 (.int (z0 + (p3 &&& z2047)))) b11_3 k11_3 (own_cp (own_upd (own_upd (fun _ => (.int z0)) z0 (.int (nar .char ((p4 &&& z255).toUInt32.toUInt16.toUInt32.toInt32)))) z2047 (.int (nar .char ((((p4.toUInt32 >>> ((8 : Int32) &&& 31).toUInt32).toInt32) &&& z255).toUInt32.toUInt16.toUInt32.toInt32)))) (fun _ => (.int z0)) (p3 &&& z2047)) (by omega) S_COMPACT hcs S_F hv_zf hcw hheld Y168 Y169 Y170 Y171 Y172 Y173 Y174 Y175 Y176 Y177 Y178 Y179 Y180 (by decide) (by decide) (own_b255 _ _) Y181 (own_c255n _) (own_c255n _) Y182 Y166_0 Y166_1 Y166_2 Y166_3 Y166_4 Y183 Y166_5 Y184 Y166_6 Y185 Y166_7 Y186 Y11_5 Y11_7 (neN (by omega)) (neN (by omega)) (neN (by omega)) (neN (by omega)) (neN (by omega)) (neN (by omega)) (neN (by omega)) (neN (by omega)) (neN (by omega)) (neN (by omega)) (neN (by omega)) (neN (by omega)) (neN (by omega)) (neN (by omega)) (neN (by omega)) (neN (by omega)) (neN (by omega)) (neN (by omega)) (neN (by omega)) (neN (by omega)) (neN (by omega)) (neN (by omega)) (neN (by omega)) (neN (by omega)) (neN (by omega)) (neN (by omega)) (neN (by omega)) (neN (by omega)) (neN (by omega)) (neN (by omega)) (neN (by omega)) (neN (by omega)) (neN (by omega)) (neN (by omega)) (neN (by omega)) (neN (by omega)) (neN (by omega)) (neN (by omega)) (neN (by omega)) (neN (by omega)) (neN (by omega)) (neN (by omega)) (by omega) (by omega) (by omega) (by omega) (by omega) (by omega) (by omega) (own_rem3 _)
      · refine GoW.pre (st' := T157.setTop (mkF m 147 #[sI p0, sI p1, sI p2, sI p3, sI p4, sI p5, sR b1_0, sR b2_0, sR b4, sR b7, .val (.int (p3 &&& z2047)), .val (.int (((p5.toUInt32 >>> (z16 &&& 31).toUInt32).toInt32) - ((p5.toUInt32 >>> (z16 &&& 31).toUInt32).toInt32) / z3 * z3)), sR b10, sU, sU, sU] [])) (fun target kt => ?_) ?_
        · refine XS.ifNo X157.here hx rfl (hb hby at_144) rfl ((if0 _ _).trans (feq h144_165).1) ?_
          exact kt
        refine GoW.pre (st' := T157.setTop (mkF m 151 #[sI p0, sI p1, sI p2, sI p3, sI p4, sI p5, sR b1_0, sR b2_0, sR b4, sR b7, .val (.int (p3 &&& z2047)), .val (.int (((p5.toUInt32 >>> (z16 &&& 31).toUInt32).toInt32) - ((p5.toUInt32 >>> (z16 &&& 31).toUInt32).toInt32) / z3 * z3)), sR b10, sU, sU, sU] [(.ref b2_0), (.ref b10)])) (fun target kt => ?_) ?_
        · refine XS.aload X157.here hx rfl (hb hby at_147) rfl rfl ?_
          refine XS.aload X157.here hx rfl (hb hby at_149) rfl rfl ?_
          exact kt
        have Y188 := ((((((((((Y3.keep K2 all0).ext E4).wr W5 (by omega)).wr W6 (by omega)).ext E7).wr W8 (by omega)).wr W9 (by omega)).ext E10).keep K11 (allS (by omega) all0)).keep K157 (allS (by omega) (allS (by omega) (allS (by omega) (allS (by omega) (allS (by omega) all0))))))
        obtain ⟨la187, T187, h187, kq187, b187, k187, X187, e187, E187, hS, hk, hZ, hown, Ea187, Fc187, Fv187, Va187, lt187, lu187, hI, Lt_la187, st187⟩ := ldcSVL X157 hx hZ hown (ow hw 65 rfl) (own_wS hw) rfl hS (by omega) (hnS ▸ N157) hkp hI (by decide) (hheld _ (List.mem_of_getElem? (i := 1) rfl)) hcw (vs := [(.int (119 : Int32))]) (z := z1) ⟨by decide, by decide⟩ (by decide) rfl (g := (mkF m 151 #[sI p0, sI p1, sI p2, sI p3, sI p4, sI p5, sR b1_0, sR b2_0, sR b4, sR b7, .val (.int (p3 &&& z2047)), .val (.int (((p5.toUInt32 >>> (z16 &&& 31).toUInt32).toInt32) - ((p5.toUInt32 >>> (z16 &&& 31).toUInt32).toInt32) / z3 * z3)), sR b10, sU, sU, sU] [(.ref b2_0), (.ref b10)])) rfl (hb hby at_151) (n := 4) (by decide) (by decide) (by decide) (by decide)
        have sz187 : T157.heap.size ≤ h187.size := E187.1
        refine GoW.pre st187 ?_
        have Y190 := ((Y158.keep K157).ext E187)
        have Y191 := (Y157_1.ext E187)
        have Y192 := (Y157_2.ext E187)
        have Y193 := (Y157_3.ext E187)
        have Y194 := (Y157_4.ext E187)
        have Y195 := (Y157_5.ext E187)
        have Y196 := (Y157_9.ext E187)
        have Y197 := (Y157_6.ext E187)
        have Y198 := (Y157_10.ext E187)
        have Y199 := (Y157_7.ext E187)
        have Y200 := (Y157_11.ext E187)
        have Y201 := (Y157_8.ext E187)
        have Y202 := ((((((((((Y2_0.ext E4).wr W5).wr W6).ext E7).wr W8).wr W9).ext E10).keep K11).keep K157).ext E187)
        obtain ⟨cq189, kq189, q189a, q189b, q189c⟩ := isOf hZ e187 Y190
        obtain ⟨_, _, ⟨T189, L189, k189, n189⟩, -, X189, ⟨Lc189, hQ189, l189, y189, z189⟩, st189⟩ := X187.virtualBack hx (y := (⟨cA, "addDefault", cC⟩ : MethodName)) (z := (⟨cA, "addDefault", cC⟩ : MethodName)) hown (mvT hZ (ow hw 66 rfl)) (mvT hZ (ow hw 67 rfl)) (notFace_of_selects (args := #[]) (mvT hZ (ow hw 69 rfl))) (mvT hZ (ow hw 69 rfl)) (mvT hZ (ow hw 68 rfl)) (by decide) (backOf (W := 0) (rm9 l Z a0 hw [] b10 b2_0 la187 b11_0 k11_0 (own_upd (fun _ => .null) z0 (.ref b1_0)) b11_1 k11_1 (own_upd (fun _ => .null) z0 .null) b11_2 k11_2 (own_upd (fun _ => (.int z0)) z0 (.int (z0 + (p3 &&& z2047)))) b11_3 (.int z1) (z0 + (p3 &&& z2047)) h187 n0 (by omega) Y190 Y191 Y192 Y193 Y194 Y195 Y196 Y197 Y198 Y199 Y200 Y201 Y11_5 Y11_7 (neN (by omega)) (neN (by omega)) (neN (by omega)) (neN (by omega)) (neN (by omega)) (neN (by omega)) Y202 Ea187 (by omega) (by omega) (by omega) (by omega)) hZ (ow hw 70 rfl) (ow hw 29 rfl) (by decide) (by decide)) q189a q189c (g := (mkF m 153 #[sI p0, sI p1, sI p2, sI p3, sI p4, sI p5, sR b1_0, sR b2_0, sR b4, sR b7, .val (.int (p3 &&& z2047)), .val (.int (((p5.toUInt32 >>> (z16 &&& 31).toUInt32).toInt32) - ((p5.toUInt32 >>> (z16 &&& 31).toUInt32).toInt32) / z3 * z3)), sR b10, sU, sU, sU] [(.ref la187), (.ref b2_0), (.ref b10)])) rfl (by rw [hml]; rfl) (Steps.refl _) (argsL := [(.ref b2_0), (.ref la187)]) (rest := []) (lenOf pd0_2 rfl) rfl (le0 rfl) (hb hby at_153) (fun vm₁ hvm => ⟨rfl, e187, (by decide : 13 + 0 ≤ _), (by decide : 3148 + 0 ≤ _)⟩)
        dsimp only [Pt.U, Pt.locs, Pt.cells, Pt.slots] at X189 l189 y189 z189 st189 hQ189
        subst l189 y189 z189
        obtain ⟨rfl, N189q, K189, KF189, Y189_0, Y189_1, Y189_2, Y189_3, Y189_4, Y189_5, Y189_6, Y189_7, Y189_8, Y189_9, Y189_10⟩ := hQ189
        have sz189 : h187.size ≤ T189.heap.size := K189.1
        have N189 := Fr.app N157 N189q
        refine GoW.trans st189 ?_
        refine GoW.pre (st' := T189.setTop (mkF m 158 #[sI p0, sI p1, sI p2, sI p3, sI p4, sI p5, sR b1_0, sR b2_0, sR b4, sR b7, .val (.int (p3 &&& z2047)), .val (.int (((p5.toUInt32 >>> (z16 &&& 31).toUInt32).toInt32) - ((p5.toUInt32 >>> (z16 &&& 31).toUInt32).toInt32) / z3 * z3)), sR b10, sU, sU, sU] [(.ref b10)])) (fun target kt => ?_) ?_
        · refine XS.aload X189.here hx rfl (hb hby at_156) rfl rfl ?_
          exact kt
        have Y204 := (Y190.keep K189)
        have Y205 := ((Y157_0.ext E187).keep K189 (ninS (neN (by omega)) (ninS (neN (by omega)) (ninS (neN (by omega)) (ninS (neN (by omega)) nin0)))))
        obtain ⟨cq203, kq203, q203a, q203b, q203c⟩ := isOf hZ rfl Y204
        obtain ⟨_, _, ⟨T203, L203, k203, n203⟩, -, X203, ⟨Lc203, hQ203, l203, y203, z203⟩, st203⟩ := X189.virtualBack hx (y := (⟨cA, "clear", "()V"⟩ : MethodName)) (z := (⟨cA, "clear", "()V"⟩ : MethodName)) hown (mvT hZ (ow hw 71 rfl)) (mvT hZ (ow hw 72 rfl)) (notFace_of_selects (args := #[]) (mvT hZ (ow hw 74 rfl))) (mvT hZ (ow hw 74 rfl)) (mvT hZ (ow hw 73 rfl)) (by decide) (backOf (W := 0) (rm10_1024 l Z a0 hw [] b10 b11_0 k11_0 (own_upd (own_upd (fun _ => .null) z0 (.ref b1_0)) z1 (.ref b2_0)) b11_1 k11_1 (own_upd (own_upd (fun _ => .null) z0 .null) z1 (.ref la187)) b11_2 k11_2 (own_upd (own_upd (fun _ => (.int z0)) z0 (.int (z0 + (p3 &&& z2047)))) z1 (.int (z0 + (p3 &&& z2047)))) b11_3 k11_3 (own_cp (own_upd (own_upd (fun _ => (.int z0)) z0 (.int (nar .char ((p4 &&& z255).toUInt32.toUInt16.toUInt32.toInt32)))) z2047 (.int (nar .char ((((p4.toUInt32 >>> ((8 : Int32) &&& 31).toUInt32).toInt32) &&& z255).toUInt32.toUInt16.toUInt32.toInt32)))) (fun _ => (.int z0)) (p3 &&& z2047)) (.int z2) (.int z1) (.int (z0 + (p3 &&& z2047))) T189.heap n0 (by omega) Y204 Y189_3 Y189_4 Y189_5 Y189_6 Y189_7 Y189_0 Y189_8 Y189_1 Y189_9 Y189_2 Y189_10 Y205 Y11_5 Y11_7 (neN (by omega)) (neN (by omega)) (neN (by omega)) (neN (by omega)) (neN (by omega)) (neN (by omega)) (neN (by omega)) (neN (by omega)) (neN (by omega)) (neN (by omega)) (by omega)) hZ (ow hw 75 rfl) (ow hw 29 rfl) (by decide) (by decide)) q203a q203c (g := (mkF m 158 #[sI p0, sI p1, sI p2, sI p3, sI p4, sI p5, sR b1_0, sR b2_0, sR b4, sR b7, .val (.int (p3 &&& z2047)), .val (.int (((p5.toUInt32 >>> (z16 &&& 31).toUInt32).toInt32) - ((p5.toUInt32 >>> (z16 &&& 31).toUInt32).toInt32) / z3 * z3)), sR b10, sU, sU, sU] [(.ref b10)])) rfl (by rw [hml]; rfl) (Steps.refl _) (argsL := []) (rest := []) (lenOf pd0_1 rfl) rfl (le0 rfl) (hb hby at_158) (fun vm₁ hvm => ⟨rfl, rfl, (by decide : 13 + 0 ≤ _), (by decide : 3148 + 0 ≤ _)⟩)
        dsimp only [Pt.U, Pt.locs, Pt.cells, Pt.slots] at X203 l203 y203 z203 st203 hQ203
        subst l203 y203 z203
        obtain ⟨rfl, N203q, K203, KF203, Y203_0, Y203_1, Y203_2, Y203_3, Y203_4, Y203_5, Y203_6, Y203_7⟩ := hQ203
        have sz203 : T189.heap.size ≤ T203.heap.size := K203.1
        have N203 := Fr.app N189 N203q
        refine GoW.trans st203 ?_
        have Y206 := (((Y188.ext E187).keep K189 (allS (by omega) (allS (by omega) (allS (by omega) (allS (by omega) all0))))).keep K203 (allS (by omega) all0))
        have Y207 := ((((Y164.keep K157).ext E187).keep K189).keep K203)
        have Y208 := (((((((((((((Y1_4.keep K2 nin0).ext E4).other W5 (Or.inl (neN (by omega)))).other W6 (Or.inl (neN (by omega)))).ext E7).other W8 (Or.inl (neN (by omega)))).other W9 (Or.inl (neN (by omega)))).ext E10).keep K11 (ninS (neN (by omega)) nin0)).keep K157 (ninS (neN (by omega)) (ninS (neN (by omega)) (ninS (neN (by omega)) (ninS (neN (by omega)) (ninS (neN (by omega)) nin0)))))).ext E187).keep K189 (ninS (neN (by omega)) (ninS (neN (by omega)) (ninS (neN (by omega)) (ninS (neN (by omega)) nin0))))).keep K203 (ninS (neN (by omega)) nin0))
        have Y209 := (((((((((((((Y1_3.keep K2 nin0).ext E4).other W5 (Or.inl (neN (by omega)))).other W6 (Or.inl (neN (by omega)))).ext E7).other W8 (Or.inl (neN (by omega)))).other W9 (Or.inl (neN (by omega)))).ext E10).keep K11 (ninS (neN (by omega)) nin0)).keep K157 (ninS (neN (by omega)) (ninS (neN (by omega)) (ninS (neN (by omega)) (ninS (neN (by omega)) (ninS (neN (by omega)) nin0)))))).ext E187).keep K189 (ninS (neN (by omega)) (ninS (neN (by omega)) (ninS (neN (by omega)) (ninS (neN (by omega)) nin0))))).keep K203 (ninS (neN (by omega)) nin0))
        have Y210 := (((((((((((((Y1_5.keep K2 nin0).ext E4).other W5 (neN (by omega))).other W6 (neN (by omega))).ext E7).other W8 (neN (by omega))).other W9 (neN (by omega))).ext E10).keep K11 (ninS (neN (by omega)) nin0)).keep K157 (ninS (neN (by omega)) (ninS (neN (by omega)) (ninS (neN (by omega)) (ninS (neN (by omega)) (ninS (neN (by omega)) nin0)))))).ext E187).keep K189 (ninS (neN (by omega)) (ninS (neN (by omega)) (ninS (neN (by omega)) (ninS (neN (by omega)) nin0))))).keep K203 (ninS (neN (by omega)) nin0))
        have Y211 := (((((((((((((Y1_1.keep K2 nin0).ext E4).other W5 (Or.inl (neN (by omega)))).other W6 (Or.inl (neN (by omega)))).ext E7).other W8 (Or.inl (neN (by omega)))).other W9 (Or.inl (neN (by omega)))).ext E10).keep K11 (ninS (neN (by omega)) nin0)).keep K157 (ninS (neN (by omega)) (ninS (neN (by omega)) (ninS (neN (by omega)) (ninS (neN (by omega)) (ninS (neN (by omega)) nin0)))))).ext E187).keep K189 (ninS (neN (by omega)) (ninS (neN (by omega)) (ninS (neN (by omega)) (ninS (neN (by omega)) nin0))))).keep K203 (ninS (neN (by omega)) nin0))
        have Y212 := (((((((((((((Y1_2.keep K2 nin0).ext E4).other W5 (Or.inl (neN (by omega)))).other W6 (Or.inl (neN (by omega)))).ext E7).other W8 (Or.inl (neN (by omega)))).other W9 (Or.inl (neN (by omega)))).ext E10).keep K11 (ninS (neN (by omega)) nin0)).keep K157 (ninS (neN (by omega)) (ninS (neN (by omega)) (ninS (neN (by omega)) (ninS (neN (by omega)) (ninS (neN (by omega)) nin0)))))).ext E187).keep K189 (ninS (neN (by omega)) (ninS (neN (by omega)) (ninS (neN (by omega)) (ninS (neN (by omega)) nin0))))).keep K203 (ninS (neN (by omega)) nin0))
        have Y213 := ((Y202.keep K189).keep K203)
        have Y214 := ((((((((((((Y2_4.ext E4).other W5 (Or.inl (neN (by omega)))).other W6 (Or.inl (neN (by omega)))).ext E7).other W8 (Or.inl (neN (by omega)))).other W9 (Or.inl (neN (by omega)))).ext E10).keep K11 (ninS (neN (by omega)) nin0)).keep K157 (ninS (neN (by omega)) (ninS (neN (by omega)) (ninS (neN (by omega)) (ninS (neN (by omega)) (ninS (neN (by omega)) nin0)))))).ext E187).keep K189 (ninS (neN (by omega)) (ninS (neN (by omega)) (ninS (neN (by omega)) (ninS (neN (by omega)) nin0))))).keep K203 (ninS (neN (by omega)) nin0))
        have Y215 := ((((((((((((Y2_3.ext E4).other W5 (Or.inl (neN (by omega)))).other W6 (Or.inl (neN (by omega)))).ext E7).other W8 (Or.inl (neN (by omega)))).other W9 (Or.inl (neN (by omega)))).ext E10).keep K11 (ninS (neN (by omega)) nin0)).keep K157 (ninS (neN (by omega)) (ninS (neN (by omega)) (ninS (neN (by omega)) (ninS (neN (by omega)) (ninS (neN (by omega)) nin0)))))).ext E187).keep K189 (ninS (neN (by omega)) (ninS (neN (by omega)) (ninS (neN (by omega)) (ninS (neN (by omega)) nin0))))).keep K203 (ninS (neN (by omega)) nin0))
        have Y216 := ((((((((((((Y2_5.ext E4).other W5 (neN (by omega))).other W6 (neN (by omega))).ext E7).other W8 (neN (by omega))).other W9 (neN (by omega))).ext E10).keep K11 (ninS (neN (by omega)) nin0)).keep K157 (ninS (neN (by omega)) (ninS (neN (by omega)) (ninS (neN (by omega)) (ninS (neN (by omega)) (ninS (neN (by omega)) nin0)))))).ext E187).keep K189 (ninS (neN (by omega)) (ninS (neN (by omega)) (ninS (neN (by omega)) (ninS (neN (by omega)) nin0))))).keep K203 (ninS (neN (by omega)) nin0))
        have Y217 := ((((((((((((Y2_1.ext E4).other W5 (Or.inl (neN (by omega)))).other W6 (Or.inl (neN (by omega)))).ext E7).other W8 (Or.inl (neN (by omega)))).other W9 (Or.inl (neN (by omega)))).ext E10).keep K11 (ninS (neN (by omega)) nin0)).keep K157 (ninS (neN (by omega)) (ninS (neN (by omega)) (ninS (neN (by omega)) (ninS (neN (by omega)) (ninS (neN (by omega)) nin0)))))).ext E187).keep K189 (ninS (neN (by omega)) (ninS (neN (by omega)) (ninS (neN (by omega)) (ninS (neN (by omega)) nin0))))).keep K203 (ninS (neN (by omega)) nin0))
        have Y218 := ((((((((((((Y2_2.ext E4).other W5 (Or.inl (neN (by omega)))).other W6 (Or.inl (neN (by omega)))).ext E7).other W8 (Or.inl (neN (by omega)))).other W9 (Or.inl (neN (by omega)))).ext E10).keep K11 (ninS (neN (by omega)) nin0)).keep K157 (ninS (neN (by omega)) (ninS (neN (by omega)) (ninS (neN (by omega)) (ninS (neN (by omega)) (ninS (neN (by omega)) nin0)))))).ext E187).keep K189 (ninS (neN (by omega)) (ninS (neN (by omega)) (ninS (neN (by omega)) (ninS (neN (by omega)) nin0))))).keep K203 (ninS (neN (by omega)) nin0))
        have Y219 := ((((((V9.ext E10).keep K11 (ninS (neN (by omega)) nin0)).keep K157 (ninS (neN (by omega)) (ninS (neN (by omega)) (ninS (neN (by omega)) (ninS (neN (by omega)) (ninS (neN (by omega)) nin0)))))).ext E187).keep K189 (ninS (neN (by omega)) (ninS (neN (by omega)) (ninS (neN (by omega)) (ninS (neN (by omega)) nin0))))).keep K203 (ninS (neN (by omega)) nin0))
        have Y220 := (Y204.keep K203)
        have Y221 := (Y189_0.keep K203 (ninS (neN (by omega)) nin0))
        have Y222 := (Y189_1.keep K203 (ninS (neN (by omega)) nin0))
        have Y223 := (Y189_2.keep K203 (ninS (neN (by omega)) nin0))
        have Y224 := (Y205.keep K203 (ninS (neN (by omega)) nin0))
        exact blk161 ⟨hx, hZ, hby, hml, hown, hrt, hlk⟩ hw hS (by omega) (IB.sup hI (by simp)) hnS hkp (padS X203 (by decide) (by decide)) rfl N203 p0 p1 p2 p3 p4 p5 b1_0 b2_0 b4 b7 (p3 &&& z2047) (((p5.toUInt32 >>> (z16 &&& 31).toUInt32).toInt32) - ((p5.toUInt32 >>> (z16 &&& 31).toUInt32).toInt32) / z3 * z3) b10 zc zf (nar .byte z0) b1_1 k1_0 (nar .byte (((p0 &&& z255).toUInt32.toUInt16.toUInt32.toInt32).toInt8.toInt32)) (nar .byte z0) b2_1 k2_0 (nar .byte (((p1 &&& z255).toUInt32.toUInt16.toUInt32.toInt32).toInt8.toInt32)) k7 (nar .char ((p5 &&& z255).toUInt32.toUInt16.toUInt32.toInt32)) (nar .char ((((p5.toUInt32 >>> ((8 : Int32) &&& 31).toUInt32).toInt32) &&& z255).toUInt32.toUInt16.toUInt32.toInt32)) b11_0 k11_0 (own_upd (own_upd (fun _ => .null) z0 (.ref b1_0)) z1 (.ref b2_0)) b11_1 k11_1 (own_upd (own_upd (fun _ => .null) z0 .null) z1 (.ref la187)) b11_2 k11_2 (own_upd (own_upd (fun _ => (.int z0)) z0 (.int (z0 + (p3 &&& z2047)))) z1 (.int (z0 + (p3 &&& z2047)))) b11_3 k11_3 (own_cp (own_upd (own_upd (fun _ => (.int z0)) z0 (.int (nar .char ((p4 &&& z255).toUInt32.toUInt16.toUInt32.toInt32)))) z2047 (.int (nar .char ((((p4.toUInt32 >>> ((8 : Int32) &&& 31).toUInt32).toInt32) &&& z255).toUInt32.toUInt16.toUInt32.toInt32)))) (fun _ => (.int z0)) (p3 &&& z2047)) (by omega) S_COMPACT hcs S_F hv_zf hcw hheld Y206 Y207 Y208 Y209 Y210 Y211 Y212 Y213 Y214 Y215 Y216 Y217 Y218 (by decide) (by decide) (own_b255 _ _) Y219 (own_c255n _) (own_c255n _) Y220 Y203_0 Y203_1 Y203_2 Y203_3 Y203_4 Y221 Y203_5 Y222 Y203_6 Y223 Y203_7 Y224 Y11_5 Y11_7 (neN (by omega)) (neN (by omega)) (neN (by omega)) (neN (by omega)) (neN (by omega)) (neN (by omega)) (neN (by omega)) (neN (by omega)) (neN (by omega)) (neN (by omega)) (neN (by omega)) (neN (by omega)) (neN (by omega)) (neN (by omega)) (neN (by omega)) (neN (by omega)) (neN (by omega)) (neN (by omega)) (neN (by omega)) (neN (by omega)) (neN (by omega)) (neN (by omega)) (neN (by omega)) (neN (by omega)) (neN (by omega)) (neN (by omega)) (neN (by omega)) (neN (by omega)) (neN (by omega)) (neN (by omega)) (neN (by omega)) (neN (by omega)) (neN (by omega)) (neN (by omega)) (neN (by omega)) (neN (by omega)) (neN (by omega)) (neN (by omega)) (neN (by omega)) (neN (by omega)) (neN (by omega)) (neN (by omega)) (by omega) (by omega) (by omega) (by omega) (by omega) (by omega) (by omega) (own_rem3 _)
theorem own_cs {Z : State} {args : Array Value} {t : Term} {x : Int32} (ev : t.eval args Z none [] Z = some (.int x)) (h : (Cond.not (.eq t (.int 0))).value args Z none Z [] = some true) : ¬ x = (0 : Int32) := by
  have q := not_v h
  intro e; subst e
  rw [eq_i ev (Term.int_eval _) rfl] at q
  cases q
theorem own_isref {Z : State} {args : Array Value} {t : Term} (h : (Cond.isRef t).value args Z none Z [] = some true) : ∃ v, t.eval args Z none [] Z = some v ∧ v.isRef = true := by
  simp only [Cond.value] at h
  cases q : t.eval args Z none [] Z with
  | none => rw [q] at h; simp at h
  | some v => exact ⟨v, rfl, by rw [q] at h; cases v <;> simp_all [Value.isRef]⟩
theorem comes_1 {Post : Tables → Env → Array Value → State → Outcome → State → Prop} (hpost : ∀ tb e args s v u, (limb_1_1.after args s (.returned v) u = true ∧ limb_1_2.after args s (.returned v) u = true ∧ True) → ReturnedEndW s (.returned v) u (Jvm.fieldLocs frame_1_writes args s ++ Jvm.arrayLocs frame_1_arrays args s ++ Jvm.staticLocs frame_1_statics s) 56 16640 → Post tb e args s (.returned v) u) :
    ArmFor flags0 classFile x code maxLocals ret World_1 tables_1 room_1 Calls_1 rest_1 Pre_1 Post := by
  intro l hfl _ _ p e ha hc hk s m args below hf hA hF happ hP
  obtain ⟨hcalls, hrest, hpre⟩ := hP
  obtain ⟨-, -, -, hnamed, -, -, -, hat⟩ := (Spec.applies_iff hf).mp happ
  obtain ⟨hg, hn⟩ := and_e (Cond.before_iff.mp (show (Jvm.Cond.and given_1 narrow_1).before args s = true from hpre))
  obtain ⟨g0, hg1⟩ := and_e hg
  obtain ⟨g1, hg2⟩ := and_e hg1
  obtain ⟨g2, hg3⟩ := and_e hg2
  obtain ⟨g3, hg4⟩ := and_e hg3
  obtain ⟨g4, hg5⟩ := and_e hg4
  obtain ⟨g5, hg6⟩ := and_e hg5
  obtain ⟨w0, w1, w2, w3, w4, w5, rfl⟩ : ∃ w0 w1 w2 w3 w4 w5 : Value, args = #[w0, w1, w2, w3, w4, w5] := by
    have hs : args.size = 6 := by simpa [Cond.value, given_1] using g0
    obtain ⟨L⟩ := args
    match L, hs with
    | [w0, w1, w2, w3, w4, w5], _ => exact ⟨w0, w1, w2, w3, w4, w5, rfl⟩
  have hw := fun d (hd : d ∈ tables_1) => atoms_spec (ws := Jvm.Cond.code x code maxLocals ret :: tables_1) hat d (List.mem_cons_of_mem _ hd)
  obtain ⟨i0, ei0⟩ := is_v g1
  obtain rfl : w0 = (.int i0) := Option.some.inj ei0
  obtain ⟨i1, ei1⟩ := is_v g2
  obtain rfl : w1 = (.int i1) := Option.some.inj ei1
  obtain ⟨i2, ei2⟩ := is_v g3
  obtain rfl : w2 = (.int i2) := Option.some.inj ei2
  obtain ⟨i3, ei3⟩ := is_v g4
  obtain rfl : w3 = (.int i3) := Option.some.inj ei3
  obtain ⟨i4, ei4⟩ := is_v g5
  obtain rfl : w4 = (.int i4) := Option.some.inj ei4
  obtain ⟨i5, ei5⟩ := is_v hg6
  obtain rfl : w5 = (.int i5) := Option.some.inj ei5
  obtain ⟨hsets, hown0⟩ := atoms_of _ (rest_1_c_eq ▸ (show rest_1_c.before _ s = true from hrest))
  obtain ⟨vC, evC⟩ := is_v (Cond.before_iff.mp (hsets _ (List.mem_of_getElem? (i := 1) rfl)))
  have S_C := Sta.start evC (Or.inl (hsets _ (List.mem_of_getElem? (i := 0) rfl)))
  have hcs := own_cs evC (Cond.before_iff.mp (hsets _ (List.mem_of_getElem? (i := 2) rfl)))
  obtain ⟨vF, evF, hvF⟩ := own_isref (Cond.before_iff.mp (hsets _ (List.mem_of_getElem? (i := 8) rfl)))
  have S_F := Sta.start evF (Or.inl (hsets _ (List.mem_of_getElem? (i := 7) rfl)))
  have hheld : ∀ q ∈ consts_1, Jvm.Lit.constHeld s q.1 q.2 := fun q hq => hcalls.1 q hq
  obtain ⟨n, o, h1, h2, h3, _, L, rfl, ⟨rfl, N⟩, hq⟩ := rm0 l s _ hw tables_1 i0 i1 i2 i3 i4 i5 vC vF s.heap s.heap.size (Nat.le_refl _) S_C hcs S_F hvF (hsets _ (List.mem_of_getElem? (i := 2) rfl)) hheld (Old.start s) rfl p e ha hc hk s m _ below hf ((Spec.applies_iff_loose hf).mp happ).1 ⟨rfl, State.Warmed39.refl s, rfl, IB.start⟩ trivial
  refine ⟨n, _, h1, h2, h3, hpost _ _ _ _ _ _ ⟨Cond.after_iff.mpr rfl, Cond.after_iff.mpr (eq_i res_at (Term.int_eval (1)) rfl), trivial⟩ ⟨hq.1, hq.2.1, hq.2.2.1, (hq.2.2.2.sift fun y hy => Or.inr (N y hy)).mono (by decide) (by decide)⟩⟩
theorem main_1_1 : Claimed_1_1 := comes_1 fun _ _ _ _ _ _ h hF => ⟨h.1, hF⟩
theorem main_1_2 : Claimed_1_2 := comes_1 fun _ _ _ _ _ _ h hF => ⟨h.2.1, hF⟩
end Jvm.Pilot.@@N@@
namespace Jvm.Pilot.@@N@@
open Jvm Jvm.ClassFile Sem Op Lib Jvm.Free Jvm.Stand Jvm.Pilot.@@N@@.Jvm.D
/-! MADE BY PROGRAM (witnessworld.py) out of the Statement's table words and the real class files: 24 classes; the members and pool entries that the words name. The judged class is class 1, her method 1. -/
namespace start1
open Jvm.ClassFile
def u (s : String) : CpInfo := .utf8 (stringToUtf16 s)
/-- a pool by its gaps: so many unusable entries, then the entry; so many at the end -/
def gap : Nat → List CpInfo → List CpInfo
  | 0, r => r
  | n + 1, r => .unusable :: gap n r
def poolList (es : List (Nat × CpInfo)) (last : Nat) : List CpInfo := es.foldr (fun e r => gap e.1 (e.2 :: r)) (gap last [])
def pool (es : List (Nat × CpInfo)) (last : Nat) : Array CpInfo := ⟨poolList es last⟩
def fileOf (pool : Array CpInfo) (this : Nat) (attrs : Array Attribute := #[]) (ms : Array MethodInfo := #[]) (fl : Nat := 33) (sup : Nat := 0) (ifs : Array Nat := #[]) (fds : Array FieldInfo := #[]) : ClassFile where
  minorVersion := 0
  majorVersion := 65
  constantPool := pool
  accessFlags := fl
  thisClass := this
  superClass := sup
  interfaces := ifs
  fields := fds
  methods := ms
  attributes := attrs
def plain (name : String) (sup : Option ClassId) : Class where
  name := name
  kind := .ordinary
  loader := none
  accessFlags := 33
  super := sup
  interfaces := #[]
  cf := none
  fields := #[]
  methods := #[]
  instanceTypes := #[]
  staticTypes := #[]
  resolved := #[]
  callSites := []
  init := .initialized
  statics := none
  mirror := none

def pool0 : Array CpInfo := pool [(5, u "<init>"), (0, u "()V"), (1, .class_ 10), (1, u "java/lang/Object")] 113

def k0c0 : Code := { maxStack := 0, maxLocals := 1, code := object_method_1_code, exceptionTable := #[], attributes := #[] }
def k0m0 : Method := { name := "<init>", desc := "()V", sig := { parameters := [], returnType := none }, accessFlags := 1, code := some k0c0 }
/-- java/lang/Object -/
def k0 : Class := { plain "java/lang/Object" none with
  accessFlags := 33
  interfaces := #[]
  cf := some (fileOf pool0 8 #[] #[{ accessFlags := 1, nameIndex := 5, descriptorIndex := 6, attributes := #[] }] 33 0 #[] #[])
  fields := #[]
  methods := #[k0m0]
  instanceTypes := #[]
  staticTypes := #[]
  resolved := Array.replicate 124 none
  statics := none }

def pool1 : Array CpInfo := pool [(2, .class_ 4), (0, .nameAndType 5 6), (0, u "java/lang/Object"), (0, u "<init>"), (0, u "()V"), (0, .methodref 8 9), (0, .class_ 10), (0, .nameAndType 11 12), (0, u "java/lang/String"), (0, u "valueOf"), (0, u "(C)Ljava/lang/String;"), (0, .class_ 14), (0, u "com/example/satzung/satzung/parse/Attributes"), (0, .methodref 13 3), (0, .methodref 13 17), (0, .nameAndType 18 19), (0, u "add"), (0, u "(Ljava/lang/String;[CII)V"), (0, .string 21), (0, u "v"), (0, .methodref 13 23), (0, .nameAndType 18 24), (0, u "(Ljava/lang/String;Ljava/lang/String;)V"), (0, .string 26), (0, u "w"), (0, .methodref 13 28), (0, .nameAndType 29 24), (0, u "addDefault"), (0, .methodref 13 31), (0, .nameAndType 32 6), (0, u "clear"), (0, .methodref 13 34), (0, .nameAndType 35 36), (0, u "size"), (0, u "()I"), (0, .methodref 13 38), (0, .nameAndType 39 36), (0, u "specified"), (0, .string 41), (0, u ""), (0, .methodref 8 43), (0, .nameAndType 5 44), (0, u "([C)V"), (0, .methodref 8 46), (0, .nameAndType 47 48), (0, u "equals"), (0, u "(Ljava/lang/Object;)Z"), (0, .methodref 13 50), (0, .nameAndType 51 52), (0, u "value"), (0, u "(I)Ljava/lang/String;"), (0, .methodref 13 54), (0, .nameAndType 55 56), (0, u "indexOf"), (0, u "(Ljava/lang/String;)I"), (0, .class_ 58), (0, u "com/example/satzung/satzung/parse/AttributesClearPinLaw"), (2, u "law"), (0, u "(IIIIII)Z")] 5

def k1m0 : Method := { name := "<init>", desc := "()V", sig := { parameters := [], returnType := none }, accessFlags := 1, code := none }
def k1c1 : Code := { maxStack := 5, maxLocals := 16, code := code, exceptionTable := #[], attributes := #[] }
def k1m1 : Method := { name := "law", desc := "(IIIIII)Z", sig := { parameters := [.int, .int, .int, .int, .int, .int], returnType := some .boolean }, accessFlags := 9, code := some k1c1 }
/-- com/example/satzung/satzung/parse/AttributesClearPinLaw -/
def k1 : Class := { plain "com/example/satzung/satzung/parse/AttributesClearPinLaw" (some 0) with
  accessFlags := 49
  interfaces := #[]
  cf := some (fileOf pool1 57 #[] #[{ accessFlags := 1, nameIndex := 5, descriptorIndex := 6, attributes := #[] }, { accessFlags := 9, nameIndex := 61, descriptorIndex := 62, attributes := #[] }] 49 2 #[] #[])
  fields := #[]
  methods := #[k1m0, k1m1]
  instanceTypes := #[]
  staticTypes := #[]
  resolved := Array.replicate 68 none
  statics := none }

def pool2 : Array CpInfo := pool [(1, .class_ 2), (0, u "java/io/Serializable"), (0, .class_ 4), (0, u "java/lang/Object")] 2

/-- java/io/Serializable -/
def k2 : Class := { plain "java/io/Serializable" (some 0) with
  accessFlags := 1537
  interfaces := #[]
  cf := some (fileOf pool2 1 #[] #[] 1537 3 #[] #[])
  fields := #[]
  methods := #[]
  instanceTypes := #[]
  staticTypes := #[]
  resolved := Array.replicate 7 none
  statics := none }

def pool3 : Array CpInfo := pool [(1, .class_ 2), (0, u "java/lang/Comparable"), (0, .class_ 4), (0, u "java/lang/Object")] 7

/-- java/lang/Comparable -/
def k3 : Class := { plain "java/lang/Comparable" (some 0) with
  accessFlags := 1537
  interfaces := #[]
  cf := some (fileOf pool3 1 #[] #[] 1537 3 #[] #[])
  fields := #[]
  methods := #[]
  instanceTypes := #[]
  staticTypes := #[]
  resolved := Array.replicate 12 none
  statics := none }

def pool4 : Array CpInfo := pool [(2, .class_ 4), (1, u "java/lang/CharSequence"), (42, .class_ 48), (0, u "java/lang/CharSequence$1CodePointIterator"), (10, .class_ 60), (0, u "java/lang/CharSequence$1CharIterator"), (5, .class_ 67), (0, u "java/lang/Object")] 63

/-- java/lang/CharSequence -/
def k4 : Class := { plain "java/lang/CharSequence" (some 0) with
  accessFlags := 1537
  interfaces := #[]
  cf := some (fileOf pool4 2 #[.nestMembers #[47, 59]] #[] 1537 66 #[] #[])
  fields := #[]
  methods := #[]
  instanceTypes := #[]
  staticTypes := #[]
  resolved := Array.replicate 131 none
  statics := none }

def pool5 : Array CpInfo := pool [(1, .class_ 2), (0, u "java/lang/constant/Constable"), (0, .class_ 4), (0, u "java/lang/Object")] 6

/-- java/lang/constant/Constable -/
def k5 : Class := { plain "java/lang/constant/Constable" (some 0) with
  accessFlags := 1537
  interfaces := #[]
  cf := some (fileOf pool5 1 #[] #[] 1537 3 #[] #[])
  fields := #[]
  methods := #[]
  instanceTypes := #[]
  staticTypes := #[]
  resolved := Array.replicate 11 none
  statics := none }

def pool6 : Array CpInfo := pool [(1, .class_ 2), (0, u "java/lang/constant/ConstantDesc"), (0, .class_ 4), (0, u "java/lang/Object")] 32

/-- java/lang/constant/ConstantDesc -/
def k6 : Class := { plain "java/lang/constant/ConstantDesc" (some 0) with
  accessFlags := 1537
  interfaces := #[]
  cf := some (fileOf pool6 1 #[] #[] 1537 3 #[] #[])
  fields := #[]
  methods := #[]
  instanceTypes := #[]
  staticTypes := #[]
  resolved := Array.replicate 37 none
  statics := none }

def pool7 : Array CpInfo := pool [(1, .methodref 2 3), (0, .class_ 4), (0, .nameAndType 5 6), (0, u "java/lang/Object"), (0, u "<init>"), (0, u "()V"), (0, .string 8), (0, u ""), (0, .fieldref 10 11), (0, .class_ 12), (0, .nameAndType 13 14), (0, u "java/lang/String"), (0, u "value"), (0, u "[B"), (0, .fieldref 10 16), (0, .nameAndType 17 18), (0, u "coder"), (0, u "B"), (0, .fieldref 10 20), (0, .nameAndType 21 22), (0, u "hash"), (0, u "I"), (0, .fieldref 10 24), (0, .nameAndType 25 26), (0, u "hashIsZero"), (0, u "Z"), (0, .methodref 10 28), (0, .nameAndType 5 29), (0, u "([CIILjava/lang/Void;)V"), (0, .methodref 10 31), (0, .nameAndType 32 33), (0, u "rangeCheck"), (0, u "([CII)Ljava/lang/Void;"), (0, .methodref 10 35), (0, .nameAndType 36 37), (0, u "checkBoundsOffCount"), (0, u "(III)I"), (0, .fieldref 10 39), (0, .nameAndType 40 26), (0, u "COMPACT_STRINGS"), (1, .class_ 44), (1, u "java/lang/StringUTF16"), (0, u "compress"), (1, .methodref 42 48), (0, .nameAndType 49 50), (0, u "coderFromArrayLen"), (0, u "([BI)B"), (2, u "toBytes"), (53, .class_ 109), (1, u "java/lang/StringLatin1"), (32, u "()Z"), (34, .methodref 42 178), (0, .nameAndType 45 179), (0, u "([CII)[B"), (29, .methodref 10 210), (0, .nameAndType 5 211), (0, u "([BB)V"), (122, u "()I"), (34, u "(C)Z"), (122, .methodref 10 493), (0, .nameAndType 494 142), (0, u "isLatin1"), (46, .methodref 107 542), (0, .nameAndType 543 544), (0, u "equals"), (0, u "([B[B)Z"), (28, u "(Ljava/lang/Object;)Z"), (1, .class_ 576), (0, u "java/lang/CharSequence"), (22, u "CASE_INSENSITIVE_ORDER"), (0, u "Ljava/util/Comparator;"), (27, .methodref 107 629), (0, .nameAndType 630 631), (0, u "hashCode"), (0, u "([B)I"), (150, u "valueOf"), (0, u "(C)Ljava/lang/String;"), (188, u "([CII)V"), (37, u "([C)V"), (4, .methodref 107 1016), (0, .nameAndType 1017 369), (0, u "canEncode"), (0, .methodref 107 1019), (0, .nameAndType 53 1020), (0, u "(C)[B"), (32, .fieldref 1054 1055), (0, .class_ 1056), (0, .nameAndType 1057 1058), (0, u "jdk/internal/util/Preconditions"), (0, u "SIOOBE_FORMATTER"), (0, u "Ljava/util/function/BiFunction;"), (5, u "(IIILjava/util/function/BiFunction;)I"), (0, .methodref 1054 1066), (0, .nameAndType 1067 1064), (0, u "checkFromIndexSize"), (33, u "serialPersistentFields"), (0, u "[Ljava/io/ObjectStreamField;"), (0, .class_ 1104), (0, u "java/lang/String$CaseInsensitiveComparator"), (1, .class_ 1107), (0, u "java/io/Serializable"), (0, .class_ 1109), (0, u "java/lang/Comparable"), (0, .class_ 1111), (0, u "java/lang/constant/Constable"), (0, .class_ 1113), (0, u "java/lang/constant/ConstantDesc"), (2, u "serialVersionUID"), (0, u "J"), (3, u "REPL"), (0, u "C"), (2, u "LATIN1"), (1, u "UTF16")] 323

def k7m0 : Method := { name := "<init>", desc := "()V", sig := { parameters := [], returnType := none }, accessFlags := 1, code := none }
def k7c1 : Code := { maxStack := 5, maxLocals := 2, code := jdk_42_method_3_code, exceptionTable := #[], attributes := #[] }
def k7m1 : Method := { name := "<init>", desc := "([C)V", sig := { parameters := [(.array .char)], returnType := none }, accessFlags := 1, code := some k7c1 }
def k7c2 : Code := { maxStack := 7, maxLocals := 4, code := jdk_42_method_4_code, exceptionTable := #[], attributes := #[] }
def k7m2 : Method := { name := "<init>", desc := "([CII)V", sig := { parameters := [(.array .char), .int, .int], returnType := none }, accessFlags := 1, code := some k7c2 }
def k7c3 : Code := { maxStack := 3, maxLocals := 3, code := jdk_42_method_5_code, exceptionTable := #[], attributes := #[] }
def k7m3 : Method := { name := "rangeCheck", desc := "([CII)Ljava/lang/Void;", sig := { parameters := [(.array .char), .int, .int], returnType := some (.object "java/lang/Void") }, accessFlags := 10, code := some k7c3 }
def k7c4 : Code := { maxStack := 2, maxLocals := 3, code := jdk_42_method_66_code, exceptionTable := #[], attributes := #[] }
def k7m4 : Method := { name := "equals", desc := "(Ljava/lang/Object;)Z", sig := { parameters := [(.object "java/lang/Object")], returnType := some .boolean }, accessFlags := 1, code := some k7c4 }
def k7c5 : Code := { maxStack := 2, maxLocals := 2, code := jdk_42_method_78_code, exceptionTable := #[], attributes := #[] }
def k7m5 : Method := { name := "hashCode", desc := "()I", sig := { parameters := [], returnType := some .int }, accessFlags := 1, code := some k7c5 }
def k7c6 : Code := { maxStack := 4, maxLocals := 1, code := jdk_42_method_139_code, exceptionTable := #[], attributes := #[] }
def k7m6 : Method := { name := "valueOf", desc := "(C)Ljava/lang/String;", sig := { parameters := [.char], returnType := some (.object "java/lang/String") }, accessFlags := 9, code := some k7c6 }
def k7c7 : Code := { maxStack := 4, maxLocals := 6, code := jdk_42_method_149_code, exceptionTable := #[], attributes := #[] }
def k7m7 : Method := { name := "<init>", desc := "([CIILjava/lang/Void;)V", sig := { parameters := [(.array .char), .int, .int, (.object "java/lang/Void")], returnType := none }, accessFlags := 2, code := some k7c7 }
def k7c8 : Code := { maxStack := 2, maxLocals := 3, code := jdk_42_method_151_code, exceptionTable := #[], attributes := #[] }
def k7m8 : Method := { name := "<init>", desc := "([BB)V", sig := { parameters := [(.array .byte), .byte], returnType := none }, accessFlags := 0, code := some k7c8 }
def k7c9 : Code := { maxStack := 1, maxLocals := 1, code := jdk_42_method_154_code, exceptionTable := #[], attributes := #[] }
def k7m9 : Method := { name := "isLatin1", desc := "()Z", sig := { parameters := [], returnType := some .boolean }, accessFlags := 0, code := some k7c9 }
def k7c10 : Code := { maxStack := 4, maxLocals := 3, code := jdk_42_method_157_code, exceptionTable := #[], attributes := #[] }
def k7m10 : Method := { name := "checkBoundsOffCount", desc := "(III)I", sig := { parameters := [.int, .int, .int], returnType := some .int }, accessFlags := 8, code := some k7c10 }
/-- java/lang/String -/
def k7 : Class := { plain "java/lang/String" (some 0) with
  accessFlags := 49
  interfaces := #[2, 3, 4, 5, 6]
  cf := some (fileOf pool7 10 #[.nestMembers #[1103]] #[{ accessFlags := 1, nameIndex := 5, descriptorIndex := 6, attributes := #[] }, { accessFlags := 1, nameIndex := 5, descriptorIndex := 1010, attributes := #[] }, { accessFlags := 1, nameIndex := 5, descriptorIndex := 972, attributes := #[] }, { accessFlags := 10, nameIndex := 32, descriptorIndex := 33, attributes := #[] }, { accessFlags := 1, nameIndex := 543, descriptorIndex := 573, attributes := #[] }, { accessFlags := 1, nameIndex := 630, descriptorIndex := 334, attributes := #[] }, { accessFlags := 9, nameIndex := 782, descriptorIndex := 783, attributes := #[] }, { accessFlags := 2, nameIndex := 5, descriptorIndex := 29, attributes := #[] }, { accessFlags := 0, nameIndex := 5, descriptorIndex := 211, attributes := #[] }, { accessFlags := 0, nameIndex := 494, descriptorIndex := 142, attributes := #[] }, { accessFlags := 8, nameIndex := 36, descriptorIndex := 37, attributes := #[] }] 49 2 #[1106, 1108, 575, 1110, 1112] #[{ accessFlags := 18, nameIndex := 13, descriptorIndex := 14, attributes := #[] }, { accessFlags := 18, nameIndex := 17, descriptorIndex := 18, attributes := #[] }, { accessFlags := 2, nameIndex := 21, descriptorIndex := 22, attributes := #[] }, { accessFlags := 2, nameIndex := 25, descriptorIndex := 26, attributes := #[] }, { accessFlags := 26, nameIndex := 1116, descriptorIndex := 1117, attributes := #[] }, { accessFlags := 24, nameIndex := 40, descriptorIndex := 26, attributes := #[] }, { accessFlags := 26, nameIndex := 1101, descriptorIndex := 1102, attributes := #[] }, { accessFlags := 26, nameIndex := 1121, descriptorIndex := 1122, attributes := #[] }, { accessFlags := 25, nameIndex := 599, descriptorIndex := 600, attributes := #[] }, { accessFlags := 24, nameIndex := 1125, descriptorIndex := 18, attributes := #[] }, { accessFlags := 24, nameIndex := 1127, descriptorIndex := 18, attributes := #[] }])
  fields := #[{ name := "value", type := (.array .byte), accessFlags := 18, slot := 0, constantValue := 0 }, { name := "coder", type := .byte, accessFlags := 18, slot := 1, constantValue := 0 }, { name := "hash", type := .int, accessFlags := 2, slot := 2, constantValue := 0 }, { name := "hashIsZero", type := .boolean, accessFlags := 2, slot := 3, constantValue := 0 }, { name := "serialVersionUID", type := .long, accessFlags := 26, slot := 0, constantValue := 0 }, { name := "COMPACT_STRINGS", type := .boolean, accessFlags := 24, slot := 1, constantValue := 0 }, { name := "serialPersistentFields", type := (.array (.object "java/io/ObjectStreamField")), accessFlags := 26, slot := 2, constantValue := 0 }, { name := "REPL", type := .char, accessFlags := 26, slot := 3, constantValue := 0 }, { name := "CASE_INSENSITIVE_ORDER", type := (.object "java/util/Comparator"), accessFlags := 25, slot := 4, constantValue := 0 }, { name := "LATIN1", type := .byte, accessFlags := 24, slot := 5, constantValue := 0 }, { name := "UTF16", type := .byte, accessFlags := 24, slot := 6, constantValue := 0 }]
  methods := #[k7m0, k7m1, k7m2, k7m3, k7m4, k7m5, k7m6, k7m7, k7m8, k7m9, k7m10]
  instanceTypes := #[(.array .byte), .byte, .int, .boolean]
  staticTypes := #[.long, .boolean, (.array (.object "java/io/ObjectStreamField")), .char, (.object "java/util/Comparator"), .byte, .byte]
  resolved := Array.replicate 1451 none
  statics := some 0 }

def pool8 : Array CpInfo := pool [(4, .class_ 6), (1, u "java/lang/Object"), (0, u "<init>"), (0, u "()V"), (5, .class_ 16), (1, u "java/lang/StringLatin1"), (40, u "([B)I"), (32, u "canEncode"), (14, u "(C)Z"), (15, u "$assertionsDisabled"), (0, u "Z"), (98, .class_ 223), (1, u "java/lang/StringLatin1$LinesSpliterator"), (57, u "equals"), (0, u "([B[B)Z"), (15, u "hashCode"), (81, u "toBytes"), (1, u "(C)[B"), (7, .class_ 391), (0, u "java/lang/StringLatin1$CharsSpliterator")] 3

def k8m0 : Method := { name := "<init>", desc := "()V", sig := { parameters := [], returnType := none }, accessFlags := 0, code := none }
def k8c1 : Code := { maxStack := 2, maxLocals := 1, code := jdk_43_method_3_code, exceptionTable := #[], attributes := #[] }
def k8m1 : Method := { name := "canEncode", desc := "(C)Z", sig := { parameters := [.char], returnType := some .boolean }, accessFlags := 9, code := some k8c1 }
def k8c2 : Code := { maxStack := 3, maxLocals := 3, code := jdk_43_method_13_code, exceptionTable := #[], attributes := #[] }
def k8m2 : Method := { name := "equals", desc := "([B[B)Z", sig := { parameters := [(.array .byte), (.array .byte)], returnType := some .boolean }, accessFlags := 9, code := some k8c2 }
def k8c3 : Code := { maxStack := 5, maxLocals := 1, code := jdk_43_method_21_code, exceptionTable := #[], attributes := #[] }
def k8m3 : Method := { name := "hashCode", desc := "([B)I", sig := { parameters := [(.array .byte)], returnType := some .int }, accessFlags := 9, code := some k8c3 }
def k8c4 : Code := { maxStack := 4, maxLocals := 1, code := jdk_43_method_46_code, exceptionTable := #[], attributes := #[] }
def k8m4 : Method := { name := "toBytes", desc := "(C)[B", sig := { parameters := [.char], returnType := some (.array .byte) }, accessFlags := 9, code := some k8c4 }
/-- java/lang/StringLatin1 -/
def k8 : Class := { plain "java/lang/StringLatin1" (some 0) with
  accessFlags := 48
  interfaces := #[]
  cf := some (fileOf pool8 14 #[.nestMembers #[390, 221]] #[{ accessFlags := 0, nameIndex := 7, descriptorIndex := 8, attributes := #[] }, { accessFlags := 9, nameIndex := 90, descriptorIndex := 105, attributes := #[] }, { accessFlags := 9, nameIndex := 281, descriptorIndex := 282, attributes := #[] }, { accessFlags := 9, nameIndex := 298, descriptorIndex := 57, attributes := #[] }, { accessFlags := 9, nameIndex := 380, descriptorIndex := 382, attributes := #[] }] 48 4 #[] #[{ accessFlags := 4120, nameIndex := 121, descriptorIndex := 122, attributes := #[] }])
  fields := #[{ name := "$assertionsDisabled", type := .boolean, accessFlags := 4120, slot := 0, constantValue := 0 }]
  methods := #[k8m0, k8m1, k8m2, k8m3, k8m4]
  instanceTypes := #[]
  staticTypes := #[.boolean]
  resolved := Array.replicate 395 none
  statics := none }

def pool9 : Array CpInfo := pool [(1, .methodref 2 3), (0, .class_ 4), (0, .nameAndType 5 6), (0, u "java/lang/Object"), (0, u "<init>"), (0, u "()V"), (0, .class_ 8), (0, u "com/example/satzung/satzung/parse/Attributes"), (0, .class_ 10), (0, u "java/lang/String"), (0, .fieldref 7 12), (0, .nameAndType 13 14), (0, u "names"), (0, u "[Ljava/lang/String;"), (0, .fieldref 7 16), (0, .nameAndType 17 14), (0, u "values"), (0, .fieldref 7 19), (0, .nameAndType 20 21), (0, u "ends"), (0, u "[I"), (0, .fieldref 7 23), (0, .nameAndType 24 25), (0, u "text"), (0, u "[C"), (0, .fieldref 7 27), (0, .nameAndType 28 29), (0, u "size"), (0, u "I"), (0, .fieldref 7 31), (0, .nameAndType 32 29), (0, u "specified"), (0, .methodref 7 34), (0, .nameAndType 35 36), (0, u "checked"), (0, u "(I)I"), (0, .methodref 9 38), (0, .nameAndType 5 39), (0, u "([CII)V"), (0, .fieldref 7 41), (0, .nameAndType 42 43), (0, u "index"), (0, u "Ljava/util/Map;"), (15, u "()I"), (0, .methodref 9 61), (0, .nameAndType 62 59), (0, u "hashCode"), (0, .methodref 9 64), (0, .nameAndType 65 66), (0, u "equals"), (0, u "(Ljava/lang/Object;)Z"), (0, .methodref 7 68), (0, .nameAndType 69 70), (0, u "append"), (0, u "(Ljava/lang/String;Ljava/lang/String;)V"), (0, .fieldref 7 72), (0, .nameAndType 73 29), (0, u "textLength"), (0, .methodref 75 76), (0, .class_ 77), (0, .nameAndType 78 79), (0, u "java/lang/Math"), (0, u "max"), (0, u "(II)I"), (0, .methodref 81 82), (0, .class_ 83), (0, .nameAndType 84 85), (0, u "java/util/Arrays"), (0, u "copyOf"), (0, u "([CI)[C"), (0, .methodref 87 88), (0, .class_ 89), (0, .nameAndType 90 91), (0, u "java/lang/System"), (0, u "arraycopy"), (0, u "(Ljava/lang/Object;ILjava/lang/Object;II)V"), (22, u "INDEX_FROM"), (2, u "TEXT_KEPT"), (9, u "(I)Ljava/lang/String;"), (0, u "value"), (0, u "indexOf"), (0, u "(Ljava/lang/String;)I"), (0, u "add"), (0, u "(Ljava/lang/String;[CII)V"), (0, u "addDefault"), (0, u "clear")] 17

def k9c0 : Code := { maxStack := 2, maxLocals := 1, code := prog_64_method_1_code, exceptionTable := #[], attributes := #[] }
def k9m0 : Method := { name := "<init>", desc := "()V", sig := { parameters := [], returnType := none }, accessFlags := 1, code := some k9c0 }
def k9c1 : Code := { maxStack := 1, maxLocals := 1, code := prog_64_method_2_code, exceptionTable := #[], attributes := #[] }
def k9m1 : Method := { name := "size", desc := "()I", sig := { parameters := [], returnType := some .int }, accessFlags := 1, code := some k9c1 }
def k9c2 : Code := { maxStack := 1, maxLocals := 1, code := prog_64_method_3_code, exceptionTable := #[], attributes := #[] }
def k9m2 : Method := { name := "specified", desc := "()I", sig := { parameters := [], returnType := some .int }, accessFlags := 1, code := some k9c2 }
def k9c3 : Code := { maxStack := 8, maxLocals := 3, code := prog_64_method_6_code, exceptionTable := #[], attributes := #[] }
def k9m3 : Method := { name := "value", desc := "(I)Ljava/lang/String;", sig := { parameters := [.int], returnType := some (.object "java/lang/String") }, accessFlags := 1, code := some k9c3 }
def k9c4 : Code := { maxStack := 3, maxLocals := 5, code := prog_64_method_7_code, exceptionTable := #[], attributes := #[] }
def k9m4 : Method := { name := "indexOf", desc := "(Ljava/lang/String;)I", sig := { parameters := [(.object "java/lang/String")], returnType := some .int }, accessFlags := 1, code := some k9c4 }
def k9c5 : Code := { maxStack := 3, maxLocals := 3, code := prog_64_method_8_code, exceptionTable := #[], attributes := #[] }
def k9m5 : Method := { name := "add", desc := "(Ljava/lang/String;Ljava/lang/String;)V", sig := { parameters := [(.object "java/lang/String"), (.object "java/lang/String")], returnType := none }, accessFlags := 0, code := some k9c5 }
def k9c6 : Code := { maxStack := 5, maxLocals := 5, code := prog_64_method_9_code, exceptionTable := #[], attributes := #[] }
def k9m6 : Method := { name := "add", desc := "(Ljava/lang/String;[CII)V", sig := { parameters := [(.object "java/lang/String"), (.array .char), .int, .int], returnType := none }, accessFlags := 0, code := some k9c6 }
def k9c7 : Code := { maxStack := 3, maxLocals := 3, code := prog_64_method_10_code, exceptionTable := #[], attributes := #[] }
def k9m7 : Method := { name := "addDefault", desc := "(Ljava/lang/String;Ljava/lang/String;)V", sig := { parameters := [(.object "java/lang/String"), (.object "java/lang/String")], returnType := none }, accessFlags := 0, code := some k9c7 }
def k9c8 : Code := { maxStack := 2, maxLocals := 1, code := prog_64_method_11_code, exceptionTable := #[], attributes := #[] }
def k9m8 : Method := { name := "clear", desc := "()V", sig := { parameters := [], returnType := none }, accessFlags := 0, code := some k9c8 }
def k9c9 : Code := { maxStack := 4, maxLocals := 4, code := prog_64_method_12_code, exceptionTable := #[], attributes := #[] }
def k9m9 : Method := { name := "append", desc := "(Ljava/lang/String;Ljava/lang/String;)V", sig := { parameters := [(.object "java/lang/String"), (.object "java/lang/String")], returnType := none }, accessFlags := 2, code := some k9c9 }
def k9c10 : Code := { maxStack := 4, maxLocals := 2, code := prog_64_method_13_code, exceptionTable := #[], attributes := #[] }
def k9m10 : Method := { name := "checked", desc := "(I)I", sig := { parameters := [.int], returnType := some .int }, accessFlags := 2, code := some k9c10 }
/-- com/example/satzung/satzung/parse/Attributes -/
def k9 : Class := { plain "com/example/satzung/satzung/parse/Attributes" (some 0) with
  accessFlags := 49
  interfaces := #[]
  cf := some (fileOf pool9 7 #[] #[{ accessFlags := 1, nameIndex := 5, descriptorIndex := 6, attributes := #[] }, { accessFlags := 1, nameIndex := 28, descriptorIndex := 59, attributes := #[] }, { accessFlags := 1, nameIndex := 32, descriptorIndex := 59, attributes := #[] }, { accessFlags := 1, nameIndex := 128, descriptorIndex := 127, attributes := #[] }, { accessFlags := 1, nameIndex := 129, descriptorIndex := 130, attributes := #[] }, { accessFlags := 0, nameIndex := 131, descriptorIndex := 70, attributes := #[] }, { accessFlags := 0, nameIndex := 131, descriptorIndex := 132, attributes := #[] }, { accessFlags := 0, nameIndex := 133, descriptorIndex := 70, attributes := #[] }, { accessFlags := 0, nameIndex := 134, descriptorIndex := 6, attributes := #[] }, { accessFlags := 2, nameIndex := 69, descriptorIndex := 70, attributes := #[] }, { accessFlags := 2, nameIndex := 35, descriptorIndex := 36, attributes := #[] }] 49 2 #[] #[{ accessFlags := 26, nameIndex := 114, descriptorIndex := 29, attributes := #[] }, { accessFlags := 26, nameIndex := 117, descriptorIndex := 29, attributes := #[] }, { accessFlags := 2, nameIndex := 13, descriptorIndex := 14, attributes := #[] }, { accessFlags := 2, nameIndex := 17, descriptorIndex := 14, attributes := #[] }, { accessFlags := 2, nameIndex := 20, descriptorIndex := 21, attributes := #[] }, { accessFlags := 2, nameIndex := 24, descriptorIndex := 25, attributes := #[] }, { accessFlags := 2, nameIndex := 73, descriptorIndex := 29, attributes := #[] }, { accessFlags := 2, nameIndex := 28, descriptorIndex := 29, attributes := #[] }, { accessFlags := 2, nameIndex := 32, descriptorIndex := 29, attributes := #[] }, { accessFlags := 2, nameIndex := 42, descriptorIndex := 43, attributes := #[] }])
  fields := #[{ name := "INDEX_FROM", type := .int, accessFlags := 26, slot := 0, constantValue := 0 }, { name := "TEXT_KEPT", type := .int, accessFlags := 26, slot := 1, constantValue := 0 }, { name := "names", type := (.array (.object "java/lang/String")), accessFlags := 2, slot := 0, constantValue := 0 }, { name := "values", type := (.array (.object "java/lang/String")), accessFlags := 2, slot := 1, constantValue := 0 }, { name := "ends", type := (.array .int), accessFlags := 2, slot := 2, constantValue := 0 }, { name := "text", type := (.array .char), accessFlags := 2, slot := 3, constantValue := 0 }, { name := "textLength", type := .int, accessFlags := 2, slot := 4, constantValue := 0 }, { name := "size", type := .int, accessFlags := 2, slot := 5, constantValue := 0 }, { name := "specified", type := .int, accessFlags := 2, slot := 6, constantValue := 0 }, { name := "index", type := (.object "java/util/Map"), accessFlags := 2, slot := 7, constantValue := 0 }]
  methods := #[k9m0, k9m1, k9m2, k9m3, k9m4, k9m5, k9m6, k9m7, k9m8, k9m9, k9m10]
  instanceTypes := #[(.array (.object "java/lang/String")), (.array (.object "java/lang/String")), (.array .int), (.array .char), .int, .int, .int, (.object "java/util/Map")]
  staticTypes := #[.int, .int]
  resolved := Array.replicate 152 none
  statics := none }

def pool10 : Array CpInfo := pool [(2, .class_ 4), (1, u "java/lang/Object"), (0, u "<init>"), (0, u "()V"), (1, .class_ 10), (1, u "java/lang/System"), (0, u "allowSecurityManager"), (0, u "I"), (16, u "cons"), (0, u "Ljava/io/Console;"), (77, .class_ 110), (1, u "java/lang/System$CallersHolder"), (43, u "initialErrStream"), (0, u "Ljava/io/PrintStream;"), (19, u "security"), (0, u "Ljava/lang/SecurityManager;"), (31, .class_ 209), (0, u "java/lang/System$1"), (7, u "props"), (0, u "Ljava/util/Properties;"), (2, u "lineSeparator"), (0, u "Ljava/lang/String;"), (96, .class_ 321), (1, u "java/lang/System$LoggerFinder"), (5, .class_ 328), (0, u "java/lang/System$Logger"), (67, u "err"), (2, u "out"), (91, u "notSupportedJnuEncoding"), (15, u "in"), (17, u "initialIn"), (0, u "Ljava/io/InputStream;"), (35, u "bootLayer"), (0, u "Ljava/lang/ModuleLayer;"), (99, .class_ 664), (0, u "java/lang/System$2"), (9, u "NEVER"), (2, u "MAYBE"), (49, u "arraycopy"), (0, u "(Ljava/lang/Object;ILjava/lang/Object;II)V"), (72, .class_ 802), (0, u "java/lang/System$Logger$Level")] 31

def k10m0 : Method := { name := "<init>", desc := "()V", sig := { parameters := [], returnType := none }, accessFlags := 2, code := none }
def k10m1 : Method := { name := "arraycopy", desc := "(Ljava/lang/Object;ILjava/lang/Object;II)V", sig := { parameters := [(.object "java/lang/Object"), .int, (.object "java/lang/Object"), .int, .int], returnType := none }, accessFlags := 265, code := none }
/-- java/lang/System -/
def k10 : Class := { plain "java/lang/System" (some 0) with
  accessFlags := 49
  interfaces := #[]
  cf := some (fileOf pool10 8 #[.nestMembers #[319, 327, 801, 108, 663, 208]] #[{ accessFlags := 2, nameIndex := 5, descriptorIndex := 6, attributes := #[] }, { accessFlags := 265, nameIndex := 727, descriptorIndex := 728, attributes := #[] }] 49 2 #[] #[{ accessFlags := 25, nameIndex := 507, descriptorIndex := 526, attributes := #[] }, { accessFlags := 25, nameIndex := 399, descriptorIndex := 155, attributes := #[] }, { accessFlags := 25, nameIndex := 396, descriptorIndex := 155, attributes := #[] }, { accessFlags := 10, nameIndex := 525, descriptorIndex := 526, attributes := #[] }, { accessFlags := 26, nameIndex := 674, descriptorIndex := 12, attributes := #[] }, { accessFlags := 26, nameIndex := 677, descriptorIndex := 12, attributes := #[] }, { accessFlags := 10, nameIndex := 11, descriptorIndex := 12, attributes := #[] }, { accessFlags := 74, nameIndex := 175, descriptorIndex := 176, attributes := #[] }, { accessFlags := 10, nameIndex := 491, descriptorIndex := 222, attributes := #[] }, { accessFlags := 74, nameIndex := 29, descriptorIndex := 30, attributes := #[] }, { accessFlags := 74, nameIndex := 154, descriptorIndex := 155, attributes := #[] }, { accessFlags := 10, nameIndex := 217, descriptorIndex := 218, attributes := #[] }, { accessFlags := 10, nameIndex := 221, descriptorIndex := 222, attributes := #[] }, { accessFlags := 8, nameIndex := 562, descriptorIndex := 563, attributes := #[] }])
  fields := #[{ name := "in", type := (.object "java/io/InputStream"), accessFlags := 25, slot := 0, constantValue := 0 }, { name := "out", type := (.object "java/io/PrintStream"), accessFlags := 25, slot := 1, constantValue := 0 }, { name := "err", type := (.object "java/io/PrintStream"), accessFlags := 25, slot := 2, constantValue := 0 }, { name := "initialIn", type := (.object "java/io/InputStream"), accessFlags := 10, slot := 3, constantValue := 0 }, { name := "NEVER", type := .int, accessFlags := 26, slot := 4, constantValue := 0 }, { name := "MAYBE", type := .int, accessFlags := 26, slot := 5, constantValue := 0 }, { name := "allowSecurityManager", type := .int, accessFlags := 10, slot := 6, constantValue := 0 }, { name := "security", type := (.object "java/lang/SecurityManager"), accessFlags := 74, slot := 7, constantValue := 0 }, { name := "notSupportedJnuEncoding", type := (.object "java/lang/String"), accessFlags := 10, slot := 8, constantValue := 0 }, { name := "cons", type := (.object "java/io/Console"), accessFlags := 74, slot := 9, constantValue := 0 }, { name := "initialErrStream", type := (.object "java/io/PrintStream"), accessFlags := 74, slot := 10, constantValue := 0 }, { name := "props", type := (.object "java/util/Properties"), accessFlags := 10, slot := 11, constantValue := 0 }, { name := "lineSeparator", type := (.object "java/lang/String"), accessFlags := 10, slot := 12, constantValue := 0 }, { name := "bootLayer", type := (.object "java/lang/ModuleLayer"), accessFlags := 8, slot := 13, constantValue := 0 }]
  methods := #[k10m0, k10m1]
  instanceTypes := #[]
  staticTypes := #[(.object "java/io/InputStream"), (.object "java/io/PrintStream"), (.object "java/io/PrintStream"), (.object "java/io/InputStream"), .int, .int, .int, (.object "java/lang/SecurityManager"), (.object "java/lang/String"), (.object "java/io/Console"), (.object "java/io/PrintStream"), (.object "java/util/Properties"), (.object "java/lang/String"), (.object "java/lang/ModuleLayer")]
  resolved := Array.replicate 834 none
  statics := none }

def pool11 : Array CpInfo := pool [(2, .class_ 4), (1, u "java/lang/Object"), (0, u "<init>"), (0, u "()V"), (17, .class_ 26), (1, u "jdk/internal/util/Preconditions"), (22, u "checkFromIndexSize"), (5, .class_ 56), (0, u "jdk/internal/util/Preconditions$4"), (57, .class_ 115), (0, u "jdk/internal/util/Preconditions$1"), (7, u "SIOOBE_FORMATTER"), (0, u "Ljava/util/function/BiFunction;"), (0, .class_ 126), (0, u "jdk/internal/util/Preconditions$2"), (3, u "AIOOBE_FORMATTER"), (0, .class_ 132), (0, u "jdk/internal/util/Preconditions$3"), (3, u "IOOBE_FORMATTER"), (46, u "(IIILjava/util/function/BiFunction;)I")] 10

def k11m0 : Method := { name := "<init>", desc := "()V", sig := { parameters := [], returnType := none }, accessFlags := 1, code := none }
def k11c1 : Code := { maxStack := 4, maxLocals := 4, code := jdk_41_method_13_code, exceptionTable := #[], attributes := #[] }
def k11m1 : Method := { name := "checkFromIndexSize", desc := "(IIILjava/util/function/BiFunction;)I", sig := { parameters := [.int, .int, .int, (.object "java/util/function/BiFunction")], returnType := some .int }, accessFlags := 9, code := some k11c1 }
/-- jdk/internal/util/Preconditions -/
def k11 : Class := { plain "jdk/internal/util/Preconditions" (some 0) with
  accessFlags := 33
  interfaces := #[]
  cf := some (fileOf pool11 24 #[.nestMembers #[55, 131, 125, 114]] #[{ accessFlags := 1, nameIndex := 5, descriptorIndex := 6, attributes := #[] }, { accessFlags := 9, nameIndex := 49, descriptorIndex := 183, attributes := #[] }] 33 2 #[] #[{ accessFlags := 25, nameIndex := 123, descriptorIndex := 124, attributes := #[] }, { accessFlags := 25, nameIndex := 130, descriptorIndex := 124, attributes := #[] }, { accessFlags := 25, nameIndex := 136, descriptorIndex := 124, attributes := #[] }])
  fields := #[{ name := "SIOOBE_FORMATTER", type := (.object "java/util/function/BiFunction"), accessFlags := 25, slot := 0, constantValue := 0 }, { name := "AIOOBE_FORMATTER", type := (.object "java/util/function/BiFunction"), accessFlags := 25, slot := 1, constantValue := 0 }, { name := "IOOBE_FORMATTER", type := (.object "java/util/function/BiFunction"), accessFlags := 25, slot := 2, constantValue := 0 }]
  methods := #[k11m0, k11m1]
  instanceTypes := #[]
  staticTypes := #[(.object "java/util/function/BiFunction"), (.object "java/util/function/BiFunction"), (.object "java/util/function/BiFunction")]
  resolved := Array.replicate 194 none
  statics := some 1 }

def pool12 : Array CpInfo := pool [(1, .class_ 2), (0, u "java/lang/Math"), (1, .class_ 6), (1, u "java/lang/Object"), (0, u "<init>"), (0, u "()V"), (89, .class_ 100), (1, u "java/lang/Math$RandomNumberGeneratorHolder"), (71, u "negativeZeroFloatBits"), (0, u "J"), (2, u "negativeZeroDoubleBits"), (21, u "max"), (2, u "min"), (43, u "$assertionsDisabled"), (0, u "Z"), (88, u "(II)I"), (2, u "twoToTheDoubleScaleDown"), (0, u "D"), (4, u "twoToTheDoubleScaleUp"), (9, u "E"), (3, u "PI"), (2, u "TAU"), (2, u "DEGREES_TO_RADIANS"), (0, u "RADIANS_TO_DEGREES")] 94

def k12m0 : Method := { name := "<init>", desc := "()V", sig := { parameters := [], returnType := none }, accessFlags := 2, code := none }
def k12c1 : Code := { maxStack := 2, maxLocals := 2, code := jdk_29_method_65_code, exceptionTable := #[], attributes := #[] }
def k12m1 : Method := { name := "max", desc := "(II)I", sig := { parameters := [.int, .int], returnType := some .int }, accessFlags := 9, code := some k12c1 }
def k12c2 : Code := { maxStack := 2, maxLocals := 2, code := jdk_29_method_69_code, exceptionTable := #[], attributes := #[] }
def k12m2 : Method := { name := "min", desc := "(II)I", sig := { parameters := [.int, .int], returnType := some .int }, accessFlags := 9, code := some k12c2 }
/-- java/lang/Math -/
def k12 : Class := { plain "java/lang/Math" (some 0) with
  accessFlags := 49
  interfaces := #[]
  cf := some (fileOf pool12 1 #[.nestMembers #[98]] #[{ accessFlags := 2, nameIndex := 7, descriptorIndex := 8, attributes := #[] }, { accessFlags := 9, nameIndex := 198, descriptorIndex := 335, attributes := #[] }, { accessFlags := 9, nameIndex := 201, descriptorIndex := 335, attributes := #[] }] 49 4 #[] #[{ accessFlags := 25, nameIndex := 354, descriptorIndex := 339, attributes := #[] }, { accessFlags := 25, nameIndex := 358, descriptorIndex := 339, attributes := #[] }, { accessFlags := 25, nameIndex := 361, descriptorIndex := 339, attributes := #[] }, { accessFlags := 26, nameIndex := 364, descriptorIndex := 339, attributes := #[] }, { accessFlags := 26, nameIndex := 365, descriptorIndex := 339, attributes := #[] }, { accessFlags := 26, nameIndex := 172, descriptorIndex := 173, attributes := #[] }, { accessFlags := 26, nameIndex := 176, descriptorIndex := 173, attributes := #[] }, { accessFlags := 8, nameIndex := 344, descriptorIndex := 339, attributes := #[] }, { accessFlags := 8, nameIndex := 338, descriptorIndex := 339, attributes := #[] }, { accessFlags := 4120, nameIndex := 245, descriptorIndex := 246, attributes := #[] }])
  fields := #[{ name := "E", type := .double, accessFlags := 25, slot := 0, constantValue := 0 }, { name := "PI", type := .double, accessFlags := 25, slot := 1, constantValue := 0 }, { name := "TAU", type := .double, accessFlags := 25, slot := 2, constantValue := 0 }, { name := "DEGREES_TO_RADIANS", type := .double, accessFlags := 26, slot := 3, constantValue := 0 }, { name := "RADIANS_TO_DEGREES", type := .double, accessFlags := 26, slot := 4, constantValue := 0 }, { name := "negativeZeroFloatBits", type := .long, accessFlags := 26, slot := 5, constantValue := 0 }, { name := "negativeZeroDoubleBits", type := .long, accessFlags := 26, slot := 6, constantValue := 0 }, { name := "twoToTheDoubleScaleUp", type := .double, accessFlags := 8, slot := 7, constantValue := 0 }, { name := "twoToTheDoubleScaleDown", type := .double, accessFlags := 8, slot := 8, constantValue := 0 }, { name := "$assertionsDisabled", type := .boolean, accessFlags := 4120, slot := 9, constantValue := 0 }]
  methods := #[k12m0, k12m1, k12m2]
  instanceTypes := #[]
  staticTypes := #[.double, .double, .double, .double, .double, .long, .long, .double, .double, .boolean]
  resolved := Array.replicate 460 none
  statics := none }

def pool13 : Array CpInfo := pool [(2, .class_ 4), (1, u "java/lang/Object"), (0, u "<init>"), (0, u "()V"), (7, .class_ 16), (1, u "java/util/Arrays"), (57, .class_ 76), (1, u "java/util/Arrays$NaturalOrder"), (36, .class_ 115), (1, u "java/util/Arrays$LegacyMergeSort"), (1, u "Z"), (32, .methodref 151 152), (0, .class_ 153), (0, .nameAndType 154 155), (0, u "java/lang/System"), (0, u "arraycopy"), (0, u "(Ljava/lang/Object;ILjava/lang/Object;II)V"), (146, u "copyOf"), (1, .methodref 305 306), (0, .class_ 307), (0, .nameAndType 308 309), (0, u "java/lang/Math"), (0, u "min"), (0, u "(II)I"), (65, .class_ 376), (0, u "java/util/Arrays$ArrayList"), (68, u "$assertionsDisabled"), (269, u "MIN_ARRAY_SORT_GRAN"), (0, u "I"), (2, u "INSERTIONSORT_THRESHOLD"), (153, u "([CI)[C"), (101, .class_ 976), (0, u "java/util/Arrays$ArrayItr")] 52

def k13m0 : Method := { name := "<init>", desc := "()V", sig := { parameters := [], returnType := none }, accessFlags := 2, code := none }
def k13c1 : Code := { maxStack := 6, maxLocals := 3, code := jdk_65_method_125_code, exceptionTable := #[], attributes := #[] }
def k13m1 : Method := { name := "copyOf", desc := "([CI)[C", sig := { parameters := [(.array .char), .int], returnType := some (.array .char) }, accessFlags := 9, code := some k13c1 }
/-- java/util/Arrays -/
def k13 : Class := { plain "java/util/Arrays" (some 0) with
  accessFlags := 49
  interfaces := #[]
  cf := some (fileOf pool13 14 #[.nestMembers #[975, 375, 113, 74]] #[{ accessFlags := 2, nameIndex := 5, descriptorIndex := 6, attributes := #[] }, { accessFlags := 9, nameIndex := 302, descriptorIndex := 873, attributes := #[] }] 49 2 #[] #[{ accessFlags := 26, nameIndex := 715, descriptorIndex := 716, attributes := #[] }, { accessFlags := 26, nameIndex := 719, descriptorIndex := 716, attributes := #[] }, { accessFlags := 4120, nameIndex := 445, descriptorIndex := 117, attributes := #[] }])
  fields := #[{ name := "MIN_ARRAY_SORT_GRAN", type := .int, accessFlags := 26, slot := 0, constantValue := 0 }, { name := "INSERTIONSORT_THRESHOLD", type := .int, accessFlags := 26, slot := 1, constantValue := 0 }, { name := "$assertionsDisabled", type := .boolean, accessFlags := 4120, slot := 2, constantValue := 0 }]
  methods := #[k13m0, k13m1]
  instanceTypes := #[]
  staticTypes := #[.int, .int, .boolean]
  resolved := Array.replicate 1029 none
  statics := none }

def pool14 : Array CpInfo := pool [(6, .class_ 8), (1, u "java/lang/Object"), (0, u "<init>"), (0, u "()V"), (1, .class_ 14), (1, u "java/lang/StringUTF16"), (31, u "$assertionsDisabled"), (0, u "Z"), (13, u "HI_BYTE_SHIFT"), (0, u "I"), (2, u "LO_BYTE_SHIFT"), (49, .methodref 12 116), (0, .nameAndType 117 118), (0, u "compress"), (0, u "([CI[BII)I"), (3, u "([CII)[B"), (138, u "coderFromArrayLen"), (0, u "([BI)B"), (106, .class_ 371), (1, u "java/lang/StringUTF16$LinesSpliterator"), (58, u "MAX_LENGTH"), (196, .class_ 628), (0, u "java/lang/StringUTF16$CodePointsSpliterator"), (0, .class_ 630), (0, u "java/lang/StringUTF16$CharsSpliterator")] 4

def k14m0 : Method := { name := "<init>", desc := "()V", sig := { parameters := [], returnType := none }, accessFlags := 0, code := none }
def k14c1 : Code := { maxStack := 2, maxLocals := 2, code := jdk_52_method_15_code, exceptionTable := #[], attributes := #[] }
def k14m1 : Method := { name := "coderFromArrayLen", desc := "([BI)B", sig := { parameters := [(.array .byte), .int], returnType := some .byte }, accessFlags := 8, code := some k14c1 }
def k14c2 : Code := { maxStack := 5, maxLocals := 6, code := jdk_52_method_16_code, exceptionTable := #[], attributes := #[] }
def k14m2 : Method := { name := "compress", desc := "([CII)[B", sig := { parameters := [(.array .char), .int, .int], returnType := some (.array .byte) }, accessFlags := 9, code := some k14c2 }
def k14c3 : Code := { maxStack := 3, maxLocals := 7, code := jdk_52_method_21_code, exceptionTable := #[], attributes := #[] }
def k14m3 : Method := { name := "compress", desc := "([CI[BII)I", sig := { parameters := [(.array .char), .int, (.array .byte), .int, .int], returnType := some .int }, accessFlags := 9, code := some k14c3 }
/-- java/lang/StringUTF16 -/
def k14 : Class := { plain "java/lang/StringUTF16" (some 0) with
  accessFlags := 48
  interfaces := #[]
  cf := some (fileOf pool14 12 #[.nestMembers #[627, 629, 369]] #[{ accessFlags := 0, nameIndex := 9, descriptorIndex := 10, attributes := #[] }, { accessFlags := 8, nameIndex := 261, descriptorIndex := 262, attributes := #[] }, { accessFlags := 9, nameIndex := 117, descriptorIndex := 122, attributes := #[] }, { accessFlags := 9, nameIndex := 117, descriptorIndex := 118, attributes := #[] }] 48 6 #[] #[{ accessFlags := 26, nameIndex := 61, descriptorIndex := 62, attributes := #[] }, { accessFlags := 26, nameIndex := 65, descriptorIndex := 62, attributes := #[] }, { accessFlags := 24, nameIndex := 430, descriptorIndex := 62, attributes := #[] }, { accessFlags := 4120, nameIndex := 46, descriptorIndex := 47, attributes := #[] }])
  fields := #[{ name := "HI_BYTE_SHIFT", type := .int, accessFlags := 26, slot := 0, constantValue := 0 }, { name := "LO_BYTE_SHIFT", type := .int, accessFlags := 26, slot := 1, constantValue := 0 }, { name := "MAX_LENGTH", type := .int, accessFlags := 24, slot := 2, constantValue := 0 }, { name := "$assertionsDisabled", type := .boolean, accessFlags := 4120, slot := 3, constantValue := 0 }]
  methods := #[k14m0, k14m1, k14m2, k14m3]
  instanceTypes := #[]
  staticTypes := #[.int, .int, .int, .boolean]
  resolved := Array.replicate 635 none
  statics := none }

def pool15 : Array CpInfo := pool [(9, u "<init>"), (6, .class_ 18), (1, u "java/lang/Object"), (0, u "()V"), (1, .class_ 23), (1, u "jdk/internal/util/ArraysSupport"), (0, u "LOG2_ARRAY_LONG_INDEX_SCALE"), (0, u "I"), (2, u "U"), (0, u "Ljdk/internal/misc/Unsafe;"), (8, u "BIG_ENDIAN"), (0, u "Z"), (8, u "LOG2_BYTE_BIT_SIZE"), (4, u "LOG2_ARRAY_INT_INDEX_SCALE"), (54, u "JLA"), (0, u "Ljdk/internal/access/JavaLangAccess;"), (11, u "LOG2_ARRAY_BOOLEAN_INDEX_SCALE"), (9, u "LOG2_ARRAY_BYTE_INDEX_SCALE"), (5, u "LOG2_ARRAY_CHAR_INDEX_SCALE"), (5, u "LOG2_ARRAY_SHORT_INDEX_SCALE"), (18, u "LOG2_ARRAY_FLOAT_INDEX_SCALE"), (24, u "LOG2_ARRAY_DOUBLE_INDEX_SCALE"), (89, u "T_BOOLEAN"), (2, u "T_CHAR"), (1, u "T_FLOAT"), (1, u "T_DOUBLE"), (1, u "T_BYTE"), (1, u "T_SHORT"), (1, u "T_INT"), (1, u "T_LONG"), (1, u "SOFT_MAX_ARRAY_LENGTH")] 83

def k15m0 : Method := { name := "<init>", desc := "()V", sig := { parameters := [], returnType := none }, accessFlags := 2, code := none }
/-- jdk/internal/util/ArraysSupport -/
def k15 : Class := { plain "jdk/internal/util/ArraysSupport" (some 0) with
  accessFlags := 33
  interfaces := #[]
  cf := some (fileOf pool15 21 #[] #[{ accessFlags := 2, nameIndex := 9, descriptorIndex := 19, attributes := #[] }] 33 16 #[] #[{ accessFlags := 24, nameIndex := 28, descriptorIndex := 29, attributes := #[] }, { accessFlags := 26, nameIndex := 38, descriptorIndex := 39, attributes := #[] }, { accessFlags := 25, nameIndex := 121, descriptorIndex := 25, attributes := #[] }, { accessFlags := 25, nameIndex := 131, descriptorIndex := 25, attributes := #[] }, { accessFlags := 25, nameIndex := 137, descriptorIndex := 25, attributes := #[] }, { accessFlags := 25, nameIndex := 143, descriptorIndex := 25, attributes := #[] }, { accessFlags := 25, nameIndex := 53, descriptorIndex := 25, attributes := #[] }, { accessFlags := 25, nameIndex := 24, descriptorIndex := 25, attributes := #[] }, { accessFlags := 25, nameIndex := 162, descriptorIndex := 25, attributes := #[] }, { accessFlags := 25, nameIndex := 187, descriptorIndex := 25, attributes := #[] }, { accessFlags := 26, nameIndex := 48, descriptorIndex := 25, attributes := #[] }, { accessFlags := 25, nameIndex := 277, descriptorIndex := 25, attributes := #[] }, { accessFlags := 25, nameIndex := 280, descriptorIndex := 25, attributes := #[] }, { accessFlags := 25, nameIndex := 282, descriptorIndex := 25, attributes := #[] }, { accessFlags := 25, nameIndex := 284, descriptorIndex := 25, attributes := #[] }, { accessFlags := 25, nameIndex := 286, descriptorIndex := 25, attributes := #[] }, { accessFlags := 25, nameIndex := 288, descriptorIndex := 25, attributes := #[] }, { accessFlags := 25, nameIndex := 290, descriptorIndex := 25, attributes := #[] }, { accessFlags := 25, nameIndex := 292, descriptorIndex := 25, attributes := #[] }, { accessFlags := 26, nameIndex := 108, descriptorIndex := 109, attributes := #[] }, { accessFlags := 25, nameIndex := 294, descriptorIndex := 25, attributes := #[] }])
  fields := #[{ name := "U", type := (.object "jdk/internal/misc/Unsafe"), accessFlags := 24, slot := 0, constantValue := 0 }, { name := "BIG_ENDIAN", type := .boolean, accessFlags := 26, slot := 1, constantValue := 0 }, { name := "LOG2_ARRAY_BOOLEAN_INDEX_SCALE", type := .int, accessFlags := 25, slot := 2, constantValue := 0 }, { name := "LOG2_ARRAY_BYTE_INDEX_SCALE", type := .int, accessFlags := 25, slot := 3, constantValue := 0 }, { name := "LOG2_ARRAY_CHAR_INDEX_SCALE", type := .int, accessFlags := 25, slot := 4, constantValue := 0 }, { name := "LOG2_ARRAY_SHORT_INDEX_SCALE", type := .int, accessFlags := 25, slot := 5, constantValue := 0 }, { name := "LOG2_ARRAY_INT_INDEX_SCALE", type := .int, accessFlags := 25, slot := 6, constantValue := 0 }, { name := "LOG2_ARRAY_LONG_INDEX_SCALE", type := .int, accessFlags := 25, slot := 7, constantValue := 0 }, { name := "LOG2_ARRAY_FLOAT_INDEX_SCALE", type := .int, accessFlags := 25, slot := 8, constantValue := 0 }, { name := "LOG2_ARRAY_DOUBLE_INDEX_SCALE", type := .int, accessFlags := 25, slot := 9, constantValue := 0 }, { name := "LOG2_BYTE_BIT_SIZE", type := .int, accessFlags := 26, slot := 10, constantValue := 0 }, { name := "T_BOOLEAN", type := .int, accessFlags := 25, slot := 11, constantValue := 0 }, { name := "T_CHAR", type := .int, accessFlags := 25, slot := 12, constantValue := 0 }, { name := "T_FLOAT", type := .int, accessFlags := 25, slot := 13, constantValue := 0 }, { name := "T_DOUBLE", type := .int, accessFlags := 25, slot := 14, constantValue := 0 }, { name := "T_BYTE", type := .int, accessFlags := 25, slot := 15, constantValue := 0 }, { name := "T_SHORT", type := .int, accessFlags := 25, slot := 16, constantValue := 0 }, { name := "T_INT", type := .int, accessFlags := 25, slot := 17, constantValue := 0 }, { name := "T_LONG", type := .int, accessFlags := 25, slot := 18, constantValue := 0 }, { name := "JLA", type := (.object "jdk/internal/access/JavaLangAccess"), accessFlags := 26, slot := 19, constantValue := 0 }, { name := "SOFT_MAX_ARRAY_LENGTH", type := .int, accessFlags := 25, slot := 20, constantValue := 0 }]
  methods := #[k15m0]
  instanceTypes := #[]
  staticTypes := #[(.object "jdk/internal/misc/Unsafe"), .boolean, .int, .int, .int, .int, .int, .int, .int, .int, .int, .int, .int, .int, .int, .int, .int, .int, .int, (.object "jdk/internal/access/JavaLangAccess"), .int]
  resolved := Array.replicate 378 none
  statics := none }

def pool16 : Array CpInfo := pool [(1, u "java/lang/Cloneable"), (0, .class_ 1), (0, u "java/lang/Object"), (0, .class_ 3)] 3

/-- java/lang/Cloneable -/
def k16 : Class := { plain "java/lang/Cloneable" (some 0) with
  accessFlags := 1537
  interfaces := #[]
  cf := some (fileOf pool16 2 #[] #[] 1537 4 #[] #[])
  fields := #[]
  methods := #[]
  instanceTypes := #[]
  staticTypes := #[]
  resolved := Array.replicate 8 none
  statics := none }

/-- the primitive byte -/
def k17 : Class := { plain "byte" none with kind := .primitive 'B', accessFlags := 0x411 }
/-- [B -/
def k18 : Class := { plain "[B" (some 0) with kind := .array 17 .byte, interfaces := #[16, 2], accessFlags := 1041 }

/-- the primitive char -/
def k19 : Class := { plain "char" none with kind := .primitive 'C', accessFlags := 0x411 }
/-- [C -/
def k20 : Class := { plain "[C" (some 0) with kind := .array 19 .char, interfaces := #[16, 2], accessFlags := 1041 }

/-- the primitive int -/
def k21 : Class := { plain "int" none with kind := .primitive 'I', accessFlags := 0x411 }
/-- [I -/
def k22 : Class := { plain "[I" (some 0) with kind := .array 21 .int, interfaces := #[16, 2], accessFlags := 1041 }

/-- [Ljava/lang/String; -/
def k23 : Class := { plain "[Ljava/lang/String;" (some 0) with kind := .array 7 (.object "java/lang/String"), interfaces := #[16, 2], accessFlags := 1041 }

def heap : Heap := #[{ cls := 7, slots := #[.long 0, .int 1, .null, .int 0, .null, .int 0, .int 0], vm := .statics 7 },
  { cls := 11, slots := #[.null, .null, .null], vm := .statics 11 }]
def classes : Array Class := #[k0, k1, k2, k3, k4, k5, k6, k7, k8, k9, k10, k11, k12, k13, k14, k15, k16, k17, k18, k19, k20, k21, k22, k23]
def interned : List (Array UInt16 × Addr) := []
def slotsUsed : Nat := 10
def theMethod : MethodId := ⟨1, 1⟩
def args0 : Array Value := #[.int 65, .int 66, .int 3, .int 2, .int 9, .int 14]
def aboutOver (below : List Frame) : State where
  vm := { classes := classes, interned := interned.toArray }
  heap := heap
  slotsUsed := slotsUsed
  threads := #[{ frames := .invoking theMethod args0 :: below }]
def below0 : List Frame := [.native { method := ⟨0, 0⟩, args := #[] }]
def about1 : State := aboutOver below0
def p0 : Program := .bare "" "" ""
def e0 : Env := launch0.env 0 0 0
theorem w_frames : about1.frames = Frame.invoking theMethod args0 :: below0 := rfl
theorem w_args : argsFit about1.vm theMethod args0 = true := by decide +kernel
theorem w_heap : heapFits about1 = true := by decide +kernel
theorem w_runnable : about1.curStatus? = some .runnable := by decide +kernel
theorem w_alone : about1.alone = true := by decide +kernel
theorem w_named : about1.methodNamed? x = some theMethod := by decide +kernel
theorem w_hears : about1.hears theMethod below0 = true := by decide +kernel
theorem w_ripe : about1.ripe theMethod args0 below0 = true := by decide +kernel
theorem w_running : about1.status = .running := rfl
theorem w_room : about1.hasRoom e0.platform room_1 = true :=
  launch0.hasRoom_least _ room_1 (by decide +kernel) (by decide +kernel) (by decide +kernel) (by decide +kernel) (by decide +kernel) (by decide +kernel)
theorem allAtoms_all (ts : List Jvm.Cond) (a : Array Jvm.Value) (st : Jvm.State) : (allAtoms ts).before a st = ts.all (fun c => c.before a st) := by
  induction ts with
  | nil => rfl
  | cons c t ih =>
    show (Jvm.Cond.and c (allAtoms t)).before a st = _
    rw [Jvm.Cond.before_and, ih, List.all_cons]
def words1 : List Jvm.Cond := Jvm.Cond.code x code maxLocals ret :: tables_1
/-- a 'code' word, met by the world's own term for the bytes: nothing is compared byte by byte -/
theorem code_word {y : MethodName} {bytes : ByteArray} {mx : Nat} {rt : Option FieldType} {a : Array Value} {s : State} {m : MethodId} {meth : Method} {c : Code} (h1 : s.methodNamed? y = some m) (h2 : s.vm.method? m = some meth) (h3 : meth.code = some c) (h4 : c.code = bytes)
    (h5 : (c.maxLocals == mx && c.exceptionTable.isEmpty && decide (c.maxStack ≤ mostOperands) && decide (meth.sig.returnType = rt) && !meth.locks && decide (parseMethodDescriptor y.desc = some meth.sig)) = true) : (Jvm.Cond.code y bytes mx rt).before a s = true := by
  simp only [Bool.and_eq_true, beq_iff_eq, Bool.not_eq_true', decide_eq_true_eq] at h5
  obtain ⟨⟨⟨⟨⟨g1, g2⟩, g3⟩, g4⟩, g5⟩, g6⟩ := h5
  simp [Cond.before, Cond.holds, Cond.value, h1, h2, h3, h4, g1, g2, g3, g4, g5, g6]
def isCode : Jvm.Cond → Bool
  | .code _ _ _ _ => true
  | _ => false
theorem all_split {L : List Jvm.Cond} {P : Jvm.Cond → Bool} (h1 : L.all (fun c => isCode c || P c) = true) (h2 : ∀ c ∈ L.filter isCode, P c = true) : L.all P = true := by
  refine List.all_eq_true.mpr fun c hc => ?_
  have h := List.all_eq_true.mp h1 c hc
  rcases Bool.eq_false_or_eq_true (isCode c) with hi | hi
  · exact h2 c (List.mem_filter.mpr ⟨hc, hi⟩)
  · simpa [hi] using h
theorem w_c0 : (Jvm.Cond.code x code maxLocals ret).before args0 about1 = true := code_word (m := ⟨1, 1⟩) (meth := k1m1) (c := k1c1) (by decide +kernel) rfl rfl rfl (by decide +kernel)
theorem w_c1 : (Jvm.Cond.code ({ cls := "java/lang/String", name := "valueOf", desc := "(C)Ljava/lang/String;" } : Jvm.MethodName) jdk_42_method_139_code (1 : Nat) (Option.some (Jvm.ClassFile.FieldType.object "java/lang/String"))).before args0 about1 = true := code_word (m := ⟨7, 6⟩) (meth := k7m6) (c := k7c6) (by decide +kernel) rfl rfl rfl (by decide +kernel)
theorem w_c2 : (Jvm.Cond.code ({ cls := "java/lang/StringLatin1", name := "canEncode", desc := "(C)Z" } : Jvm.MethodName) jdk_43_method_3_code (1 : Nat) (Option.some Jvm.ClassFile.FieldType.boolean)).before args0 about1 = true := code_word (m := ⟨8, 1⟩) (meth := k8m1) (c := k8c1) (by decide +kernel) rfl rfl rfl (by decide +kernel)
theorem w_c3 : (Jvm.Cond.code ({ cls := "java/lang/StringLatin1", name := "toBytes", desc := "(C)[B" } : Jvm.MethodName) jdk_43_method_46_code (1 : Nat) (Option.some (Jvm.ClassFile.FieldType.array Jvm.ClassFile.FieldType.byte))).before args0 about1 = true := code_word (m := ⟨8, 4⟩) (meth := k8m4) (c := k8c4) (by decide +kernel) rfl rfl rfl (by decide +kernel)
theorem w_c4 : (Jvm.Cond.code ({ cls := "java/lang/String", name := "<init>", desc := "([BB)V" } : Jvm.MethodName) jdk_42_method_151_code (3 : Nat) (Option.none : Option Jvm.ClassFile.FieldType)).before args0 about1 = true := code_word (m := ⟨7, 8⟩) (meth := k7m8) (c := k7c8) (by decide +kernel) rfl rfl rfl (by decide +kernel)
theorem w_c5 : (Jvm.Cond.code ({ cls := "java/lang/Object", name := "<init>", desc := "()V" } : Jvm.MethodName) object_method_1_code (1 : Nat) (Option.none : Option Jvm.ClassFile.FieldType)).before args0 about1 = true := code_word (m := ⟨0, 0⟩) (meth := k0m0) (c := k0c0) (by decide +kernel) rfl rfl rfl (by decide +kernel)
theorem w_c6 : (Jvm.Cond.code ({ cls := "com/example/satzung/satzung/parse/Attributes", name := "<init>", desc := "()V" } : Jvm.MethodName) prog_64_method_1_code (1 : Nat) (Option.none : Option Jvm.ClassFile.FieldType)).before args0 about1 = true := code_word (m := ⟨9, 0⟩) (meth := k9m0) (c := k9c0) (by decide +kernel) rfl rfl rfl (by decide +kernel)
theorem w_c7 : (Jvm.Cond.code ({ cls := "com/example/satzung/satzung/parse/Attributes", name := "add", desc := "(Ljava/lang/String;Ljava/lang/String;)V" } : Jvm.MethodName) prog_64_method_8_code (3 : Nat) (Option.none : Option Jvm.ClassFile.FieldType)).before args0 about1 = true := code_word (m := ⟨9, 5⟩) (meth := k9m5) (c := k9c5) (by decide +kernel) rfl rfl rfl (by decide +kernel)
theorem w_c8 : (Jvm.Cond.code ({ cls := "com/example/satzung/satzung/parse/Attributes", name := "append", desc := "(Ljava/lang/String;Ljava/lang/String;)V" } : Jvm.MethodName) prog_64_method_12_code (4 : Nat) (Option.none : Option Jvm.ClassFile.FieldType)).before args0 about1 = true := code_word (m := ⟨9, 9⟩) (meth := k9m9) (c := k9c9) (by decide +kernel) rfl rfl rfl (by decide +kernel)
theorem w_c9 : (Jvm.Cond.code ({ cls := "com/example/satzung/satzung/parse/Attributes", name := "addDefault", desc := "(Ljava/lang/String;Ljava/lang/String;)V" } : Jvm.MethodName) prog_64_method_10_code (3 : Nat) (Option.none : Option Jvm.ClassFile.FieldType)).before args0 about1 = true := code_word (m := ⟨9, 7⟩) (meth := k9m7) (c := k9c7) (by decide +kernel) rfl rfl rfl (by decide +kernel)
theorem w_c10 : (Jvm.Cond.code ({ cls := "com/example/satzung/satzung/parse/Attributes", name := "clear", desc := "()V" } : Jvm.MethodName) prog_64_method_11_code (1 : Nat) (Option.none : Option Jvm.ClassFile.FieldType)).before args0 about1 = true := code_word (m := ⟨9, 8⟩) (meth := k9m8) (c := k9c8) (by decide +kernel) rfl rfl rfl (by decide +kernel)
theorem w_c11 : (Jvm.Cond.code ({ cls := "com/example/satzung/satzung/parse/Attributes", name := "size", desc := "()I" } : Jvm.MethodName) prog_64_method_2_code (1 : Nat) (Option.some Jvm.ClassFile.FieldType.int)).before args0 about1 = true := code_word (m := ⟨9, 1⟩) (meth := k9m1) (c := k9c1) (by decide +kernel) rfl rfl rfl (by decide +kernel)
theorem w_c12 : (Jvm.Cond.code ({ cls := "com/example/satzung/satzung/parse/Attributes", name := "specified", desc := "()I" } : Jvm.MethodName) prog_64_method_3_code (1 : Nat) (Option.some Jvm.ClassFile.FieldType.int)).before args0 about1 = true := code_word (m := ⟨9, 2⟩) (meth := k9m2) (c := k9c2) (by decide +kernel) rfl rfl rfl (by decide +kernel)
theorem w_c13 : (Jvm.Cond.code ({ cls := "com/example/satzung/satzung/parse/Attributes", name := "add", desc := "(Ljava/lang/String;[CII)V" } : Jvm.MethodName) prog_64_method_9_code (5 : Nat) (Option.none : Option Jvm.ClassFile.FieldType)).before args0 about1 = true := code_word (m := ⟨9, 6⟩) (meth := k9m6) (c := k9c6) (by decide +kernel) rfl rfl rfl (by decide +kernel)
theorem w_c14 : (Jvm.Cond.code ({ cls := "java/lang/String", name := "equals", desc := "(Ljava/lang/Object;)Z" } : Jvm.MethodName) jdk_42_method_66_code (3 : Nat) (Option.some Jvm.ClassFile.FieldType.boolean)).before args0 about1 = true := code_word (m := ⟨7, 4⟩) (meth := k7m4) (c := k7c4) (by decide +kernel) rfl rfl rfl (by decide +kernel)
theorem w_c15 : (Jvm.Cond.code ({ cls := "java/lang/StringLatin1", name := "equals", desc := "([B[B)Z" } : Jvm.MethodName) jdk_43_method_13_code (3 : Nat) (Option.some Jvm.ClassFile.FieldType.boolean)).before args0 about1 = true := code_word (m := ⟨8, 2⟩) (meth := k8m2) (c := k8c2) (by decide +kernel) rfl rfl rfl (by decide +kernel)
theorem w_c16 : (Jvm.Cond.code ({ cls := "com/example/satzung/satzung/parse/Attributes", name := "value", desc := "(I)Ljava/lang/String;" } : Jvm.MethodName) prog_64_method_6_code (3 : Nat) (Option.some (Jvm.ClassFile.FieldType.object "java/lang/String"))).before args0 about1 = true := code_word (m := ⟨9, 3⟩) (meth := k9m3) (c := k9c3) (by decide +kernel) rfl rfl rfl (by decide +kernel)
theorem w_c17 : (Jvm.Cond.code ({ cls := "com/example/satzung/satzung/parse/Attributes", name := "checked", desc := "(I)I" } : Jvm.MethodName) prog_64_method_13_code (2 : Nat) (Option.some Jvm.ClassFile.FieldType.int)).before args0 about1 = true := code_word (m := ⟨9, 10⟩) (meth := k9m10) (c := k9c10) (by decide +kernel) rfl rfl rfl (by decide +kernel)
theorem w_c18 : (Jvm.Cond.code ({ cls := "java/lang/String", name := "<init>", desc := "([CII)V" } : Jvm.MethodName) jdk_42_method_4_code (4 : Nat) (Option.none : Option Jvm.ClassFile.FieldType)).before args0 about1 = true := code_word (m := ⟨7, 2⟩) (meth := k7m2) (c := k7c2) (by decide +kernel) rfl rfl rfl (by decide +kernel)
theorem w_c19 : (Jvm.Cond.code ({ cls := "java/lang/String", name := "rangeCheck", desc := "([CII)Ljava/lang/Void;" } : Jvm.MethodName) jdk_42_method_5_code (3 : Nat) (Option.some (Jvm.ClassFile.FieldType.object "java/lang/Void"))).before args0 about1 = true := code_word (m := ⟨7, 3⟩) (meth := k7m3) (c := k7c3) (by decide +kernel) rfl rfl rfl (by decide +kernel)
theorem w_c20 : (Jvm.Cond.code ({ cls := "java/lang/String", name := "checkBoundsOffCount", desc := "(III)I" } : Jvm.MethodName) jdk_42_method_157_code (3 : Nat) (Option.some Jvm.ClassFile.FieldType.int)).before args0 about1 = true := code_word (m := ⟨7, 10⟩) (meth := k7m10) (c := k7c10) (by decide +kernel) rfl rfl rfl (by decide +kernel)
theorem w_c21 : (Jvm.Cond.code ({ cls := "jdk/internal/util/Preconditions", name := "checkFromIndexSize", desc := "(IIILjava/util/function/BiFunction;)I" } : Jvm.MethodName) jdk_41_method_13_code (4 : Nat) (Option.some Jvm.ClassFile.FieldType.int)).before args0 about1 = true := code_word (m := ⟨11, 1⟩) (meth := k11m1) (c := k11c1) (by decide +kernel) rfl rfl rfl (by decide +kernel)
theorem w_c22 : (Jvm.Cond.code ({ cls := "java/lang/String", name := "<init>", desc := "([CIILjava/lang/Void;)V" } : Jvm.MethodName) jdk_42_method_149_code (6 : Nat) (Option.none : Option Jvm.ClassFile.FieldType)).before args0 about1 = true := code_word (m := ⟨7, 7⟩) (meth := k7m7) (c := k7c7) (by decide +kernel) rfl rfl rfl (by decide +kernel)
theorem w_c23 : (Jvm.Cond.code ({ cls := "com/example/satzung/satzung/parse/Attributes", name := "indexOf", desc := "(Ljava/lang/String;)I" } : Jvm.MethodName) prog_64_method_7_code (5 : Nat) (Option.some Jvm.ClassFile.FieldType.int)).before args0 about1 = true := code_word (m := ⟨9, 4⟩) (meth := k9m4) (c := k9c4) (by decide +kernel) rfl rfl rfl (by decide +kernel)
theorem w_c24 : (Jvm.Cond.code ({ cls := "java/lang/String", name := "hashCode", desc := "()I" } : Jvm.MethodName) jdk_42_method_78_code (2 : Nat) (Option.some Jvm.ClassFile.FieldType.int)).before args0 about1 = true := code_word (m := ⟨7, 5⟩) (meth := k7m5) (c := k7c5) (by decide +kernel) rfl rfl rfl (by decide +kernel)
theorem w_c25 : (Jvm.Cond.code ({ cls := "java/lang/String", name := "isLatin1", desc := "()Z" } : Jvm.MethodName) jdk_42_method_154_code (1 : Nat) (Option.some Jvm.ClassFile.FieldType.boolean)).before args0 about1 = true := code_word (m := ⟨7, 9⟩) (meth := k7m9) (c := k7c9) (by decide +kernel) rfl rfl rfl (by decide +kernel)
theorem w_c26 : (Jvm.Cond.code ({ cls := "java/lang/StringLatin1", name := "hashCode", desc := "([B)I" } : Jvm.MethodName) jdk_43_method_21_code (1 : Nat) (Option.some Jvm.ClassFile.FieldType.int)).before args0 about1 = true := code_word (m := ⟨8, 3⟩) (meth := k8m3) (c := k8c3) (by decide +kernel) rfl rfl rfl (by decide +kernel)
theorem w_c27 : (Jvm.Cond.code ({ cls := "java/lang/Math", name := "max", desc := "(II)I" } : Jvm.MethodName) jdk_29_method_65_code (2 : Nat) (Option.some Jvm.ClassFile.FieldType.int)).before args0 about1 = true := code_word (m := ⟨12, 1⟩) (meth := k12m1) (c := k12c1) (by decide +kernel) rfl rfl rfl (by decide +kernel)
theorem w_c28 : (Jvm.Cond.code ({ cls := "java/util/Arrays", name := "copyOf", desc := "([CI)[C" } : Jvm.MethodName) jdk_65_method_125_code (3 : Nat) (Option.some (Jvm.ClassFile.FieldType.array Jvm.ClassFile.FieldType.char))).before args0 about1 = true := code_word (m := ⟨13, 1⟩) (meth := k13m1) (c := k13c1) (by decide +kernel) rfl rfl rfl (by decide +kernel)
theorem w_c29 : (Jvm.Cond.code ({ cls := "java/lang/Math", name := "min", desc := "(II)I" } : Jvm.MethodName) jdk_29_method_69_code (2 : Nat) (Option.some Jvm.ClassFile.FieldType.int)).before args0 about1 = true := code_word (m := ⟨12, 2⟩) (meth := k12m2) (c := k12c2) (by decide +kernel) rfl rfl rfl (by decide +kernel)
theorem w_c30 : (Jvm.Cond.code ({ cls := "java/lang/String", name := "<init>", desc := "([C)V" } : Jvm.MethodName) jdk_42_method_3_code (2 : Nat) (Option.none : Option Jvm.ClassFile.FieldType)).before args0 about1 = true := code_word (m := ⟨7, 1⟩) (meth := k7m1) (c := k7c1) (by decide +kernel) rfl rfl rfl (by decide +kernel)
theorem w_c31 : (Jvm.Cond.code ({ cls := "java/lang/StringUTF16", name := "compress", desc := "([CII)[B" } : Jvm.MethodName) jdk_52_method_16_code (6 : Nat) (Option.some (Jvm.ClassFile.FieldType.array Jvm.ClassFile.FieldType.byte))).before args0 about1 = true := code_word (m := ⟨14, 2⟩) (meth := k14m2) (c := k14c2) (by decide +kernel) rfl rfl rfl (by decide +kernel)
theorem w_c32 : (Jvm.Cond.code ({ cls := "java/lang/StringUTF16", name := "compress", desc := "([CI[BII)I" } : Jvm.MethodName) jdk_52_method_21_code (7 : Nat) (Option.some Jvm.ClassFile.FieldType.int)).before args0 about1 = true := code_word (m := ⟨14, 3⟩) (meth := k14m3) (c := k14c3) (by decide +kernel) rfl rfl rfl (by decide +kernel)
theorem w_c33 : (Jvm.Cond.code ({ cls := "java/lang/StringUTF16", name := "coderFromArrayLen", desc := "([BI)B" } : Jvm.MethodName) jdk_52_method_15_code (2 : Nat) (Option.some Jvm.ClassFile.FieldType.byte)).before args0 about1 = true := code_word (m := ⟨14, 1⟩) (meth := k14m1) (c := k14c1) (by decide +kernel) rfl rfl rfl (by decide +kernel)
def codes1 : List Jvm.Cond := [Jvm.Cond.code x code maxLocals ret, Jvm.Cond.code ({ cls := "java/lang/String", name := "valueOf", desc := "(C)Ljava/lang/String;" } : Jvm.MethodName) jdk_42_method_139_code (1 : Nat) (Option.some (Jvm.ClassFile.FieldType.object "java/lang/String")), Jvm.Cond.code ({ cls := "java/lang/StringLatin1", name := "canEncode", desc := "(C)Z" } : Jvm.MethodName) jdk_43_method_3_code (1 : Nat) (Option.some Jvm.ClassFile.FieldType.boolean), Jvm.Cond.code ({ cls := "java/lang/StringLatin1", name := "toBytes", desc := "(C)[B" } : Jvm.MethodName) jdk_43_method_46_code (1 : Nat) (Option.some (Jvm.ClassFile.FieldType.array Jvm.ClassFile.FieldType.byte)), Jvm.Cond.code ({ cls := "java/lang/String", name := "<init>", desc := "([BB)V" } : Jvm.MethodName) jdk_42_method_151_code (3 : Nat) (Option.none : Option Jvm.ClassFile.FieldType), Jvm.Cond.code ({ cls := "java/lang/Object", name := "<init>", desc := "()V" } : Jvm.MethodName) object_method_1_code (1 : Nat) (Option.none : Option Jvm.ClassFile.FieldType), Jvm.Cond.code ({ cls := "com/example/satzung/satzung/parse/Attributes", name := "<init>", desc := "()V" } : Jvm.MethodName) prog_64_method_1_code (1 : Nat) (Option.none : Option Jvm.ClassFile.FieldType), Jvm.Cond.code ({ cls := "com/example/satzung/satzung/parse/Attributes", name := "add", desc := "(Ljava/lang/String;Ljava/lang/String;)V" } : Jvm.MethodName) prog_64_method_8_code (3 : Nat) (Option.none : Option Jvm.ClassFile.FieldType), Jvm.Cond.code ({ cls := "com/example/satzung/satzung/parse/Attributes", name := "append", desc := "(Ljava/lang/String;Ljava/lang/String;)V" } : Jvm.MethodName) prog_64_method_12_code (4 : Nat) (Option.none : Option Jvm.ClassFile.FieldType), Jvm.Cond.code ({ cls := "com/example/satzung/satzung/parse/Attributes", name := "addDefault", desc := "(Ljava/lang/String;Ljava/lang/String;)V" } : Jvm.MethodName) prog_64_method_10_code (3 : Nat) (Option.none : Option Jvm.ClassFile.FieldType), Jvm.Cond.code ({ cls := "com/example/satzung/satzung/parse/Attributes", name := "clear", desc := "()V" } : Jvm.MethodName) prog_64_method_11_code (1 : Nat) (Option.none : Option Jvm.ClassFile.FieldType), Jvm.Cond.code ({ cls := "com/example/satzung/satzung/parse/Attributes", name := "size", desc := "()I" } : Jvm.MethodName) prog_64_method_2_code (1 : Nat) (Option.some Jvm.ClassFile.FieldType.int), Jvm.Cond.code ({ cls := "com/example/satzung/satzung/parse/Attributes", name := "specified", desc := "()I" } : Jvm.MethodName) prog_64_method_3_code (1 : Nat) (Option.some Jvm.ClassFile.FieldType.int), Jvm.Cond.code ({ cls := "com/example/satzung/satzung/parse/Attributes", name := "add", desc := "(Ljava/lang/String;[CII)V" } : Jvm.MethodName) prog_64_method_9_code (5 : Nat) (Option.none : Option Jvm.ClassFile.FieldType), Jvm.Cond.code ({ cls := "java/lang/String", name := "equals", desc := "(Ljava/lang/Object;)Z" } : Jvm.MethodName) jdk_42_method_66_code (3 : Nat) (Option.some Jvm.ClassFile.FieldType.boolean), Jvm.Cond.code ({ cls := "java/lang/StringLatin1", name := "equals", desc := "([B[B)Z" } : Jvm.MethodName) jdk_43_method_13_code (3 : Nat) (Option.some Jvm.ClassFile.FieldType.boolean), Jvm.Cond.code ({ cls := "com/example/satzung/satzung/parse/Attributes", name := "value", desc := "(I)Ljava/lang/String;" } : Jvm.MethodName) prog_64_method_6_code (3 : Nat) (Option.some (Jvm.ClassFile.FieldType.object "java/lang/String")), Jvm.Cond.code ({ cls := "com/example/satzung/satzung/parse/Attributes", name := "checked", desc := "(I)I" } : Jvm.MethodName) prog_64_method_13_code (2 : Nat) (Option.some Jvm.ClassFile.FieldType.int), Jvm.Cond.code ({ cls := "java/lang/String", name := "<init>", desc := "([CII)V" } : Jvm.MethodName) jdk_42_method_4_code (4 : Nat) (Option.none : Option Jvm.ClassFile.FieldType), Jvm.Cond.code ({ cls := "java/lang/String", name := "rangeCheck", desc := "([CII)Ljava/lang/Void;" } : Jvm.MethodName) jdk_42_method_5_code (3 : Nat) (Option.some (Jvm.ClassFile.FieldType.object "java/lang/Void")), Jvm.Cond.code ({ cls := "java/lang/String", name := "checkBoundsOffCount", desc := "(III)I" } : Jvm.MethodName) jdk_42_method_157_code (3 : Nat) (Option.some Jvm.ClassFile.FieldType.int), Jvm.Cond.code ({ cls := "jdk/internal/util/Preconditions", name := "checkFromIndexSize", desc := "(IIILjava/util/function/BiFunction;)I" } : Jvm.MethodName) jdk_41_method_13_code (4 : Nat) (Option.some Jvm.ClassFile.FieldType.int), Jvm.Cond.code ({ cls := "java/lang/String", name := "<init>", desc := "([CIILjava/lang/Void;)V" } : Jvm.MethodName) jdk_42_method_149_code (6 : Nat) (Option.none : Option Jvm.ClassFile.FieldType), Jvm.Cond.code ({ cls := "com/example/satzung/satzung/parse/Attributes", name := "indexOf", desc := "(Ljava/lang/String;)I" } : Jvm.MethodName) prog_64_method_7_code (5 : Nat) (Option.some Jvm.ClassFile.FieldType.int), Jvm.Cond.code ({ cls := "java/lang/String", name := "hashCode", desc := "()I" } : Jvm.MethodName) jdk_42_method_78_code (2 : Nat) (Option.some Jvm.ClassFile.FieldType.int), Jvm.Cond.code ({ cls := "java/lang/String", name := "isLatin1", desc := "()Z" } : Jvm.MethodName) jdk_42_method_154_code (1 : Nat) (Option.some Jvm.ClassFile.FieldType.boolean), Jvm.Cond.code ({ cls := "java/lang/StringLatin1", name := "hashCode", desc := "([B)I" } : Jvm.MethodName) jdk_43_method_21_code (1 : Nat) (Option.some Jvm.ClassFile.FieldType.int), Jvm.Cond.code ({ cls := "java/lang/Math", name := "max", desc := "(II)I" } : Jvm.MethodName) jdk_29_method_65_code (2 : Nat) (Option.some Jvm.ClassFile.FieldType.int), Jvm.Cond.code ({ cls := "java/util/Arrays", name := "copyOf", desc := "([CI)[C" } : Jvm.MethodName) jdk_65_method_125_code (3 : Nat) (Option.some (Jvm.ClassFile.FieldType.array Jvm.ClassFile.FieldType.char)), Jvm.Cond.code ({ cls := "java/lang/Math", name := "min", desc := "(II)I" } : Jvm.MethodName) jdk_29_method_69_code (2 : Nat) (Option.some Jvm.ClassFile.FieldType.int), Jvm.Cond.code ({ cls := "java/lang/String", name := "<init>", desc := "([C)V" } : Jvm.MethodName) jdk_42_method_3_code (2 : Nat) (Option.none : Option Jvm.ClassFile.FieldType), Jvm.Cond.code ({ cls := "java/lang/StringUTF16", name := "compress", desc := "([CII)[B" } : Jvm.MethodName) jdk_52_method_16_code (6 : Nat) (Option.some (Jvm.ClassFile.FieldType.array Jvm.ClassFile.FieldType.byte)), Jvm.Cond.code ({ cls := "java/lang/StringUTF16", name := "compress", desc := "([CI[BII)I" } : Jvm.MethodName) jdk_52_method_21_code (7 : Nat) (Option.some Jvm.ClassFile.FieldType.int), Jvm.Cond.code ({ cls := "java/lang/StringUTF16", name := "coderFromArrayLen", desc := "([BI)B" } : Jvm.MethodName) jdk_52_method_15_code (2 : Nat) (Option.some Jvm.ClassFile.FieldType.byte)]
theorem codes_eq : words1.filter isCode = codes1 := rfl
theorem w_codes : ∀ c ∈ words1.filter isCode, c.before args0 about1 = true := by
  rw [codes_eq]
  intro c hc
  simp only [codes1, List.mem_cons, List.not_mem_nil, or_false] at hc
  rcases hc with rfl | rfl | rfl | rfl | rfl | rfl | rfl | rfl | rfl | rfl | rfl | rfl | rfl | rfl | rfl | rfl | rfl | rfl | rfl | rfl | rfl | rfl | rfl | rfl | rfl | rfl | rfl | rfl | rfl | rfl | rfl | rfl | rfl | rfl
  · exact w_c0
  · exact w_c1
  · exact w_c2
  · exact w_c3
  · exact w_c4
  · exact w_c5
  · exact w_c6
  · exact w_c7
  · exact w_c8
  · exact w_c9
  · exact w_c10
  · exact w_c11
  · exact w_c12
  · exact w_c13
  · exact w_c14
  · exact w_c15
  · exact w_c16
  · exact w_c17
  · exact w_c18
  · exact w_c19
  · exact w_c20
  · exact w_c21
  · exact w_c22
  · exact w_c23
  · exact w_c24
  · exact w_c25
  · exact w_c26
  · exact w_c27
  · exact w_c28
  · exact w_c29
  · exact w_c30
  · exact w_c31
  · exact w_c32
  · exact w_c33
theorem w_t1 : (words1.take 24).all (fun c => isCode c || c.before args0 about1) = true := by decide +kernel
theorem w_t2 : ((words1.drop 24).take 24).all (fun c => isCode c || c.before args0 about1) = true := by decide +kernel
theorem w_t3 : (((words1.drop 24).drop 24).take 24).all (fun c => isCode c || c.before args0 about1) = true := by decide +kernel
theorem w_t4 : ((((words1.drop 24).drop 24).drop 24).take 24).all (fun c => isCode c || c.before args0 about1) = true := by decide +kernel
theorem w_t5 : (((((words1.drop 24).drop 24).drop 24).drop 24).take 24).all (fun c => isCode c || c.before args0 about1) = true := by decide +kernel
theorem w_t6 : ((((((words1.drop 24).drop 24).drop 24).drop 24).drop 24).take 24).all (fun c => isCode c || c.before args0 about1) = true := by decide +kernel
theorem w_t7 : (((((((words1.drop 24).drop 24).drop 24).drop 24).drop 24).drop 24).take 24).all (fun c => isCode c || c.before args0 about1) = true := by decide +kernel
theorem w_t8 : (((((((words1.drop 24).drop 24).drop 24).drop 24).drop 24).drop 24).drop 24).all (fun c => isCode c || c.before args0 about1) = true := by decide +kernel
theorem w_tables : (allAtoms (Jvm.Cond.code x code maxLocals ret :: tables_1)).before args0 about1 = true := by
  rw [allAtoms_all]
  show words1.all (fun c => c.before args0 about1) = true
  refine all_split ?_ w_codes
  rw [← List.take_append_drop 24 words1, List.all_append, w_t1, ← List.take_append_drop 24 (words1.drop 24), List.all_append, w_t2, ← List.take_append_drop 24 ((words1.drop 24).drop 24), List.all_append, w_t3, ← List.take_append_drop 24 (((words1.drop 24).drop 24).drop 24), List.all_append, w_t4, ← List.take_append_drop 24 ((((words1.drop 24).drop 24).drop 24).drop 24), List.all_append, w_t5, ← List.take_append_drop 24 (((((words1.drop 24).drop 24).drop 24).drop 24).drop 24), List.all_append, w_t6, ← List.take_append_drop 24 ((((((words1.drop 24).drop 24).drop 24).drop 24).drop 24).drop 24), List.all_append, w_t7, w_t8]
  rfl
theorem w_rest : rest_1_c.before args0 about1 = true := by decide +kernel
theorem w_case : (Jvm.Cond.and given_1 narrow_1).before args0 about1 = true := by decide +kernel
theorem w_consts : constsHeld consts_1 about1 := Jvm.Lit.constsHeldB_iff.mp (by decide +kernel)
theorem w_applies : (headSpec (Jvm.Cond.code x code maxLocals ret :: tables_1) room_1).applies x e0.platform about1 = true :=
  (Spec.applies_iff w_frames).mpr ⟨w_running, w_runnable, w_alone, w_named, w_hears, w_ripe, w_room, w_tables⟩
theorem atStart : AtStart classFile x code maxLocals ret World_1 tables_1 room_1 Calls_1 rest_1 Pre_1 launch0 p0 e0 about1 theMethod args0 below0 :=
  ⟨lists_1, trivial, launch0.admits_env _ _ _, launch0.least_env, fairChoices_fair.cas, fairChoices_fair.clock, w_frames, w_args, w_heap, w_applies, ⟨w_consts, trivial⟩, w_rest, w_case⟩
end start1
theorem witness_1 : WitnessClaimed_1 := ⟨start1.p0, start1.e0, start1.about1, start1.theMethod, start1.args0, start1.below0, start1.atStart⟩
end Jvm.Pilot.@@N@@
