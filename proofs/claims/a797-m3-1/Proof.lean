import JvmDerived
import JvmDerived.Pilot.@@N@@Statement
import JvmDerived.Pilot.@@N@@Code
set_option linter.unusedVariables false
set_option linter.unusedSimpArgs false
namespace Jvm.Pilot.@@N@@
open Jvm Jvm.ClassFile Sem Op Lib Jvm.Free Jvm.Stand Jvm.LawKit Jvm.RoadKit Bundle Jvm.Pilot.@@N@@.Jvm.D
/-! 0. the run from a state on, said once: it ends, and how -/
def Go (p : Program) (e : Env) (below : List Frame) (s : State) (K N : Nat) (Q : Option Value → Heap → List Loc → Prop) (st : State) : Prop :=
  ∃ s₂ o, Steps p.tables e below st s₂ ∧ s₂.status = .running ∧ Ended s₂ below o ∧ ∃ v L, o = .returned v ∧ Q v s₂.heap L ∧ FrameEnd s o s₂ L K N
/-- what is known of the walk all along -/
def Ctx (p : Program) (s : State) (m : MethodId) (meth : Method) (c : Code) (Z : State) (bytes : ByteArray) (maxl : Nat) (own : String) (ret : Option FieldType) : Prop :=
  p.tables.exec = Jvm.exec ∧ Z.Warmed39 s.vm ∧ c.code = bytes ∧ c.maxLocals = maxl ∧ s.vm.findClass own = some m.cls ∧ meth.sig.returnType = ret ∧ meth.locks = false
/-- a value comes back, the heap is as it was -/
def QV (w : Value) (h0 : Heap) (n0 : Nat) (v : Option Value) (h : Heap) (L : List Loc) : Prop := v = some w ∧ Fr n0 L ∧ h = h0
section Own
variable {p : Program} {l : Launch} {e : Env} {R : Room} {s : State} {m : MethodId} {args : Array Value} {below : List Frame} {meth : Method} {c : Code} {T : State} {locs : List Loc} {cells slots K N : Nat} {Q : Option Value → Heap → List Loc → Prop} {st st' : State}
theorem Go.pre (h : ∀ t, Steps p.tables e below st' t → Steps p.tables e below st t) (k : Go p e below s K N Q st') : Go p e below s K N Q st := by
  obtain ⟨s₂, o, h1, h2⟩ := k; exact ⟨s₂, o, h _ h1, h2⟩
theorem Go.trans (h : Steps p.tables e below st st') (k : Go p e below s K N Q st') : Go p e below s K N Q st := by
  obtain ⟨s₂, o, h1, h2⟩ := k; exact ⟨s₂, o, h.trans h1, h2⟩
theorem Go.mono {Q' : Option Value → Heap → List Loc → Prop} (k : Go p e below s K N Q st) (h : ∀ v h L, Q v h L → Q' v h L) : Go p e below s K N Q' st := by
  obtain ⟨s₂, o, h1, h2, h3, v, L, h4, h5, h6⟩ := k; exact ⟨s₂, o, h1, h2, h3, v, L, h4, h _ _ _ h5, h6⟩
theorem Go.retN (X : Stand p l e R s m args below meth c T locs cells slots) (hx : p.tables.exec = Jvm.exec) (hlk : meth.locks = false) {pc : Nat} {Ls : Array Slot} {z z' : Int32} {t : FieldType} {rest : List Value} (hret : meth.sig.returnType = some t) (ht : t = .boolean ∨ t = .byte ∨ t = .char ∨ t = .short)
    (hd : decode c.code pc = .ok (.ireturn, 1)) (hz : nar t z = z') (hk : cells ≤ K) (hn : slots ≤ N) (hQ : Q (some (.int z')) T.heap locs) : Go p e below s K N Q (T.setTop (mkF m pc Ls (.int z :: rest))) := by
  subst hz
  obtain ⟨fs, hr, hrun, hended, hW, hsame⟩ := X.leave (v := some (.int (nar t z))) (fun h => by rw [hret] at h; cases h) hlk
  exact ⟨_, _, Jvm.RoadKit.retN X hx hret ht hd hr, hrun, hended, _, _, rfl, hQ, ⟨_, rfl⟩, hW, hsame.mono hk hn⟩
theorem Go.retV (X : Stand p l e R s m args below meth c T locs cells slots) (hx : p.tables.exec = Jvm.exec) (hlk : meth.locks = false) {pc : Nat} {Ls : Array Slot} {w : Value} {t : FieldType} {i : Instr} {rest : List Value} (hret : meth.sig.returnType = some t) (hnr : narrow t w = w)
    (hi : (i = .ireturn ∧ (t = .int ∨ t = .boolean ∨ t = .byte ∨ t = .char ∨ t = .short) ∧ ∃ z, w = .int z) ∨ (i = .lreturn ∧ t = .long ∧ ∃ z, w = .long z) ∨ (i = .dreturn ∧ t = .double ∧ ∃ z, w = .double z) ∨ (i = .freturn ∧ t = .float ∧ ∃ z, w = .float z) ∨ (i = .areturn ∧ t.isReference = true ∧ w.isRef = true))
    (hd : decode c.code pc = .ok (i, 1)) (hk : cells ≤ K) (hn : slots ≤ N) (hQ : Q (some w) T.heap locs) : Go p e below s K N Q (T.setTop (mkF m pc Ls (w :: rest))) := by
  obtain ⟨fs, hr, hrun, hended, hW, hsame⟩ := X.leave (v := some w) (fun h => by rw [hret] at h; cases h) hlk
  exact ⟨_, _, retOut X hx hret hnr hi hd hr, hrun, hended, _, _, rfl, hQ, ⟨_, rfl⟩, hW, hsame.mono hk hn⟩
theorem Go.ret0 (X : Stand p l e R s m args below meth c T locs cells slots) (hx : p.tables.exec = Jvm.exec) (hlk : meth.locks = false) {pc : Nat} {Ls : Array Slot} (hret : meth.sig.returnType = none)
    (hd : decode c.code pc = .ok (.return_, 1)) (hk : cells ≤ K) (hn : slots ≤ N) (hQ : Q none T.heap locs) : Go p e below s K N Q (T.setTop (mkF m pc Ls [])) := by
  obtain ⟨fs, hr, hrun, hended, hW, hsame⟩ := X.leave (v := none) (fun _ => rfl) hlk
  exact ⟨_, _, X.returnOut hx hret hd hr, hrun, hended, _, _, rfl, hQ, ⟨_, rfl⟩, hW, hsame.mono hk hn⟩
end Own

/-! walks that may intern -/
def GoW (p : Program) (e : Env) (below : List Frame) (s : State) (K N : Nat) (Q : Option Value → Vm → Heap → List Loc → Prop) (st : State) : Prop :=
  ∃ s₂ o, Steps p.tables e below st s₂ ∧ s₂.status = .running ∧ Ended s₂ below o ∧ ∃ v L, o = .returned v ∧ Q v s₂.vm s₂.heap L ∧ ReturnedEndW s o s₂ L K N
theorem retW_mono {s t : State} {o : Outcome} {L : List Loc} {k n k' n' : Nat} (h : ReturnedEndW s o t L k n) (h1 : k ≤ k') (h2 : n ≤ n') : ReturnedEndW s o t L k' n' := ⟨h.1, h.2.1, h.2.2.1, h.2.2.2.mono h1 h2⟩
theorem leH {T : State} {h : Heap} {k : Nat} (e : T.heap = h) (q : k ≤ h.size) : k ≤ T.heap.size := e ▸ q
theorem frS {s : State} {h0 : Heap} {n0 : Nat} {L : List Loc} (e : s.heap = h0) (q : n0 = h0.size) (N : Fr n0 L) : Fr s.heap.size L := by rw [e, ← q]; exact N
section OwnW
variable {p : Program} {l : Launch} {e : Env} {R : Room} {s : State} {vm0 vm1 : Vm} {m : MethodId} {args : Array Value} {below : List Frame} {meth : Method} {c : Code} {T Z : State} {locs : List Loc} {cells slots K N k0 : Nat} {Q : Option Value → Vm → Heap → List Loc → Prop} {st st' : State} {Ts : List String} {h : Heap} {a0 : Array Value}
theorem GoW.pre (h : ∀ t, Steps p.tables e below st' t → Steps p.tables e below st t) (k : GoW p e below s K N Q st') : GoW p e below s K N Q st := by
  obtain ⟨s₂, o, h1, h2⟩ := k; exact ⟨s₂, o, h _ h1, h2⟩
theorem GoW.trans (h : Steps p.tables e below st st') (k : GoW p e below s K N Q st') : GoW p e below s K N Q st := by
  obtain ⟨s₂, o, h1, h2⟩ := k; exact ⟨s₂, o, h.trans h1, h2⟩
theorem GoW.retN (X : Stand p l e R (s.setVm vm0) m args below meth c T locs cells slots) (hS : s.Since vm0 k0) (hk0 : k0 ≤ T.heap.size) (hx : p.tables.exec = Jvm.exec) (hlk : meth.locks = false) {pc : Nat} {Ls : Array Slot} {z z' : Int32} {t : FieldType} {rest : List Value} (hret : meth.sig.returnType = some t) (ht : t = .boolean ∨ t = .byte ∨ t = .char ∨ t = .short)
    (hd : decode c.code pc = .ok (.ireturn, 1)) (hz : nar t z = z') (hk : cells ≤ K) (hn : slots ≤ N) (hQ : Q (some (.int z')) T.vm T.heap locs) : GoW p e below s K N Q (T.setTop (mkF m pc Ls (.int z :: rest))) := by
  subst hz
  obtain ⟨fs, hr, hrun, hended, hE⟩ := X.leaveW hS hk0 (v := some (.int (nar t z))) (fun h => by rw [hret] at h; cases h) hlk
  exact ⟨_, _, Jvm.RoadKit.retN X hx hret ht hd hr, hrun, hended, _, _, rfl, hQ, retW_mono hE hk hn⟩
theorem GoW.retV (X : Stand p l e R (s.setVm vm0) m args below meth c T locs cells slots) (hS : s.Since vm0 k0) (hk0 : k0 ≤ T.heap.size) (hx : p.tables.exec = Jvm.exec) (hlk : meth.locks = false) {pc : Nat} {Ls : Array Slot} {w : Value} {t : FieldType} {i : Instr} {rest : List Value} (hret : meth.sig.returnType = some t) (hnr : narrow t w = w)
    (hi : (i = .ireturn ∧ (t = .int ∨ t = .boolean ∨ t = .byte ∨ t = .char ∨ t = .short) ∧ ∃ z, w = .int z) ∨ (i = .lreturn ∧ t = .long ∧ ∃ z, w = .long z) ∨ (i = .dreturn ∧ t = .double ∧ ∃ z, w = .double z) ∨ (i = .freturn ∧ t = .float ∧ ∃ z, w = .float z) ∨ (i = .areturn ∧ t.isReference = true ∧ w.isRef = true))
    (hd : decode c.code pc = .ok (i, 1)) (hk : cells ≤ K) (hn : slots ≤ N) (hQ : Q (some w) T.vm T.heap locs) : GoW p e below s K N Q (T.setTop (mkF m pc Ls (w :: rest))) := by
  obtain ⟨fs, hr, hrun, hended, hE⟩ := X.leaveW hS hk0 (v := some w) (fun h => by rw [hret] at h; cases h) hlk
  exact ⟨_, _, retOut X hx hret hnr hi hd hr, hrun, hended, _, _, rfl, hQ, retW_mono hE hk hn⟩
theorem GoW.ret0 (X : Stand p l e R (s.setVm vm0) m args below meth c T locs cells slots) (hS : s.Since vm0 k0) (hk0 : k0 ≤ T.heap.size) (hx : p.tables.exec = Jvm.exec) (hlk : meth.locks = false) {pc : Nat} {Ls : Array Slot} (hret : meth.sig.returnType = none)
    (hd : decode c.code pc = .ok (.return_, 1)) (hk : cells ≤ K) (hn : slots ≤ N) (hQ : Q none T.vm T.heap locs) : GoW p e below s K N Q (T.setTop (mkF m pc Ls [])) := by
  obtain ⟨fs, hr, hrun, hended, hE⟩ := X.leaveW hS hk0 (v := none) (fun _ => rfl) hlk
  exact ⟨_, _, X.returnOut hx hret hd hr, hrun, hended, _, _, rfl, hQ, retW_mono hE hk hn⟩
theorem IB.at (X : Stand p l e R (s.setVm vm0) m args below meth c T locs cells slots) (I : IB Z vm0 Ts) : IB Z T.vm Ts := by
  obtain ⟨more, e1, h1⟩ := I; exact ⟨more, X.warmed.interned_eq.trans e1, h1⟩
theorem IB.mv (I : IB Z vm0 Ts) (hvm : (s.setVm vm0).WarmedH vm1) : IB Z vm1 Ts := by
  obtain ⟨more, e1, h1⟩ := I; exact ⟨more, hvm.interned_eq.trans e1, h1⟩
theorem IB.sup {Ts' : List String} (I : IB Z vm0 Ts) (h : ∀ t ∈ Ts, t ∈ Ts') : IB Z vm0 Ts' := by
  obtain ⟨more, e1, h1⟩ := I; exact ⟨more, e1, fun q hq => by obtain ⟨t, ht, hd⟩ := h1 q hq; exact ⟨t, h t ht, hd⟩⟩
theorem backOfSI {y : MethodName} {bytes : ByteArray} {maxL : Nat} {ret : Option FieldType} {rm : Room} {len W : Nat} {as' : Array Value}
    (hM : MetFree l y (head1 [Cond.code y bytes maxL ret] rm) (fun a U => a = as' ∧ Z.Warmed39 U.vm ∧ U.heap = h ∧ IB Z U.vm Ts) (fun _ _ _ _ _ => True) (fun _ U o U' => ∃ v L, o = .returned v ∧ Q v U'.vm U'.heap L ∧ ReturnedEndW U o U' L rm.cells rm.slots))
    (hZ : Z.Warmed39 s.vm) (wc : (Cond.code y bytes maxL ret).before a0 Z = true) (wz : (Cond.initialized y.cls).before a0 Z = true) (hf : rm.frames + 1 ≤ R.frames) (hl : W + (maxL + 11) + rm.locals ≤ R.locals) :
    BackS l R p e below s args y len W (fun A a => a = as' ∧ A.U.heap = h ∧ A.cells + rm.cells ≤ R.cells ∧ A.slots + rm.slots ≤ R.slots ∧ IB Z A.U.vm Ts)
      (fun A _ v B => ∃ L, Q v B.U.vm B.U.heap L ∧ B.locs = A.locs ++ L ∧ B.cells = A.cells + rm.cells ∧ B.slots = A.slots + rm.slots) := by
  refine BackS.of_freeW (bytes := bytes) (maxL := maxL) (ret := ret) (E := fun _ _ o t L k n => k = rm.cells ∧ n = rm.slots ∧ ∃ v, o = .returned v ∧ Q v t.vm t.heap L) hM hf hl ?_ ?_ (fun _ _ _ _ _ _ _ _ _ => trivial) ?_ ?_
  · intro m meth c A a Y hp
    have hU : Z.Warmed39 A.U.vm := wtrans hZ Y.warmed
    refine ⟨?_, mv hU wc, mv hU wz, hp.2.2.1, hp.2.2.2.1⟩
    show (Cond.and _ .tt).before a A.U = true
    rw [Cond.before_and, mv hU wc]; rfl
  · intro m meth c A a g mk Y hp
    exact ⟨hp.1, wtrans hZ Y.warmed, hp.2.1, hp.2.2.2.2⟩
  · rintro _ _ _ _ ⟨v, L, h1, h2, h3⟩
    exact ⟨L, _, _, h3, rfl, rfl, v, h1, h2⟩
  · rintro m meth c A a g mk v t L k n Y hp _ _ ⟨e1, e2, v', e3, e4⟩
    cases e3; subst e1 e2
    exact ⟨L, e4, rfl, rfl, rfl⟩
end OwnW

/-! more of the kit's kind -/
/-- every field keeps what it held, but for the places in ps -/
def KF (Z : State) (h0 h : Heap) (ps : List (Addr × Nat)) : Prop := ∀ (b : Addr) (O n d : String) (w : Value), Fld Z h0 b O n d w → (∀ p ∈ ps, b ≠ p.1 ∨ Jvm.RoadKit.slotOf Z O n d ≠ p.2) → Fld Z h b O n d w
theorem KF.refl (Z : State) (h0 : Heap) (ps : List (Addr × Nat)) : KF Z h0 h0 ps := fun _ _ _ _ _ F _ => F
theorem KF.ext {Z : State} {h0 h h' : Heap} {ps : List (Addr × Nat)} (K : KF Z h0 h ps) (E : Ext h h') : KF Z h0 h' ps := fun b O n d w F q => (K b O n d w F q).ext E
theorem KF.wr {Z : State} {h0 h h' : Heap} {ps : List (Addr × Nat)} {a : Addr} {sl : Nat} {v : Value} (K : KF Z h0 h ps) (W : Wr h h' a sl v) (q : (a, sl) ∈ ps ∨ h0.size ≤ a) : KF Z h0 h' ps := fun b O n d w F r => by
  refine (K b O n d w F r).other W ?_
  rcases q with q | q
  · exact r _ q
  · exact Or.inl (Nat.ne_of_lt (Nat.lt_of_lt_of_le F.lt q))
theorem KF.trans {Z : State} {h0 h h' : Heap} {ps ps' : List (Addr × Nat)} (K : KF Z h0 h ps) (K' : KF Z h h' ps') (q : ∀ p ∈ ps', p ∈ ps ∨ h0.size ≤ p.1) : KF Z h0 h' ps := fun b O n d w F r => by
  refine K' b O n d w (K b O n d w F r) fun p hp => ?_
  rcases q p hp with q | q
  · exact r _ q
  · exact Or.inl (Nat.ne_of_lt (Nat.lt_of_lt_of_le F.lt q))
theorem pall0 {P : Addr × Nat → Prop} : ∀ x ∈ ([] : List (Addr × Nat)), P x := fun _ q => nomatch q
theorem pallS {P : Addr × Nat → Prop} {y : Addr × Nat} {L : List (Addr × Nat)} (q : P y) (r : ∀ x ∈ L, P x) : ∀ x ∈ y :: L, P x := fun x z => (List.mem_cons.mp z).elim (fun u => u ▸ q) (r x)
theorem padS {p : Program} {l : Launch} {e : Env} {R : Room} {s : State} {m : MethodId} {args : Array Value} {below : List Frame} {meth : Method} {c : Code} {T : State} {locs : List Loc} {k n k' n' : Nat} (X : Stand p l e R s m args below meth c T locs k n) (h1 : k ≤ k') (h2 : n ≤ n') : Stand p l e R s m args below meth c T locs k' n' :=
  ⟨X.admits, X.cas, X.clock, X.frames, X.room, X.hears, X.method, X.code, X.here, X.tail, X.warmed, X.limits, X.bytes, X.same.mono h1 h2⟩
theorem and11 (x : Int32) : nar .boolean (x &&& 1) = x &&& 1 := by
  show x &&& 1 &&& 1 = x &&& 1
  rw [Int32.and_assoc]; rfl
theorem fits_and1 (x : Int32) : fits .boolean (.int (x &&& 1)) = true := fits_nar_bool x
theorem narV {C : String} {v : Value} (h : v.isRef = true) : narrow (.object C) v = v := by rcases ref_cases h with rfl | ⟨a, rfl⟩ <;> rfl
theorem fitV {C : String} {v : Value} (h : v.isRef = true) : fits (.object C) v = true := by rcases ref_cases h with rfl | ⟨a, rfl⟩ <;> rfl

theorem own_wS {Z : State} {a0 : Array Value} (hw : ∀ d ∈ tables_1, d.before a0 Z = true) : ∀ a ∈ Bundle.stringAtoms, a.before a0 Z = true := by
  intro a ha
  simp only [Bundle.stringAtoms, Bundle.sN, List.mem_cons, List.not_mem_nil, or_false] at ha
  rcases ha with rfl | rfl | rfl | rfl | rfl | rfl | rfl
  · exact (hw _ (List.mem_of_getElem? (i := 2) rfl))
  · exact (hw _ (List.mem_of_getElem? (i := 10) rfl))
  · exact (hw _ (List.mem_of_getElem? (i := 14) rfl))
  · exact (hw _ (List.mem_of_getElem? (i := 23) rfl))
  · exact (hw _ (List.mem_of_getElem? (i := 25) rfl))
  · exact (hw _ (List.mem_of_getElem? (i := 107) rfl))
  · exact (hw _ (List.mem_of_getElem? (i := 108) rfl))
theorem own_i2c (x : Int32) (h : 0 ≤ x.toInt ∧ x.toInt ≤ 65535) : x.toUInt32.toUInt16.toUInt32.toInt32.toInt = x.toInt := by
  have := c_i2c x
  omega
theorem own_m255 (x : Int32) : 0 ≤ (x &&& (255 : Int32)).toInt ∧ (x &&& (255 : Int32)).toInt ≤ 255 := by
  have h := c_and x (255 : Int32) (by decide)
  have e : (255 : Int32).toInt = 255 := by decide
  omega
theorem own_c255 (x : Int32) : ¬ (255 : Int32) < ((x &&& (255 : Int32)).toUInt32.toUInt16.toUInt32.toInt32) := by
  have h := own_m255 x
  have h2 := own_i2c (x &&& (255 : Int32)) ⟨h.1, by omega⟩
  rw [Int32.lt_iff_toInt_lt, h2]
  have e : (255 : Int32).toInt = 255 := by decide
  omega
theorem own_c255n (x : Int32) : ¬ (255 : Int32) < nar .char ((x &&& (255 : Int32)).toUInt32.toUInt16.toUInt32.toInt32) := by
  have h := own_m255 x
  have h2 := own_i2c (x &&& (255 : Int32)) ⟨h.1, by omega⟩
  have h3 := own_i2c ((x &&& (255 : Int32)).toUInt32.toUInt16.toUInt32.toInt32) (by rw [h2]; omega)
  rw [Int32.lt_iff_toInt_lt]
  show ¬ _ < (((x &&& (255 : Int32)).toUInt32.toUInt16.toUInt32.toInt32).toUInt32.toUInt16.toUInt32.toInt32).toInt
  rw [h3, h2]
  have e : (255 : Int32).toInt = 255 := by decide
  omega
/-! StringLatin1.canEncode (2) -/
theorem d2_0 : decode jdk_43_method_3_code 0 = .ok (.iload_n 0, 1) := by decide +kernel
theorem d2_1 : decode jdk_43_method_3_code 1 = .ok (.sipush 255, 3) := by decide +kernel
theorem d2_4 : decode jdk_43_method_3_code 4 = .ok (.if_icmp .gt 7, 3) := by decide +kernel
theorem d2_7 : decode jdk_43_method_3_code 7 = .ok (.iconst 1, 1) := by decide +kernel
theorem d2_8 : decode jdk_43_method_3_code 8 = .ok (.goto 4, 3) := by decide +kernel
theorem d2_12 : decode jdk_43_method_3_code 12 = .ok (.ireturn, 1) := by decide +kernel
theorem pn_2 : plainName "java/lang/StringLatin1" = true := by first | (simp [plainName, overriddenIn]; done) | decide +kernel
theorem ef_2 (m : MethodId) (p0 : Int32) : entryFrame m #[(.int p0)] 1 = (mkF m 0 #[.val (.int p0)] []) := by first | (simp [entryFrame, mkF, argsToLocals, Value.category]; done) | rfl
def Q2 (Z : State) (p0 : Int32) (h0 : Heap) (n0 : Nat) (v : Option Value) (h : Heap) (L : List Loc) : Prop := v = some (.int (1 : Int32)) ∧ Fr n0 L ∧ h = h0
set_option maxRecDepth 65536 in
set_option maxHeartbeats 40000000 in
theorem rm2 (l : Launch) (Z : State) (a0 : Array Value) (hw : ∀ d ∈ tables_1, d.before a0 Z = true) (ws : List Jvm.Cond) (p0 : Int32) (h0 : Heap) (n0 : Nat) (Z0 : n0 ≤ h0.size) (hc4 : ¬ ((255 : Int32) < p0)) :
    MetFree l (⟨"java/lang/StringLatin1", "canEncode", "(C)Z"⟩ : MethodName) (head1 (Jvm.Cond.code (⟨"java/lang/StringLatin1", "canEncode", "(C)Z"⟩ : MethodName) jdk_43_method_3_code 1 (some .boolean) :: ws) ({ frames := 0, cells := 0, slots := 0, locals := 0 } : Room)) (fun a U => a = #[(.int p0)] ∧ Z.Warmed39 U.vm ∧ U.heap = h0) (fun _ _ _ _ _ => True) (fun _ U o U' => ∃ v L, o = .returned v ∧ Q2 Z p0 h0 n0 v U'.heap L ∧ FrameEnd U o U' L ({ frames := 0, cells := 0, slots := 0, locals := 0 } : Room).cells ({ frames := 0, cells := 0, slots := 0, locals := 0 } : Room).slots) := by
  refine MetFree.of_bodySF (plainFor_of_name pn_2) hisR ?_
  intro p e s m args below meth c s₁ Bd hml0 hP hK
  obtain ⟨rfl, hZ, hh⟩ := hP
  have hx := Bd.exec
  have hby := Bd.bytes
  have hml : c.maxLocals = 1 := hml0
  have hown : s.vm.findClass "java/lang/StringLatin1" = some m.cls := findClass_of_methodNamed Bd.named
  have hnm := (name_of_methodNamed Bd.named Bd.method).1
  have hrt := Bd.returns
  have hlk := Bd.notSynchronized
  have X0 : Stand p l e ({ frames := 0, cells := 0, slots := 0, locals := 0 } : Room) s m #[(.int p0)] below meth c s₁ [] 0 0 := Stand.of_body Bd
  have e0 : s₁.heap = h0 := by rw [← hh, Bd.state]; rfl
  have N0 := Fr.nil n0
  show Go p e below s 0 0 (Q2 Z p0 h0 n0) (s₁.setTop (entryFrame m #[(.int p0)] 1))
  rw [ef_2 m p0]
  refine Go.pre (st' := s₁.setTop (mkF m 12 #[.val (.int p0)] [(.int (1 : Int32))])) (fun target kt => ?_) ?_
  · show Steps p.tables e below (s₁.setTop (mkF m 0 #[.val (.int p0)] [])) _
    refine XS.iloadN X0.here hx rfl (hb hby d2_0) rfl ?_
    show Steps p.tables e below (s₁.setTop (mkF m 1 #[.val (.int p0)] [(.int p0)])) _
    refine XS.sipush X0.here hx rfl (hb hby d2_1) ?_
    show Steps p.tables e below (s₁.setTop (mkF m 4 #[.val (.int p0)] [(.int (255 : Int32)), (.int p0)])) _
    refine XS.icmpNo X0.here hx rfl (hb hby d2_4) rfl (flt hc4).2.2.1 ?_
    show Steps p.tables e below (s₁.setTop (mkF m 7 #[.val (.int p0)] [])) _
    refine XS.iconst X0.here hx rfl (hb hby d2_7) ?_
    show Steps p.tables e below (s₁.setTop (mkF m 8 #[.val (.int p0)] [(.int (1 : Int32))])) _
    refine XS.goto X0.here hx rfl (pc0 := 8) (pc' := 12) rfl (hb hby d2_8) (by decide) (by decide) ?_
    exact kt
  exact Go.retN X0 hx hlk hrt (z' := (1 : Int32)) (by simp) (hb hby d2_12) rfl (by decide) (by decide) (by rw [e0]; exact ⟨rfl, N0, rfl⟩)
/-! StringLatin1.toBytes (3) -/
theorem d3_0 : decode jdk_43_method_46_code 0 = .ok (.iconst 1, 1) := by decide +kernel
theorem d3_1 : decode jdk_43_method_46_code 1 = .ok (.newarray .byte, 2) := by decide +kernel
theorem d3_3 : decode jdk_43_method_46_code 3 = .ok (.dup, 1) := by decide +kernel
theorem d3_4 : decode jdk_43_method_46_code 4 = .ok (.iconst 0, 1) := by decide +kernel
theorem d3_5 : decode jdk_43_method_46_code 5 = .ok (.iload_n 0, 1) := by decide +kernel
theorem d3_6 : decode jdk_43_method_46_code 6 = .ok (.i2b, 1) := by decide +kernel
theorem d3_7 : decode jdk_43_method_46_code 7 = .ok (.bastore, 1) := by decide +kernel
theorem d3_8 : decode jdk_43_method_46_code 8 = .ok (.areturn, 1) := by decide +kernel
theorem pn_3 : plainName "java/lang/StringLatin1" = true := by first | (simp [plainName, overriddenIn]; done) | decide +kernel
theorem ef_3 (m : MethodId) (p0 : Int32) : entryFrame m #[(.int p0)] 1 = (mkF m 0 #[.val (.int p0)] []) := by first | (simp [entryFrame, mkF, argsToLocals, Value.category]; done) | rfl
def Q3 (Z : State) (p0 : Int32) (h0 : Heap) (n0 : Nat) (v : Option Value) (h : Heap) (L : List Loc) : Prop := ∃ b1 : Addr, ∃ k1 : ClassId, v = some (.ref b1) ∧ Fr n0 L ∧ Keep h0 h [] ∧ KF Z h0 h [] ∧ LE.le (α := Nat) h0.size b1 ∧ LT.lt (α := Nat) b1 h.size ∧ Arv Z h b1 k1 .byte (1 : Int32) [(.int (nar .byte (p0.toInt8.toInt32)))] (.int (0 : Int32))
set_option maxRecDepth 65536 in
set_option maxHeartbeats 40000000 in
theorem rm3 (l : Launch) (Z : State) (a0 : Array Value) (hw : ∀ d ∈ tables_1, d.before a0 Z = true) (ws : List Jvm.Cond) (p0 : Int32) (h0 : Heap) (n0 : Nat) (Z0 : n0 ≤ h0.size) :
    MetFree l (⟨"java/lang/StringLatin1", "toBytes", "(C)[B"⟩ : MethodName) (head1 (Jvm.Cond.code (⟨"java/lang/StringLatin1", "toBytes", "(C)[B"⟩ : MethodName) jdk_43_method_46_code 1 (some (.array .byte)) :: ws) ({ frames := 0, cells := 1, slots := 1, locals := 0 } : Room)) (fun a U => a = #[(.int p0)] ∧ Z.Warmed39 U.vm ∧ U.heap = h0) (fun _ _ _ _ _ => True) (fun _ U o U' => ∃ v L, o = .returned v ∧ Q3 Z p0 h0 n0 v U'.heap L ∧ FrameEnd U o U' L ({ frames := 0, cells := 1, slots := 1, locals := 0 } : Room).cells ({ frames := 0, cells := 1, slots := 1, locals := 0 } : Room).slots) := by
  refine MetFree.of_bodySF (plainFor_of_name pn_3) hisR ?_
  intro p e s m args below meth c s₁ Bd hml0 hP hK
  obtain ⟨rfl, hZ, hh⟩ := hP
  have hx := Bd.exec
  have hby := Bd.bytes
  have hml : c.maxLocals = 1 := hml0
  have hown : s.vm.findClass "java/lang/StringLatin1" = some m.cls := findClass_of_methodNamed Bd.named
  have hnm := (name_of_methodNamed Bd.named Bd.method).1
  have hrt := Bd.returns
  have hlk := Bd.notSynchronized
  have X0 : Stand p l e ({ frames := 0, cells := 1, slots := 1, locals := 0 } : Room) s m #[(.int p0)] below meth c s₁ [] 0 0 := Stand.of_body Bd
  have e0 : s₁.heap = h0 := by rw [← hh, Bd.state]; rfl
  have N0 := Fr.nil n0
  show Go p e below s 1 1 (Q3 Z p0 h0 n0) (s₁.setTop (entryFrame m #[(.int p0)] 1))
  rw [ef_3 m p0]
  refine Go.pre (st' := s₁.setTop (mkF m 1 #[.val (.int p0)] [(.int (1 : Int32))])) (fun target kt => ?_) ?_
  · show Steps p.tables e below (s₁.setTop (mkF m 0 #[.val (.int p0)] [])) _
    refine XS.iconst X0.here hx rfl (hb hby d3_0) ?_
    exact kt
  obtain ⟨T1, h1, k1, X1, e1, E1, A1, st1⟩ := newP X0 hx hZ (hw _ (List.mem_of_getElem? (i := 14) rfl)) e0 (g := (mkF m 1 #[.val (.int p0)] [(.int (1 : Int32))])) rfl (hb hby d3_1) rfl (by decide) (cap := 1) (by decide) (by decide) (by decide) (by decide)
  obtain ⟨b1, g1⟩ : ∃ z, z = h0.size := ⟨_, rfl⟩
  rw [← g1] at A1 st1
  have sz1 : h0.size ≤ h1.size := E1.1
  have V1 : Arv Z h1 b1 k1 .byte (1 : Int32) [(.int (0 : Int32))] (.int (0 : Int32)) := (Arv.new A1 (by decide)).pad (pad_rep [] (.int (0 : Int32)) 1)
  have lt1 : b1 < h1.size := V1.lt
  refine Go.pre st1 ?_
  show Go p e below s _ _ _ (T1.setTop (mkF m 3 #[.val (.int p0)] [(.ref b1)]))
  refine Go.pre (st' := T1.setTop (mkF m 7 #[.val (.int p0)] [(.int (p0.toInt8.toInt32)), (.int (0 : Int32)), (.ref b1), (.ref b1)])) (fun target kt => ?_) ?_
  · show Steps p.tables e below (T1.setTop (mkF m 3 #[.val (.int p0)] [(.ref b1)])) _
    refine XS.dup X1.here hx rfl (hb hby d3_3) rfl rfl ?_
    show Steps p.tables e below (T1.setTop (mkF m 4 #[.val (.int p0)] [(.ref b1), (.ref b1)])) _
    refine XS.iconst X1.here hx rfl (hb hby d3_4) ?_
    show Steps p.tables e below (T1.setTop (mkF m 5 #[.val (.int p0)] [(.int (0 : Int32)), (.ref b1), (.ref b1)])) _
    refine XS.iloadN X1.here hx rfl (hb hby d3_5) rfl ?_
    show Steps p.tables e below (T1.setTop (mkF m 6 #[.val (.int p0)] [(.int p0), (.int (0 : Int32)), (.ref b1), (.ref b1)])) _
    refine XS.i2b X1.here hx rfl (hb hby d3_6) rfl ?_
    exact kt
  obtain ⟨cl2, Ar2, q2, Sz2, Nn2, Hs2, Gs2⟩ := id V1
  have in2 := inb_of (j := (0 : Int32)) Sz2 ⟨by decide, by decide⟩
  obtain ⟨T2, h2, X2, e2, W2, st2⟩ := stB X1 hx hZ e1 Ar2 (j := (0 : Int32)) in2 (g := (mkF m 7 #[.val (.int p0)] [(.int (p0.toInt8.toInt32)), (.int (0 : Int32)), (.ref b1), (.ref b1)])) rfl rfl (hb hby d3_7)
  have sz2 : h1.size ≤ h2.size := (Keep.of_wr W2).1
  have V2 : Arv Z h2 b1 k1 .byte (1 : Int32) [(.int (nar .byte (p0.toInt8.toInt32)))] (.int (0 : Int32)) := Arv.set Ar2 q2 Sz2 Nn2 Hs2 Gs2 (fits_nar_byte _) W2 0 rfl (Nat.le_of_ble_eq_true rfl)
  have N2 := Fr.snoc X2 N0 (by omega)
  refine Go.pre st2 ?_
  show Go p e below s _ _ _ (T2.setTop (mkF m 8 #[.val (.int p0)] [(.ref b1)]))
  exact Go.retV X2 hx hlk hrt rfl (Or.inr (Or.inr (Or.inr (Or.inr ⟨rfl, rfl, rfl⟩)))) (hb hby d3_8) (by decide) (by decide) (by rw [e2]; exact ⟨b1, k1, rfl, N2, (((Keep.refl h0 []).ext E1).wr W2 (Or.inr (by omega))), (((KF.refl Z h0 []).ext E1).wr W2 (Or.inr (by show _ ≤ b1; omega))), by omega, by omega, V2⟩)
/-! String.<init> (4) -/
theorem d4_0 : decode jdk_42_method_151_code 0 = .ok (.aload_n 0, 1) := by decide +kernel
theorem d4_1 : decode jdk_42_method_151_code 1 = .ok (.invokespecial 1, 3) := by decide +kernel
theorem d4_4 : decode jdk_42_method_151_code 4 = .ok (.aload_n 0, 1) := by decide +kernel
theorem d4_5 : decode jdk_42_method_151_code 5 = .ok (.aload_n 1, 1) := by decide +kernel
theorem d4_6 : decode jdk_42_method_151_code 6 = .ok (.putfield 9, 3) := by decide +kernel
theorem d4_9 : decode jdk_42_method_151_code 9 = .ok (.aload_n 0, 1) := by decide +kernel
theorem d4_10 : decode jdk_42_method_151_code 10 = .ok (.iload_n 2, 1) := by decide +kernel
theorem d4_11 : decode jdk_42_method_151_code 11 = .ok (.putfield 15, 3) := by decide +kernel
theorem d4_14 : decode jdk_42_method_151_code 14 = .ok (.return_, 1) := by decide +kernel
theorem pn_4 : plainName "java/lang/String" = true := by first | (simp [plainName, overriddenIn]; done) | decide +kernel
theorem ef_4 (m : MethodId) (o0 : Addr) (o1 : Addr) (p2 : Int32) : entryFrame m #[(.ref o0), (.ref o1), (.int p2)] 3 = (mkF m 0 #[.val (.ref o0), .val (.ref o1), .val (.int p2)] []) := by first | (simp [entryFrame, mkF, argsToLocals, Value.category]; done) | rfl
def Q4 (Z : State) (o0 : Addr) (o1 : Addr) (p2 : Int32) (u2 : Value) (u5 : Value) (h0 : Heap) (n0 : Nat) (v : Option Value) (h : Heap) (L : List Loc) : Prop := v = none ∧ Fr n0 L ∧ Keep h0 h [o0] ∧ KF Z h0 h [(o0, Jvm.RoadKit.slotOf Z "java/lang/String" "value" "[B"), (o0, Jvm.RoadKit.slotOf Z "java/lang/String" "coder" "B")] ∧ Fld Z h o0 "java/lang/String" "value" "[B" (.ref o1) ∧ Fld Z h o0 "java/lang/String" "coder" "B" (.int (nar .byte p2))
set_option maxRecDepth 65536 in
set_option maxHeartbeats 40000000 in
theorem rm4 (l : Launch) (Z : State) (a0 : Array Value) (hw : ∀ d ∈ tables_1, d.before a0 Z = true) (ws : List Jvm.Cond) (o0 : Addr) (o1 : Addr) (p2 : Int32) (u2 : Value) (u5 : Value) (h0 : Heap) (n0 : Nat) (Z0 : n0 ≤ h0.size) (F_value_o0 : Fld Z h0 o0 "java/lang/String" "value" "[B" u2) (E_o0 : Exa Z h0 o0 "java/lang/String") (g_o0 : n0 ≤ o0) (F_coder_o0 : Fld Z h0 o0 "java/lang/String" "coder" "B" u5) :
    MetFree l (⟨"java/lang/String", "<init>", "([BB)V"⟩ : MethodName) (head1 (Jvm.Cond.code (⟨"java/lang/String", "<init>", "([BB)V"⟩ : MethodName) jdk_42_method_151_code 3 none :: ws) ({ frames := 1, cells := 0, slots := 0, locals := 12 } : Room)) (fun a U => a = #[(.ref o0), (.ref o1), (.int p2)] ∧ Z.Warmed39 U.vm ∧ U.heap = h0) (fun _ _ _ _ _ => True) (fun _ U o U' => ∃ v L, o = .returned v ∧ Q4 Z o0 o1 p2 u2 u5 h0 n0 v U'.heap L ∧ FrameEnd U o U' L ({ frames := 1, cells := 0, slots := 0, locals := 12 } : Room).cells ({ frames := 1, cells := 0, slots := 0, locals := 12 } : Room).slots) := by
  refine MetFree.of_bodySF (plainFor_of_name pn_4) hisR ?_
  intro p e s m args below meth c s₁ Bd hml0 hP hK
  obtain ⟨rfl, hZ, hh⟩ := hP
  have hx := Bd.exec
  have hby := Bd.bytes
  have hml : c.maxLocals = 3 := hml0
  have hown : s.vm.findClass "java/lang/String" = some m.cls := findClass_of_methodNamed Bd.named
  have hnm := (name_of_methodNamed Bd.named Bd.method).1
  have hrt := Bd.returns
  have hlk := Bd.notSynchronized
  have X0 : Stand p l e ({ frames := 1, cells := 0, slots := 0, locals := 12 } : Room) s m #[(.ref o0), (.ref o1), (.int p2)] below meth c s₁ [] 0 0 := Stand.of_body Bd
  have e0 : s₁.heap = h0 := by rw [← hh, Bd.state]; rfl
  have N0 := Fr.nil n0
  have lt_F_value_o0 : LT.lt (α := Nat) o0 h0.size := F_value_o0.lt
  have lt_E_o0 : LT.lt (α := Nat) o0 h0.size := E_o0.lt
  have lt_F_coder_o0 : LT.lt (α := Nat) o0 h0.size := F_coder_o0.lt
  show Go p e below s 0 0 (Q4 Z o0 o1 p2 u2 u5 h0 n0) (s₁.setTop (entryFrame m #[(.ref o0), (.ref o1), (.int p2)] 3))
  rw [ef_4 m o0 o1 p2]
  refine Go.pre (st' := s₁.setTop (mkF m 1 #[.val (.ref o0), .val (.ref o1), .val (.int p2)] [(.ref o0)])) (fun target kt => ?_) ?_
  · show Steps p.tables e below (s₁.setTop (mkF m 0 #[.val (.ref o0), .val (.ref o1), .val (.int p2)] [])) _
    refine XS.aloadN X0.here hx rfl (hb hby d4_0) rfl rfl ?_
    exact kt
  obtain ⟨T1, X1, e1, st1⟩ := initO X0 hx hZ hown (hw _ (List.mem_of_getElem? (i := 19) rfl)) (hw _ (List.mem_of_getElem? (i := 20) rfl)) (hw _ (List.mem_of_getElem? (i := 21) rfl)) e0 (g := (mkF m 1 #[.val (.ref o0), .val (.ref o1), .val (.int p2)] [(.ref o0)])) rfl (by rw [hml]; rfl) rfl (hb hby d4_1) (by decide) (W := 0) (by show 2 * 0 + _ ≤ _; exact Nat.le_of_eq rfl) (by decide)
  refine Go.pre st1 ?_
  show Go p e below s _ _ _ (T1.setTop (mkF m 4 #[.val (.ref o0), .val (.ref o1), .val (.int p2)] []))
  refine Go.pre (st' := T1.setTop (mkF m 6 #[.val (.ref o0), .val (.ref o1), .val (.int p2)] [(.ref o1), (.ref o0)])) (fun target kt => ?_) ?_
  · show Steps p.tables e below (T1.setTop (mkF m 4 #[.val (.ref o0), .val (.ref o1), .val (.int p2)] [])) _
    refine XS.aloadN X1.here hx rfl (hb hby d4_4) rfl rfl ?_
    show Steps p.tables e below (T1.setTop (mkF m 5 #[.val (.ref o0), .val (.ref o1), .val (.int p2)] [(.ref o0)])) _
    refine XS.aloadN X1.here hx rfl (hb hby d4_5) rfl rfl ?_
    exact kt
  obtain ⟨T3, h3, X3, e3, W3, st3⟩ := putF X1 hx hZ hown (host := "") (Or.inl (hw _ (List.mem_of_getElem? (i := 22) rfl))) Via.refl e1 F_value_o0 E_o0 (Or.inr ⟨(hw _ (List.mem_of_getElem? (i := 23) rfl)), rfl, hnm⟩) (hw _ (List.mem_of_getElem? (i := 10) rfl)) (ty := (.array .byte)) (by decide) rfl rfl (g := (mkF m 6 #[.val (.ref o0), .val (.ref o1), .val (.int p2)] [(.ref o1), (.ref o0)])) rfl rfl (hb hby d4_6)
  have sz3 : h0.size ≤ h3.size := (Keep.of_wr W3).1
  have Y4 : Fld Z h3 o0 "java/lang/String" "value" "[B" (.ref o1) := F_value_o0.same W3
  have N3 := Fr.snoc X3 N0 (by omega)
  refine Go.pre st3 ?_
  show Go p e below s _ _ _ (T3.setTop (mkF m 9 #[.val (.ref o0), .val (.ref o1), .val (.int p2)] []))
  refine Go.pre (st' := T3.setTop (mkF m 11 #[.val (.ref o0), .val (.ref o1), .val (.int p2)] [(.int p2), (.ref o0)])) (fun target kt => ?_) ?_
  · show Steps p.tables e below (T3.setTop (mkF m 9 #[.val (.ref o0), .val (.ref o1), .val (.int p2)] [])) _
    refine XS.aloadN X3.here hx rfl (hb hby d4_9) rfl rfl ?_
    show Steps p.tables e below (T3.setTop (mkF m 10 #[.val (.ref o0), .val (.ref o1), .val (.int p2)] [(.ref o0)])) _
    refine XS.iloadN X3.here hx rfl (hb hby d4_10) rfl ?_
    exact kt
  have Y6 : Fld Z h3 o0 "java/lang/String" "coder" "B" u5 := (F_coder_o0.other W3 (Or.inr (slot_ne (Or.inr (hw _ (List.mem_of_getElem? (i := 25) rfl))) (Or.inr (hw _ (List.mem_of_getElem? (i := 23) rfl))) (by decide) (t := .byte) (t' := (.array .byte)) (by decide) (by decide))))
  have Y7 : Exa Z h3 o0 "java/lang/String" := (E_o0.wr W3)
  obtain ⟨T8, h8, X8, e8, W8, st8⟩ := putFN X3 hx hZ hown (hw _ (List.mem_of_getElem? (i := 24) rfl)) Via.refl e3 Y6 Y7 (Or.inr ⟨(hw _ (List.mem_of_getElem? (i := 25) rfl)), rfl, hnm⟩) (hw _ (List.mem_of_getElem? (i := 10) rfl)) (ty := .byte) (v' := (.int (nar .byte p2))) (by decide) rfl (fits_nar_byte _) (g := (mkF m 11 #[.val (.ref o0), .val (.ref o1), .val (.int p2)] [(.int p2), (.ref o0)])) rfl rfl (hb hby d4_11)
  have sz8 : h3.size ≤ h8.size := (Keep.of_wr W8).1
  have Y9 : Fld Z h8 o0 "java/lang/String" "coder" "B" (.int (nar .byte p2)) := Y6.same W8
  have N8 := Fr.snoc X8 N3 (by omega)
  refine Go.pre st8 ?_
  show Go p e below s _ _ _ (T8.setTop (mkF m 14 #[.val (.ref o0), .val (.ref o1), .val (.int p2)] []))
  have Y10 : Fld Z h8 o0 "java/lang/String" "value" "[B" (.ref o1) := (Y4.other W8 (Or.inr (slot_ne (Or.inr (hw _ (List.mem_of_getElem? (i := 23) rfl))) (Or.inr (hw _ (List.mem_of_getElem? (i := 25) rfl))) (by decide) (t := (.array .byte)) (t' := .byte) (by decide) (by decide))))
  exact Go.ret0 X8 hx hlk hrt (hb hby d4_14) (by decide) (by decide) (by rw [e8]; exact ⟨rfl, N8, (((Keep.refl h0 [o0]).wr W3 (Or.inl (List.mem_of_getElem? (i := 0) rfl))).wr W8 (Or.inl (List.mem_of_getElem? (i := 0) rfl))), (((KF.refl Z h0 [(o0, Jvm.RoadKit.slotOf Z "java/lang/String" "value" "[B"), (o0, Jvm.RoadKit.slotOf Z "java/lang/String" "coder" "B")]).wr W3 (Or.inl (List.mem_of_getElem? (i := 0) rfl))).wr W8 (Or.inl (List.mem_of_getElem? (i := 1) rfl))), Y10, Y9⟩)
/-! String.valueOf (1) -/
theorem d1_0 : decode jdk_42_method_139_code 0 = .ok (.getstatic 38, 3) := by decide +kernel
theorem d1_3 : decode jdk_42_method_139_code 3 = .ok (.ifCond .eq 23, 3) := by decide +kernel
theorem d1_6 : decode jdk_42_method_139_code 6 = .ok (.iload_n 0, 1) := by decide +kernel
theorem d1_7 : decode jdk_42_method_139_code 7 = .ok (.invokestatic 1015, 3) := by decide +kernel
theorem d1_10 : decode jdk_42_method_139_code 10 = .ok (.ifCond .eq 16, 3) := by decide +kernel
theorem d1_13 : decode jdk_42_method_139_code 13 = .ok (.new 10, 3) := by decide +kernel
theorem d1_16 : decode jdk_42_method_139_code 16 = .ok (.dup, 1) := by decide +kernel
theorem d1_17 : decode jdk_42_method_139_code 17 = .ok (.iload_n 0, 1) := by decide +kernel
theorem d1_18 : decode jdk_42_method_139_code 18 = .ok (.invokestatic 1018, 3) := by decide +kernel
theorem d1_21 : decode jdk_42_method_139_code 21 = .ok (.iconst 0, 1) := by decide +kernel
theorem d1_22 : decode jdk_42_method_139_code 22 = .ok (.invokespecial 209, 3) := by decide +kernel
theorem d1_25 : decode jdk_42_method_139_code 25 = .ok (.areturn, 1) := by decide +kernel
theorem pn_1 : plainName "java/lang/String" = true := by first | (simp [plainName, overriddenIn]; done) | decide +kernel
theorem pd1_0 : parseMethodDescriptor "(C)Z" = some ⟨[.char], some .boolean⟩ := by decide +kernel
theorem pd1_1 : parseMethodDescriptor "(C)[B" = some ⟨[.char], some (.array .byte)⟩ := by decide +kernel
theorem pd1_2 : parseMethodDescriptor "([BB)V" = some ⟨[(.array .byte), .byte], none⟩ := by decide +kernel
theorem ef_1 (m : MethodId) (p0 : Int32) : entryFrame m #[(.int p0)] 1 = (mkF m 0 #[.val (.int p0)] []) := by first | (simp [entryFrame, mkF, argsToLocals, Value.category]; done) | rfl
def Q1 (Z : State) (p0 : Int32) (zc : Int32) (h0 : Heap) (n0 : Nat) (v : Option Value) (h : Heap) (L : List Loc) : Prop := ∃ b3 : Addr, ∃ b4_0 : Addr, ∃ k4_0 : ClassId, v = some (.ref b3) ∧ Fr n0 L ∧ Keep h0 h [] ∧ KF Z h0 h [] ∧ LE.le (α := Nat) h0.size b3 ∧ LT.lt (α := Nat) b3 h.size ∧ LE.le (α := Nat) h0.size b4_0 ∧ LT.lt (α := Nat) b4_0 h.size ∧ LT.lt (α := Nat) b3 b4_0 ∧ Exa Z h b3 "java/lang/String" ∧ Fld Z h b3 "java/lang/String" "value" "[B" (.ref b4_0) ∧ Fld Z h b3 "java/lang/String" "coder" "B" (.int (nar .byte (0 : Int32))) ∧ Arv Z h b4_0 k4_0 .byte (1 : Int32) [(.int (nar .byte (p0.toInt8.toInt32)))] (.int (0 : Int32))
set_option maxRecDepth 65536 in
set_option maxHeartbeats 40000000 in
theorem rm1 (l : Launch) (Z : State) (a0 : Array Value) (hw : ∀ d ∈ tables_1, d.before a0 Z = true) (ws : List Jvm.Cond) (p0 : Int32) (zc : Int32) (h0 : Heap) (n0 : Nat) (Z0 : n0 ≤ h0.size) (S_COMPACT : Sta Z Z.heap "java/lang/String" "COMPACT_STRINGS" "Z" (.int zc)) (Ol : Old Z n0 h0) (hle : ¬ ((255 : Int32) < p0)) (hc3 : ¬ (zc = (0 : Int32))) :
    MetFree l (⟨"java/lang/String", "valueOf", "(C)Ljava/lang/String;"⟩ : MethodName) (head1 (Jvm.Cond.code (⟨"java/lang/String", "valueOf", "(C)Ljava/lang/String;"⟩ : MethodName) jdk_42_method_139_code 1 (some (.object "java/lang/String")) :: ws) ({ frames := 2, cells := 2, slots := 5, locals := 27 } : Room)) (fun a U => a = #[(.int p0)] ∧ Z.Warmed39 U.vm ∧ U.heap = h0) (fun _ _ _ _ _ => True) (fun _ U o U' => ∃ v L, o = .returned v ∧ Q1 Z p0 zc h0 n0 v U'.heap L ∧ FrameEnd U o U' L ({ frames := 2, cells := 2, slots := 5, locals := 27 } : Room).cells ({ frames := 2, cells := 2, slots := 5, locals := 27 } : Room).slots) := by
  refine MetFree.of_bodySF (plainFor_of_name pn_1) hisR ?_
  intro p e s m args below meth c s₁ Bd hml0 hP hK
  obtain ⟨rfl, hZ, hh⟩ := hP
  have hx := Bd.exec
  have hby := Bd.bytes
  have hml : c.maxLocals = 1 := hml0
  have hown : s.vm.findClass "java/lang/String" = some m.cls := findClass_of_methodNamed Bd.named
  have hnm := (name_of_methodNamed Bd.named Bd.method).1
  have hrt := Bd.returns
  have hlk := Bd.notSynchronized
  have X0 : Stand p l e ({ frames := 2, cells := 2, slots := 5, locals := 27 } : Room) s m #[(.int p0)] below meth c s₁ [] 0 0 := Stand.of_body Bd
  have e0 : s₁.heap = h0 := by rw [← hh, Bd.state]; rfl
  have N0 := Fr.nil n0
  show Go p e below s 2 5 (Q1 Z p0 zc h0 n0) (s₁.setTop (entryFrame m #[(.int p0)] 1))
  rw [ef_1 m p0]
  obtain ⟨T1, X1, e1, st1⟩ := getS2 X0 hx hZ hown (host := "") (Or.inl (hw _ (List.mem_of_getElem? (i := 4) rfl))) Via.refl e0 (S_COMPACT.ext Ol.2) (g := (mkF m 0 #[.val (.int p0)] [])) rfl (hb hby d1_0)
  refine Go.pre st1 ?_
  show Go p e below s _ _ _ (T1.setTop (mkF m 3 #[.val (.int p0)] [(.int zc)]))
  refine Go.pre (st' := T1.setTop (mkF m 7 #[.val (.int p0)] [(.int p0)])) (fun target kt => ?_) ?_
  · show Steps p.tables e below (T1.setTop (mkF m 3 #[.val (.int p0)] [(.int zc)])) _
    refine XS.ifNo X1.here hx rfl (hb hby d1_3) rfl ((if0 _ _).trans (feq hc3).1) ?_
    show Steps p.tables e below (T1.setTop (mkF m 6 #[.val (.int p0)] [])) _
    refine XS.iloadN X1.here hx rfl (hb hby d1_6) rfl ?_
    exact kt
  obtain ⟨_, _, ⟨T2, L2, k2, n2⟩, -, X2, ⟨Lc2, hQ2, l2, y2, z2⟩, st2⟩ := Jvm.LawKit.callS X1 hx (y := (⟨"java/lang/StringLatin1", "canEncode", "(C)Z"⟩ : MethodName)) hown (mvT hZ (hw _ (List.mem_of_getElem? (i := 5) rfl))) (mvT hZ (hw _ (List.mem_of_getElem? (i := 6) rfl))) (mvT hZ (hw _ (List.mem_of_getElem? (i := 7) rfl))) (mvT hZ (hw _ (List.mem_of_getElem? (i := 8) rfl))) (by decide) (backOf (W := 0) (rm2 l Z a0 hw [] p0 h0 n0 (by omega) hle) hZ (hw _ (List.mem_of_getElem? (i := 8) rfl)) (hw _ (List.mem_of_getElem? (i := 7) rfl)) (by decide) (by decide)) (g := (mkF m 7 #[.val (.int p0)] [(.int p0)])) rfl (by rw [hml]; rfl) (argsL := [(.int p0)]) (rest := []) (lenOf pd1_0 rfl) rfl (by show 2 * 0 + _ ≤ _; exact Nat.le_of_eq rfl) (hb hby d1_7) (fun vm₁ hvm => ⟨rfl, e1, (by decide : 0 + 0 ≤ _), (by decide : 0 + 0 ≤ _)⟩)
  dsimp only [Pt.U, Pt.locs, Pt.cells, Pt.slots] at X2 l2 y2 z2 st2 hQ2
  subst l2 y2 z2
  obtain ⟨rfl, N2q, e2⟩ := hQ2
  have N2 := Fr.app N0 N2q
  refine Go.pre st2 ?_
  show Go p e below s _ _ _ (T2.setTop (mkF m 10 #[.val (.int p0)] [(.int (1 : Int32))]))
  refine Go.pre (st' := T2.setTop (mkF m 13 #[.val (.int p0)] [])) (fun target kt => ?_) ?_
  · show Steps p.tables e below (T2.setTop (mkF m 10 #[.val (.int p0)] [(.int (1 : Int32))])) _
    refine XS.ifNo X2.here hx rfl (hb hby d1_10) rfl ((if0 _ _).trans (feq (by decide)).1) ?_
    exact kt
  obtain ⟨T3, h3, X3, e3, E3, A3, D3, -, st3⟩ := newO X2 hx hZ hown (hw _ (List.mem_of_getElem? (i := 9) rfl)) (hw _ (List.mem_of_getElem? (i := 10) rfl)) (hw _ (List.mem_of_getElem? (i := 2) rfl)) e2 (g := (mkF m 13 #[.val (.int p0)] [])) rfl (hb hby d1_13) (by decide) (by decide)
  obtain ⟨b3, g3⟩ : ∃ z, z = h0.size := ⟨_, rfl⟩
  rw [← g3] at A3 D3 st3
  have sz3 : h0.size ≤ h3.size := E3.1
  have lt3 : b3 < h3.size := A3.lt
  have F3_value : Fld Z h3 b3 "java/lang/String" "value" "[B" .null := D3 (Or.inr (hw _ (List.mem_of_getElem? (i := 23) rfl))) (ty := (.array .byte)) (by decide)
  have F3_coder : Fld Z h3 b3 "java/lang/String" "coder" "B" (.int (0 : Int32)) := D3 (Or.inr (hw _ (List.mem_of_getElem? (i := 25) rfl))) (ty := .byte) (by decide)
  refine Go.pre st3 ?_
  show Go p e below s _ _ _ (T3.setTop (mkF m 16 #[.val (.int p0)] [(.ref b3)]))
  refine Go.pre (st' := T3.setTop (mkF m 18 #[.val (.int p0)] [(.int p0), (.ref b3), (.ref b3)])) (fun target kt => ?_) ?_
  · show Steps p.tables e below (T3.setTop (mkF m 16 #[.val (.int p0)] [(.ref b3)])) _
    refine XS.dup X3.here hx rfl (hb hby d1_16) rfl rfl ?_
    show Steps p.tables e below (T3.setTop (mkF m 17 #[.val (.int p0)] [(.ref b3), (.ref b3)])) _
    refine XS.iloadN X3.here hx rfl (hb hby d1_17) rfl ?_
    exact kt
  obtain ⟨_, _, ⟨T4, L4, k4, n4⟩, -, X4, ⟨Lc4, hQ4, l4, y4, z4⟩, st4⟩ := Jvm.LawKit.callS X3 hx (y := (⟨"java/lang/StringLatin1", "toBytes", "(C)[B"⟩ : MethodName)) hown (mvT hZ (hw _ (List.mem_of_getElem? (i := 11) rfl))) (mvT hZ (hw _ (List.mem_of_getElem? (i := 12) rfl))) (mvT hZ (hw _ (List.mem_of_getElem? (i := 7) rfl))) (mvT hZ (hw _ (List.mem_of_getElem? (i := 13) rfl))) (by decide) (backOf (W := 2) (rm3 l Z a0 hw [] p0 h3 n0 (by omega) ) hZ (hw _ (List.mem_of_getElem? (i := 13) rfl)) (hw _ (List.mem_of_getElem? (i := 7) rfl)) (by decide) (by decide)) (g := (mkF m 18 #[.val (.int p0)] [(.int p0), (.ref b3), (.ref b3)])) rfl (by rw [hml]; rfl) (argsL := [(.int p0)]) (rest := [(.ref b3), (.ref b3)]) (lenOf pd1_1 rfl) rfl (by show 2 * 0 + _ ≤ _; exact Nat.le_of_eq rfl) (hb hby d1_18) (fun vm₁ hvm => ⟨rfl, e3, (by decide : 1 + 1 ≤ _), (by decide : 4 + 1 ≤ _)⟩)
  dsimp only [Pt.U, Pt.locs, Pt.cells, Pt.slots] at X4 l4 y4 z4 st4 hQ4
  subst l4 y4 z4
  obtain ⟨b4_0, k4_0, rfl, N4q, K4, KF4, gb4_0, ltb4_0, Y4_0⟩ := hQ4
  have sz4 : h3.size ≤ T4.heap.size := K4.1
  have N4 := Fr.app N2 N4q
  refine Go.pre st4 ?_
  show Go p e below s _ _ _ (T4.setTop (mkF m 21 #[.val (.int p0)] [(.ref b4_0), (.ref b3), (.ref b3)]))
  refine Go.pre (st' := T4.setTop (mkF m 22 #[.val (.int p0)] [(.int (0 : Int32)), (.ref b4_0), (.ref b3), (.ref b3)])) (fun target kt => ?_) ?_
  · show Steps p.tables e below (T4.setTop (mkF m 21 #[.val (.int p0)] [(.ref b4_0), (.ref b3), (.ref b3)])) _
    refine XS.iconst X4.here hx rfl (hb hby d1_21) ?_
    exact kt
  have Y6 : Fld Z T4.heap b3 "java/lang/String" "value" "[B" .null := (F3_value.keep K4 nin0)
  have Y7 : Exa Z T4.heap b3 "java/lang/String" := (A3.keep K4)
  have Y8 : Fld Z T4.heap b3 "java/lang/String" "coder" "B" (.int (0 : Int32)) := (F3_coder.keep K4 nin0)
  obtain ⟨_, _, ⟨T5, L5, k5, n5⟩, -, X5, ⟨Lc5, hQ5, l5, y5, z5⟩, st5⟩ := X4.specialBack hx (y := (⟨"java/lang/String", "<init>", "([BB)V"⟩ : MethodName)) rfl hown (mvT hZ (hw _ (List.mem_of_getElem? (i := 15) rfl))) (mvT hZ (hw _ (List.mem_of_getElem? (i := 16) rfl))) (mvT hZ (hw _ (List.mem_of_getElem? (i := 18) rfl))) (by decide) (backOf (W := 1) (rm4 l Z a0 hw [] b3 b4_0 (0 : Int32) .null (.int (0 : Int32)) T4.heap n0 (by omega) Y6 Y7 (by omega) Y8) hZ (hw _ (List.mem_of_getElem? (i := 18) rfl)) (hw _ (List.mem_of_getElem? (i := 2) rfl)) (by decide) (by decide)) (g := (mkF m 22 #[.val (.int p0)] [(.int (0 : Int32)), (.ref b4_0), (.ref b3), (.ref b3)])) rfl (by rw [hml]; rfl) (Steps.refl _) (a := b3) (argsL := [(.ref b4_0), (.int (0 : Int32))]) (rest := [(.ref b3)]) (lenOf pd1_2 rfl) rfl (by show 2 * 0 + _ ≤ _; exact Nat.le_of_eq rfl) (hb hby d1_22) (fun vm₁ hvm => ⟨rfl, rfl, (by decide : 2 + 0 ≤ _), (by decide : 5 + 0 ≤ _)⟩)
  dsimp only [Pt.U, Pt.locs, Pt.cells, Pt.slots] at X5 l5 y5 z5 st5 hQ5
  subst l5 y5 z5
  obtain ⟨rfl, N5q, K5, KF5, Y5_0, Y5_1⟩ := hQ5
  have sz5 : T4.heap.size ≤ T5.heap.size := K5.1
  have N5 := Fr.app N4 N5q
  refine Go.trans st5 ?_
  show Go p e below s _ _ _ (T5.setTop (mkF m 25 #[.val (.int p0)] [(.ref b3)]))
  have Y9 : Exa Z T5.heap b3 "java/lang/String" := (Y7.keep K5)
  have Y10 : Arv Z T5.heap b4_0 k4_0 .byte (1 : Int32) [(.int (nar .byte (p0.toInt8.toInt32)))] (.int (0 : Int32)) := (Y4_0.keep K5 (ninS (by show @Ne Nat b4_0 b3; omega) nin0))
  exact Go.retV X5 hx hlk hrt rfl (Or.inr (Or.inr (Or.inr (Or.inr ⟨rfl, rfl, rfl⟩)))) (hb hby d1_25) (by decide) (by decide) (by exact ⟨b3, b4_0, k4_0, rfl, N5, ((((Keep.refl h0 []).ext E3).trans K4 all0).trans K5 (allS (Or.inr (by omega)) all0)), ((((KF.refl Z h0 []).ext E3).trans KF4 pall0).trans KF5 (pallS (Or.inr (by show _ ≤ b3; omega)) (pallS (Or.inr (by show _ ≤ b3; omega)) pall0))), by omega, by omega, by omega, by omega, by omega, Y9, Y5_0, Y5_1, Y10⟩)
/-! String.<init> (14e) -/
theorem d14_0 : decode jdk_42_method_149_code 0 = .ok (.aload_n 0, 1) := by decide +kernel
theorem d14_1 : decode jdk_42_method_149_code 1 = .ok (.invokespecial 1, 3) := by decide +kernel
theorem d14_4 : decode jdk_42_method_149_code 4 = .ok (.iload_n 3, 1) := by decide +kernel
theorem d14_5 : decode jdk_42_method_149_code 5 = .ok (.ifCond .ne 22, 3) := by decide +kernel
theorem d14_8 : decode jdk_42_method_149_code 8 = .ok (.aload_n 0, 1) := by decide +kernel
theorem d14_9 : decode jdk_42_method_149_code 9 = .ok (.ldc 7, 2) := by decide +kernel
theorem d14_11 : decode jdk_42_method_149_code 11 = .ok (.getfield 9, 3) := by decide +kernel
theorem d14_14 : decode jdk_42_method_149_code 14 = .ok (.putfield 9, 3) := by decide +kernel
theorem d14_17 : decode jdk_42_method_149_code 17 = .ok (.aload_n 0, 1) := by decide +kernel
theorem d14_18 : decode jdk_42_method_149_code 18 = .ok (.ldc 7, 2) := by decide +kernel
theorem d14_20 : decode jdk_42_method_149_code 20 = .ok (.getfield 15, 3) := by decide +kernel
theorem d14_23 : decode jdk_42_method_149_code 23 = .ok (.putfield 15, 3) := by decide +kernel
theorem d14_26 : decode jdk_42_method_149_code 26 = .ok (.return_, 1) := by decide +kernel
theorem pn_14 : plainName "java/lang/String" = true := by first | (simp [plainName, overriddenIn]; done) | decide +kernel
theorem ef_14e (m : MethodId) (o0 : Addr) (o1 : Addr) : entryFrame m #[(.ref o0), (.ref o1), (.int (0 : Int32)), (.int (0 : Int32)), .null] 6 = (mkF m 0 #[.val (.ref o0), .val (.ref o1), .val (.int (0 : Int32)), .val (.int (0 : Int32)), .val .null, .unset] []) := by first | (simp [entryFrame, mkF, argsToLocals, Value.category]; done) | rfl
def Q14e (Z : State) (o0 : Addr) (o1 : Addr) (u4 : Value) (u12 : Value) (h0 : Heap) (n0 : Nat) (v : Option Value) (vm : Vm) (h : Heap) (L : List Loc) : Prop := v = none ∧ Fr n0 L ∧ Keep h0 h [o0] ∧ KF Z h0 h [(o0, Jvm.RoadKit.slotOf Z "java/lang/String" "value" "[B"), (o0, Jvm.RoadKit.slotOf Z "java/lang/String" "coder" "B")] ∧ Fld Z h o0 "java/lang/String" "coder" "B" (.int (nar .byte (0 : Int32))) ∧ IB Z vm [""]
set_option maxRecDepth 65536 in
set_option maxHeartbeats 40000000 in
theorem rm14e (l : Launch) (Z : State) (a0 : Array Value) (hw : ∀ d ∈ tables_1, d.before a0 Z = true) (ws : List Jvm.Cond) (o0 : Addr) (o1 : Addr) (u4 : Value) (u12 : Value) (h0 : Heap) (n0 : Nat) (Z0 : n0 ≤ h0.size) (hcw : Jvm.Lit.compactW.before a0 Z = true) (hheld : ∀ q ∈ consts_1, Jvm.Lit.constHeld Z q.1 q.2) (Ol : Old Z n0 h0) (F_value_o0 : Fld Z h0 o0 "java/lang/String" "value" "[B" u4) (E_o0 : Exa Z h0 o0 "java/lang/String") (g_o0 : n0 ≤ o0) (F_coder_o0 : Fld Z h0 o0 "java/lang/String" "coder" "B" u12) :
    MetFree l (⟨"java/lang/String", "<init>", "([CIILjava/lang/Void;)V"⟩ : MethodName) (head1 (Jvm.Cond.code (⟨"java/lang/String", "<init>", "([CIILjava/lang/Void;)V"⟩ : MethodName) jdk_42_method_149_code 6 none :: ws) ({ frames := 1, cells := 2, slots := 4, locals := 12 } : Room)) (fun a U => a = #[(.ref o0), (.ref o1), (.int (0 : Int32)), (.int (0 : Int32)), .null] ∧ Z.Warmed39 U.vm ∧ U.heap = h0 ∧ IB Z U.vm []) (fun _ _ _ _ _ => True) (fun _ U o U' => ∃ v L, o = .returned v ∧ Q14e Z o0 o1 u4 u12 h0 n0 v U'.vm U'.heap L ∧ ReturnedEndW U o U' L ({ frames := 1, cells := 2, slots := 4, locals := 12 } : Room).cells ({ frames := 1, cells := 2, slots := 4, locals := 12 } : Room).slots) := by
  refine MetFree.of_bodySF (plainFor_of_name pn_14) hisR ?_
  intro p e s m args below meth c s₁ Bd hml0 hP hK
  obtain ⟨rfl, hZ, hh, hI⟩ := hP
  have hx := Bd.exec
  have hby := Bd.bytes
  have hml : c.maxLocals = 6 := hml0
  have hown : s.vm.findClass "java/lang/String" = some m.cls := findClass_of_methodNamed Bd.named
  have hnm := (name_of_methodNamed Bd.named Bd.method).1
  have hrt := Bd.returns
  have hlk := Bd.notSynchronized
  have X0 : Stand p l e ({ frames := 1, cells := 2, slots := 4, locals := 12 } : Room) (s.setVm s.vm) m #[(.ref o0), (.ref o1), (.int (0 : Int32)), (.int (0 : Int32)), .null] below meth c s₁ [] 0 0 := Stand.of_body Bd
  have hS : s.Since s.vm 0 := (State.WarmedH.refl s).since 0
  have hk := Nat.zero_le h0.size
  have hkp : ∀ (b : Addr) (cl : Cell), Z.heap[b]? = some cl → s.heap[b]? = some cl := fun b cl q => by rw [show (s.heap : Heap) = h0 from hh]; exact Ol.2.2 b cl q
  have e0 : s₁.heap = h0 := by rw [← hh, Bd.state]; rfl
  have N0 := Fr.nil n0
  have lt_F_value_o0 : LT.lt (α := Nat) o0 h0.size := F_value_o0.lt
  have lt_E_o0 : LT.lt (α := Nat) o0 h0.size := E_o0.lt
  have lt_F_coder_o0 : LT.lt (α := Nat) o0 h0.size := F_coder_o0.lt
  show GoW p e below s 2 4 (Q14e Z o0 o1 u4 u12 h0 n0) (s₁.setTop (entryFrame m #[(.ref o0), (.ref o1), (.int (0 : Int32)), (.int (0 : Int32)), .null] 6))
  rw [ef_14e m o0 o1]
  refine GoW.pre (st' := s₁.setTop (mkF m 1 #[.val (.ref o0), .val (.ref o1), .val (.int (0 : Int32)), .val (.int (0 : Int32)), .val .null, .unset] [(.ref o0)])) (fun target kt => ?_) ?_
  · show Steps p.tables e below (s₁.setTop (mkF m 0 #[.val (.ref o0), .val (.ref o1), .val (.int (0 : Int32)), .val (.int (0 : Int32)), .val .null, .unset] [])) _
    refine XS.aloadN X0.here hx rfl (hb hby d14_0) rfl rfl ?_
    exact kt
  obtain ⟨T1, X1, e1, st1⟩ := initO X0 hx hZ hown (hw _ (List.mem_of_getElem? (i := 19) rfl)) (hw _ (List.mem_of_getElem? (i := 20) rfl)) (hw _ (List.mem_of_getElem? (i := 21) rfl)) e0 (g := (mkF m 1 #[.val (.ref o0), .val (.ref o1), .val (.int (0 : Int32)), .val (.int (0 : Int32)), .val .null, .unset] [(.ref o0)])) rfl (by rw [hml]; rfl) rfl (hb hby d14_1) (by decide) (W := 0) (by show 2 * 0 + _ ≤ _; exact Nat.le_of_eq rfl) (by decide)
  refine GoW.pre st1 ?_
  show GoW p e below s _ _ _ (T1.setTop (mkF m 4 #[.val (.ref o0), .val (.ref o1), .val (.int (0 : Int32)), .val (.int (0 : Int32)), .val .null, .unset] []))
  refine GoW.pre (st' := T1.setTop (mkF m 9 #[.val (.ref o0), .val (.ref o1), .val (.int (0 : Int32)), .val (.int (0 : Int32)), .val .null, .unset] [(.ref o0)])) (fun target kt => ?_) ?_
  · show Steps p.tables e below (T1.setTop (mkF m 4 #[.val (.ref o0), .val (.ref o1), .val (.int (0 : Int32)), .val (.int (0 : Int32)), .val .null, .unset] [])) _
    refine XS.iloadN X1.here hx rfl (hb hby d14_4) rfl ?_
    show Steps p.tables e below (T1.setTop (mkF m 5 #[.val (.ref o0), .val (.ref o1), .val (.int (0 : Int32)), .val (.int (0 : Int32)), .val .null, .unset] [(.int (0 : Int32))])) _
    refine XS.ifNo X1.here hx rfl (hb hby d14_5) rfl ((if0 _ _).trans (teq (by decide)).2) ?_
    show Steps p.tables e below (T1.setTop (mkF m 8 #[.val (.ref o0), .val (.ref o1), .val (.int (0 : Int32)), .val (.int (0 : Int32)), .val .null, .unset] [])) _
    refine XS.aloadN X1.here hx rfl (hb hby d14_8) rfl rfl ?_
    exact kt
  obtain ⟨la2, T2, h2, kq2, b2, k2, X2, e2, E2, hS, hk, hZ, hown, Ea2, Fc2, Fv2, Va2, lt2, lu2, hI, Lt_la2, st2⟩ := ldcSVL X1 hx hZ hown (hw _ (List.mem_of_getElem? (i := 106) rfl)) (own_wS hw) e1 hS (by omega) (Fr.nil _) hkp hI (by decide) (hheld _ (List.mem_of_getElem? (i := 2) rfl)) hcw (vs := []) (z := (0 : Int32)) ⟨by decide, by decide⟩ (by decide) rfl (g := (mkF m 9 #[.val (.ref o0), .val (.ref o1), .val (.int (0 : Int32)), .val (.int (0 : Int32)), .val .null, .unset] [(.ref o0)])) rfl (hb hby d14_9) (n := 0) (by decide) (by decide) (by decide) (by decide)
  have sz2 : h0.size ≤ h2.size := E2.1
  refine GoW.pre st2 ?_
  show GoW p e below s _ _ _ (T2.setTop (mkF m 11 #[.val (.ref o0), .val (.ref o1), .val (.int (0 : Int32)), .val (.int (0 : Int32)), .val .null, .unset] [(.ref la2), (.ref o0)]))
  obtain ⟨T3, X3, e3, st3⟩ := getF X2 hx hZ hown (host := "") (Or.inl (hw _ (List.mem_of_getElem? (i := 22) rfl))) Via.refl e2 Fv2 (g := (mkF m 11 #[.val (.ref o0), .val (.ref o1), .val (.int (0 : Int32)), .val (.int (0 : Int32)), .val .null, .unset] [(.ref la2), (.ref o0)])) rfl rfl (hb hby d14_11)
  refine GoW.pre st3 ?_
  show GoW p e below s _ _ _ (T3.setTop (mkF m 14 #[.val (.ref o0), .val (.ref o1), .val (.int (0 : Int32)), .val (.int (0 : Int32)), .val .null, .unset] [(.ref b2), (.ref o0)]))
  have Y5 : Fld Z h2 o0 "java/lang/String" "value" "[B" u4 := (F_value_o0.ext E2)
  have Y6 : Exa Z h2 o0 "java/lang/String" := (E_o0.ext E2)
  obtain ⟨T7, h7, X7, e7, W7, st7⟩ := putF X3 hx hZ hown (host := "") (Or.inl (hw _ (List.mem_of_getElem? (i := 22) rfl))) Via.refl e3 Y5 Y6 (Or.inr ⟨(hw _ (List.mem_of_getElem? (i := 23) rfl)), rfl, hnm⟩) (hw _ (List.mem_of_getElem? (i := 10) rfl)) (ty := (.array .byte)) (by decide) rfl rfl (g := (mkF m 14 #[.val (.ref o0), .val (.ref o1), .val (.int (0 : Int32)), .val (.int (0 : Int32)), .val .null, .unset] [(.ref b2), (.ref o0)])) rfl rfl (hb hby d14_14)
  have sz7 : h2.size ≤ h7.size := (Keep.of_wr W7).1
  have Y8 : Fld Z h7 o0 "java/lang/String" "value" "[B" (.ref b2) := Y5.same W7
  have N7 := Fr.snoc X7 N0 (by omega)
  refine GoW.pre st7 ?_
  show GoW p e below s _ _ _ (T7.setTop (mkF m 17 #[.val (.ref o0), .val (.ref o1), .val (.int (0 : Int32)), .val (.int (0 : Int32)), .val .null, .unset] []))
  refine GoW.pre (st' := T7.setTop (mkF m 18 #[.val (.ref o0), .val (.ref o1), .val (.int (0 : Int32)), .val (.int (0 : Int32)), .val .null, .unset] [(.ref o0)])) (fun target kt => ?_) ?_
  · show Steps p.tables e below (T7.setTop (mkF m 17 #[.val (.ref o0), .val (.ref o1), .val (.int (0 : Int32)), .val (.int (0 : Int32)), .val .null, .unset] [])) _
    refine XS.aloadN X7.here hx rfl (hb hby d14_17) rfl rfl ?_
    exact kt
  refine GoW.pre (ldcAgain X7 hx hZ hown (hw _ (List.mem_of_getElem? (i := 106) rfl)) Lt_la2 (g := (mkF m 18 #[.val (.ref o0), .val (.ref o1), .val (.int (0 : Int32)), .val (.int (0 : Int32)), .val .null, .unset] [(.ref o0)])) rfl (hb hby d14_18)) ?_
  show GoW p e below s _ _ _ (T7.setTop (mkF m 20 #[.val (.ref o0), .val (.ref o1), .val (.int (0 : Int32)), .val (.int (0 : Int32)), .val .null, .unset] [(.ref la2), (.ref o0)]))
  have Y10 : Fld Z h7 la2 "java/lang/String" "coder" "B" (.int (0 : Int32)) := (Fc2.other W7 (Or.inr (slot_ne (Or.inr (hw _ (List.mem_of_getElem? (i := 25) rfl))) (Or.inr (hw _ (List.mem_of_getElem? (i := 23) rfl))) (by decide) (t := .byte) (t' := (.array .byte)) (by decide) (by decide))))
  obtain ⟨T11, X11, e11, st11⟩ := getF X7 hx hZ hown (host := "") (Or.inl (hw _ (List.mem_of_getElem? (i := 24) rfl))) Via.refl e7 Y10 (g := (mkF m 20 #[.val (.ref o0), .val (.ref o1), .val (.int (0 : Int32)), .val (.int (0 : Int32)), .val .null, .unset] [(.ref la2), (.ref o0)])) rfl rfl (hb hby d14_20)
  refine GoW.pre st11 ?_
  show GoW p e below s _ _ _ (T11.setTop (mkF m 23 #[.val (.ref o0), .val (.ref o1), .val (.int (0 : Int32)), .val (.int (0 : Int32)), .val .null, .unset] [(.int (0 : Int32)), (.ref o0)]))
  have Y13 : Fld Z h7 o0 "java/lang/String" "coder" "B" u12 := ((F_coder_o0.ext E2).other W7 (Or.inr (slot_ne (Or.inr (hw _ (List.mem_of_getElem? (i := 25) rfl))) (Or.inr (hw _ (List.mem_of_getElem? (i := 23) rfl))) (by decide) (t := .byte) (t' := (.array .byte)) (by decide) (by decide))))
  have Y14 : Exa Z h7 o0 "java/lang/String" := (Y6.wr W7)
  obtain ⟨T15, h15, X15, e15, W15, st15⟩ := putFN X11 hx hZ hown (hw _ (List.mem_of_getElem? (i := 24) rfl)) Via.refl e11 Y13 Y14 (Or.inr ⟨(hw _ (List.mem_of_getElem? (i := 25) rfl)), rfl, hnm⟩) (hw _ (List.mem_of_getElem? (i := 10) rfl)) (ty := .byte) (v' := (.int (nar .byte (0 : Int32)))) (by decide) rfl (fits_nar_byte _) (g := (mkF m 23 #[.val (.ref o0), .val (.ref o1), .val (.int (0 : Int32)), .val (.int (0 : Int32)), .val .null, .unset] [(.int (0 : Int32)), (.ref o0)])) rfl rfl (hb hby d14_23)
  have sz15 : h7.size ≤ h15.size := (Keep.of_wr W15).1
  have Y16 : Fld Z h15 o0 "java/lang/String" "coder" "B" (.int (nar .byte (0 : Int32))) := Y13.same W15
  have N15 := Fr.snoc X15 N7 (by omega)
  refine GoW.pre st15 ?_
  show GoW p e below s _ _ _ (T15.setTop (mkF m 26 #[.val (.ref o0), .val (.ref o1), .val (.int (0 : Int32)), .val (.int (0 : Int32)), .val .null, .unset] []))
  exact GoW.ret0 X15 hS (leH e15 (by omega)) hx hlk hrt (hb hby d14_26) (by decide) (by decide) (by rw [e15]; exact ⟨rfl, N15, ((((Keep.refl h0 [o0]).ext E2).wr W7 (Or.inl (List.mem_of_getElem? (i := 0) rfl))).wr W15 (Or.inl (List.mem_of_getElem? (i := 0) rfl))), ((((KF.refl Z h0 [(o0, Jvm.RoadKit.slotOf Z "java/lang/String" "value" "[B"), (o0, Jvm.RoadKit.slotOf Z "java/lang/String" "coder" "B")]).ext E2).wr W7 (Or.inl (List.mem_of_getElem? (i := 0) rfl))).wr W15 (Or.inl (List.mem_of_getElem? (i := 1) rfl))), Y16, IB.at X15 hI⟩)
/-! String.<init> (13e) -/
theorem d13_0 : decode jdk_42_method_3_code 0 = .ok (.aload_n 0, 1) := by decide +kernel
theorem d13_1 : decode jdk_42_method_3_code 1 = .ok (.aload_n 1, 1) := by decide +kernel
theorem d13_2 : decode jdk_42_method_3_code 2 = .ok (.iconst 0, 1) := by decide +kernel
theorem d13_3 : decode jdk_42_method_3_code 3 = .ok (.aload_n 1, 1) := by decide +kernel
theorem d13_4 : decode jdk_42_method_3_code 4 = .ok (.arraylength, 1) := by decide +kernel
theorem d13_5 : decode jdk_42_method_3_code 5 = .ok (.aconst_null, 1) := by decide +kernel
theorem d13_6 : decode jdk_42_method_3_code 6 = .ok (.invokespecial 27, 3) := by decide +kernel
theorem d13_9 : decode jdk_42_method_3_code 9 = .ok (.return_, 1) := by decide +kernel
theorem pn_13 : plainName "java/lang/String" = true := by first | (simp [plainName, overriddenIn]; done) | decide +kernel
theorem pd13e_0 : parseMethodDescriptor "([CIILjava/lang/Void;)V" = some ⟨[(.array .char), .int, .int, (.object "java/lang/Void")], none⟩ := by decide +kernel
theorem ef_13e (m : MethodId) (o0 : Addr) (o1 : Addr) : entryFrame m #[(.ref o0), (.ref o1)] 2 = (mkF m 0 #[.val (.ref o0), .val (.ref o1)] []) := by first | (simp [entryFrame, mkF, argsToLocals, Value.category]; done) | rfl
def Q13e (Z : State) (o0 : Addr) (o1 : Addr) (ka : ClassId) (u3 : Value) (u4 : Value) (h0 : Heap) (n0 : Nat) (v : Option Value) (vm : Vm) (h : Heap) (L : List Loc) : Prop := v = none ∧ Fr n0 L ∧ Keep h0 h [o0] ∧ KF Z h0 h [(o0, Jvm.RoadKit.slotOf Z "java/lang/String" "value" "[B"), (o0, Jvm.RoadKit.slotOf Z "java/lang/String" "coder" "B")] ∧ Fld Z h o0 "java/lang/String" "coder" "B" (.int (nar .byte (0 : Int32))) ∧ IB Z vm [""]
set_option maxRecDepth 65536 in
set_option maxHeartbeats 40000000 in
theorem rm13e (l : Launch) (Z : State) (a0 : Array Value) (hw : ∀ d ∈ tables_1, d.before a0 Z = true) (ws : List Jvm.Cond) (o0 : Addr) (o1 : Addr) (ka : ClassId) (u3 : Value) (u4 : Value) (h0 : Heap) (n0 : Nat) (Z0 : n0 ≤ h0.size) (hcw : Jvm.Lit.compactW.before a0 Z = true) (hheld : ∀ q ∈ consts_1, Jvm.Lit.constHeld Z q.1 q.2) (Ol : Old Z n0 h0) (A_o1 : Arv Z h0 o1 ka .char (0 : Int32) [] (.int (0 : Int32))) (F_value_o0 : Fld Z h0 o0 "java/lang/String" "value" "[B" u3) (E_o0 : Exa Z h0 o0 "java/lang/String") (g_o0 : n0 ≤ o0) (F_coder_o0 : Fld Z h0 o0 "java/lang/String" "coder" "B" u4) :
    MetFree l (⟨"java/lang/String", "<init>", "([C)V"⟩ : MethodName) (head1 (Jvm.Cond.code (⟨"java/lang/String", "<init>", "([C)V"⟩ : MethodName) jdk_42_method_3_code 2 none :: ws) ({ frames := 2, cells := 2, slots := 4, locals := 29 } : Room)) (fun a U => a = #[(.ref o0), (.ref o1)] ∧ Z.Warmed39 U.vm ∧ U.heap = h0 ∧ IB Z U.vm []) (fun _ _ _ _ _ => True) (fun _ U o U' => ∃ v L, o = .returned v ∧ Q13e Z o0 o1 ka u3 u4 h0 n0 v U'.vm U'.heap L ∧ ReturnedEndW U o U' L ({ frames := 2, cells := 2, slots := 4, locals := 29 } : Room).cells ({ frames := 2, cells := 2, slots := 4, locals := 29 } : Room).slots) := by
  refine MetFree.of_bodySF (plainFor_of_name pn_13) hisR ?_
  intro p e s m args below meth c s₁ Bd hml0 hP hK
  obtain ⟨rfl, hZ, hh, hI⟩ := hP
  have hx := Bd.exec
  have hby := Bd.bytes
  have hml : c.maxLocals = 2 := hml0
  have hown : s.vm.findClass "java/lang/String" = some m.cls := findClass_of_methodNamed Bd.named
  have hnm := (name_of_methodNamed Bd.named Bd.method).1
  have hrt := Bd.returns
  have hlk := Bd.notSynchronized
  have X0 : Stand p l e ({ frames := 2, cells := 2, slots := 4, locals := 29 } : Room) (s.setVm s.vm) m #[(.ref o0), (.ref o1)] below meth c s₁ [] 0 0 := Stand.of_body Bd
  have hS : s.Since s.vm 0 := (State.WarmedH.refl s).since 0
  have hk := Nat.zero_le h0.size
  have hkp : ∀ (b : Addr) (cl : Cell), Z.heap[b]? = some cl → s.heap[b]? = some cl := fun b cl q => by rw [show (s.heap : Heap) = h0 from hh]; exact Ol.2.2 b cl q
  have e0 : s₁.heap = h0 := by rw [← hh, Bd.state]; rfl
  have N0 := Fr.nil n0
  have lt_A_o1 : LT.lt (α := Nat) o1 h0.size := A_o1.lt
  have lt_F_value_o0 : LT.lt (α := Nat) o0 h0.size := F_value_o0.lt
  have lt_E_o0 : LT.lt (α := Nat) o0 h0.size := E_o0.lt
  have lt_F_coder_o0 : LT.lt (α := Nat) o0 h0.size := F_coder_o0.lt
  show GoW p e below s 2 4 (Q13e Z o0 o1 ka u3 u4 h0 n0) (s₁.setTop (entryFrame m #[(.ref o0), (.ref o1)] 2))
  rw [ef_13e m o0 o1]
  refine GoW.pre (st' := s₁.setTop (mkF m 4 #[.val (.ref o0), .val (.ref o1)] [(.ref o1), (.int (0 : Int32)), (.ref o1), (.ref o0)])) (fun target kt => ?_) ?_
  · show Steps p.tables e below (s₁.setTop (mkF m 0 #[.val (.ref o0), .val (.ref o1)] [])) _
    refine XS.aloadN X0.here hx rfl (hb hby d13_0) rfl rfl ?_
    show Steps p.tables e below (s₁.setTop (mkF m 1 #[.val (.ref o0), .val (.ref o1)] [(.ref o0)])) _
    refine XS.aloadN X0.here hx rfl (hb hby d13_1) rfl rfl ?_
    show Steps p.tables e below (s₁.setTop (mkF m 2 #[.val (.ref o0), .val (.ref o1)] [(.ref o1), (.ref o0)])) _
    refine XS.iconst X0.here hx rfl (hb hby d13_2) ?_
    show Steps p.tables e below (s₁.setTop (mkF m 3 #[.val (.ref o0), .val (.ref o1)] [(.int (0 : Int32)), (.ref o1), (.ref o0)])) _
    refine XS.aloadN X0.here hx rfl (hb hby d13_3) rfl rfl ?_
    exact kt
  obtain ⟨cl1, Ar1, -, Sz1, Nn1, -, -⟩ := id A_o1
  have st1 := X0.arraylength hx (by rw [e0]; exact Ar1.1) (State.isArrayOf_alike hZ.alike Ar1.2.1) (g := (mkF m 4 #[.val (.ref o0), .val (.ref o1)] [(.ref o1), (.int (0 : Int32)), (.ref o1), (.ref o0)])) rfl rfl (hb hby d13_4)
  rw [len_of Sz1 Nn1] at st1
  refine GoW.pre st1 ?_
  show GoW p e below s _ _ _ (s₁.setTop (mkF m 5 #[.val (.ref o0), .val (.ref o1)] [(.int (0 : Int32)), (.int (0 : Int32)), (.ref o1), (.ref o0)]))
  refine GoW.pre (st' := s₁.setTop (mkF m 6 #[.val (.ref o0), .val (.ref o1)] [.null, (.int (0 : Int32)), (.int (0 : Int32)), (.ref o1), (.ref o0)])) (fun target kt => ?_) ?_
  · show Steps p.tables e below (s₁.setTop (mkF m 5 #[.val (.ref o0), .val (.ref o1)] [(.int (0 : Int32)), (.int (0 : Int32)), (.ref o1), (.ref o0)])) _
    refine XS.aconstNull X0.here hx rfl (hb hby d13_5) ?_
    exact kt
  obtain ⟨_, _, ⟨T2, L2, k2, n2⟩, -, X2', hS2, hgr2, ⟨Lc2, hQ2, l2, y2, z2⟩, st2⟩ := X0.specialBackS hx (y := (⟨"java/lang/String", "<init>", "([CIILjava/lang/Void;)V"⟩ : MethodName)) rfl hown (mvT hZ (hw _ (List.mem_of_getElem? (i := 103) rfl))) (mvT hZ (hw _ (List.mem_of_getElem? (i := 104) rfl))) (mvT hZ (hw _ (List.mem_of_getElem? (i := 105) rfl))) (by decide) (backOfSI (W := 0) (rm14e l Z a0 hw [] o0 o1 u3 u4 h0 n0 (by omega) hcw hheld Ol F_value_o0 E_o0 (by omega) F_coder_o0) hZ (hw _ (List.mem_of_getElem? (i := 105) rfl)) (hw _ (List.mem_of_getElem? (i := 2) rfl)) (by decide) (by decide)) (g := (mkF m 6 #[.val (.ref o0), .val (.ref o1)] [.null, (.int (0 : Int32)), (.int (0 : Int32)), (.ref o1), (.ref o0)])) rfl (by rw [hml]; rfl) (Steps.refl _) (a := o0) (argsL := [(.ref o1), (.int (0 : Int32)), (.int (0 : Int32)), .null]) (rest := []) (lenOf pd13e_0 rfl) rfl (by show 2 * 0 + _ ≤ _; exact Nat.le_of_eq rfl) (hb hby d13_6) (fun vm₁ hvm => ⟨rfl, e0, (by decide : 0 + 2 ≤ _), (by decide : 0 + 4 ≤ _), IB.mv hI hvm⟩)
  dsimp only [Pt.U, Pt.locs, Pt.cells, Pt.slots] at X2' l2 y2 z2 st2 hQ2 hS2 hgr2
  subst l2 y2 z2
  obtain ⟨X2, hS, hZ, hown⟩ := rebS hS (leH e0 (by omega)) X2' hS2 hgr2 hZ hown
  have hk := Nat.le_refl T2.heap.size
  obtain ⟨rfl, N2q, K2, KF2, Y2_0, hI⟩ := hQ2
  have sz2 : h0.size ≤ T2.heap.size := K2.1
  have N2 := Fr.app N0 N2q
  refine GoW.trans st2 ?_
  show GoW p e below s _ _ _ (T2.setTop (mkF m 9 #[.val (.ref o0), .val (.ref o1)] []))
  exact GoW.ret0 X2 hS (leH rfl (by omega)) hx hlk hrt (hb hby d13_9) (by decide) (by decide) (by exact ⟨rfl, N2, ((Keep.refl h0 [o0]).trans K2 (allS (Or.inl (List.mem_of_getElem? (i := 0) rfl)) all0)), ((KF.refl Z h0 [(o0, Jvm.RoadKit.slotOf Z "java/lang/String" "value" "[B"), (o0, Jvm.RoadKit.slotOf Z "java/lang/String" "coder" "B")]).trans KF2 (pallS (Or.inl (List.mem_of_getElem? (i := 0) rfl)) (pallS (Or.inl (List.mem_of_getElem? (i := 1) rfl)) pall0))), Y2_0, IB.at X2 hI⟩)
/-! StringUTF16.compress (21c) -/
theorem d21_0 : decode jdk_52_method_21_code 0 = .ok (.iconst 0, 1) := by decide +kernel
theorem d21_1 : decode jdk_52_method_21_code 1 = .ok (.istore 5, 2) := by decide +kernel
theorem d21_3 : decode jdk_52_method_21_code 3 = .ok (.iload 5, 2) := by decide +kernel
theorem d21_5 : decode jdk_52_method_21_code 5 = .ok (.iload 4, 2) := by decide +kernel
theorem d21_7 : decode jdk_52_method_21_code 7 = .ok (.if_icmp .ge 37, 3) := by decide +kernel
theorem d21_10 : decode jdk_52_method_21_code 10 = .ok (.aload_n 0, 1) := by decide +kernel
theorem d21_11 : decode jdk_52_method_21_code 11 = .ok (.iload_n 1, 1) := by decide +kernel
theorem d21_12 : decode jdk_52_method_21_code 12 = .ok (.caload, 1) := by decide +kernel
theorem d21_13 : decode jdk_52_method_21_code 13 = .ok (.istore 6, 2) := by decide +kernel
theorem d21_15 : decode jdk_52_method_21_code 15 = .ok (.iload 6, 2) := by decide +kernel
theorem d21_17 : decode jdk_52_method_21_code 17 = .ok (.sipush 255, 3) := by decide +kernel
theorem d21_20 : decode jdk_52_method_21_code 20 = .ok (.if_icmp .le 6, 3) := by decide +kernel
theorem d21_26 : decode jdk_52_method_21_code 26 = .ok (.aload_n 2, 1) := by decide +kernel
theorem d21_27 : decode jdk_52_method_21_code 27 = .ok (.iload_n 3, 1) := by decide +kernel
theorem d21_28 : decode jdk_52_method_21_code 28 = .ok (.iload 6, 2) := by decide +kernel
theorem d21_30 : decode jdk_52_method_21_code 30 = .ok (.i2b, 1) := by decide +kernel
theorem d21_31 : decode jdk_52_method_21_code 31 = .ok (.bastore, 1) := by decide +kernel
theorem d21_32 : decode jdk_52_method_21_code 32 = .ok (.iinc 1 1, 3) := by decide +kernel
theorem d21_35 : decode jdk_52_method_21_code 35 = .ok (.iinc 3 1, 3) := by decide +kernel
theorem d21_38 : decode jdk_52_method_21_code 38 = .ok (.iinc 5 1, 3) := by decide +kernel
theorem d21_41 : decode jdk_52_method_21_code 41 = .ok (.goto (-38), 3) := by decide +kernel
theorem d21_44 : decode jdk_52_method_21_code 44 = .ok (.iload 4, 2) := by decide +kernel
theorem d21_46 : decode jdk_52_method_21_code 46 = .ok (.ireturn, 1) := by decide +kernel
theorem pn_21 : plainName "java/lang/StringUTF16" = true := by first | (simp [plainName, overriddenIn]; done) | decide +kernel
theorem ef_21c (m : MethodId) (o0 : Addr) (o2 : Addr) : entryFrame m #[(.ref o0), (.int (0 : Int32)), (.ref o2), (.int (0 : Int32)), (.int (2 : Int32))] 7 = (mkF m 0 #[.val (.ref o0), .val (.int (0 : Int32)), .val (.ref o2), .val (.int (0 : Int32)), .val (.int (2 : Int32)), .unset, .unset] []) := by first | (simp [entryFrame, mkF, argsToLocals, Value.category]; done) | rfl
def Q21c (Z : State) (o0 : Addr) (o2 : Addr) (ka : ClassId) (c0 : Int32) (c1 : Int32) (kb : ClassId) (h0 : Heap) (n0 : Nat) (v : Option Value) (h : Heap) (L : List Loc) : Prop := v = some (.int (2 : Int32)) ∧ Fr n0 L ∧ Keep h0 h [o2] ∧ KF Z h0 h [(o2, ((0 : Int32)).toNatClampNeg), (o2, ((1 : Int32)).toNatClampNeg)] ∧ Arv Z h o2 kb .byte (2 : Int32) [(.int (nar .byte (c0.toInt8.toInt32))), (.int (nar .byte (c1.toInt8.toInt32)))] (.int (0 : Int32))
set_option maxRecDepth 65536 in
set_option maxHeartbeats 40000000 in
theorem rm21c (l : Launch) (Z : State) (a0 : Array Value) (hw : ∀ d ∈ tables_1, d.before a0 Z = true) (ws : List Jvm.Cond) (o0 : Addr) (o2 : Addr) (ka : ClassId) (c0 : Int32) (c1 : Int32) (kb : ClassId) (h0 : Heap) (n0 : Nat) (Z0 : n0 ≤ h0.size) (A_c : Arv Z h0 o0 ka .char (2 : Int32) [(.int c0), (.int c1)] (.int (0 : Int32))) (A_d : Arv Z h0 o2 kb .byte (2 : Int32) [(.int (0 : Int32)), (.int (0 : Int32))] (.int (0 : Int32))) (n_02 : o0 ≠ o2) (g_o2 : n0 ≤ o2) (hle0 : ¬ ((255 : Int32) < c0)) (hle1 : ¬ ((255 : Int32) < c1)) :
    MetFree l (⟨"java/lang/StringUTF16", "compress", "([CI[BII)I"⟩ : MethodName) (head1 (Jvm.Cond.code (⟨"java/lang/StringUTF16", "compress", "([CI[BII)I"⟩ : MethodName) jdk_52_method_21_code 7 (some .int) :: ws) ({ frames := 0, cells := 0, slots := 0, locals := 0 } : Room)) (fun a U => a = #[(.ref o0), (.int (0 : Int32)), (.ref o2), (.int (0 : Int32)), (.int (2 : Int32))] ∧ Z.Warmed39 U.vm ∧ U.heap = h0) (fun _ _ _ _ _ => True) (fun _ U o U' => ∃ v L, o = .returned v ∧ Q21c Z o0 o2 ka c0 c1 kb h0 n0 v U'.heap L ∧ FrameEnd U o U' L ({ frames := 0, cells := 0, slots := 0, locals := 0 } : Room).cells ({ frames := 0, cells := 0, slots := 0, locals := 0 } : Room).slots) := by
  refine MetFree.of_bodySF (plainFor_of_name pn_21) hisR ?_
  intro p e s m args below meth c s₁ Bd hml0 hP hK
  obtain ⟨rfl, hZ, hh⟩ := hP
  have hx := Bd.exec
  have hby := Bd.bytes
  have hml : c.maxLocals = 7 := hml0
  have hown : s.vm.findClass "java/lang/StringUTF16" = some m.cls := findClass_of_methodNamed Bd.named
  have hnm := (name_of_methodNamed Bd.named Bd.method).1
  have hrt := Bd.returns
  have hlk := Bd.notSynchronized
  have X0 : Stand p l e ({ frames := 0, cells := 0, slots := 0, locals := 0 } : Room) s m #[(.ref o0), (.int (0 : Int32)), (.ref o2), (.int (0 : Int32)), (.int (2 : Int32))] below meth c s₁ [] 0 0 := Stand.of_body Bd
  have e0 : s₁.heap = h0 := by rw [← hh, Bd.state]; rfl
  have N0 := Fr.nil n0
  have lt_A_c : LT.lt (α := Nat) o0 h0.size := A_c.lt
  have lt_A_d : LT.lt (α := Nat) o2 h0.size := A_d.lt
  show Go p e below s 0 0 (Q21c Z o0 o2 ka c0 c1 kb h0 n0) (s₁.setTop (entryFrame m #[(.ref o0), (.int (0 : Int32)), (.ref o2), (.int (0 : Int32)), (.int (2 : Int32))] 7))
  rw [ef_21c m o0 o2]
  refine Go.pre (st' := s₁.setTop (mkF m 12 #[.val (.ref o0), .val (.int (0 : Int32)), .val (.ref o2), .val (.int (0 : Int32)), .val (.int (2 : Int32)), .val (.int (0 : Int32)), .unset] [(.int (0 : Int32)), (.ref o0)])) (fun target kt => ?_) ?_
  · show Steps p.tables e below (s₁.setTop (mkF m 0 #[.val (.ref o0), .val (.int (0 : Int32)), .val (.ref o2), .val (.int (0 : Int32)), .val (.int (2 : Int32)), .unset, .unset] [])) _
    refine XS.iconst X0.here hx rfl (hb hby d21_0) ?_
    show Steps p.tables e below (s₁.setTop (mkF m 1 #[.val (.ref o0), .val (.int (0 : Int32)), .val (.ref o2), .val (.int (0 : Int32)), .val (.int (2 : Int32)), .unset, .unset] [(.int (0 : Int32))])) _
    refine XS.istore X0.here hx rfl (hb hby d21_1) rfl (l' := #[.val (.ref o0), .val (.int (0 : Int32)), .val (.ref o2), .val (.int (0 : Int32)), .val (.int (2 : Int32)), .val (.int (0 : Int32)), .unset]) rfl ?_
    show Steps p.tables e below (s₁.setTop (mkF m 3 #[.val (.ref o0), .val (.int (0 : Int32)), .val (.ref o2), .val (.int (0 : Int32)), .val (.int (2 : Int32)), .val (.int (0 : Int32)), .unset] [])) _
    refine XS.iload X0.here hx rfl (hb hby d21_3) rfl ?_
    show Steps p.tables e below (s₁.setTop (mkF m 5 #[.val (.ref o0), .val (.int (0 : Int32)), .val (.ref o2), .val (.int (0 : Int32)), .val (.int (2 : Int32)), .val (.int (0 : Int32)), .unset] [(.int (0 : Int32))])) _
    refine XS.iload X0.here hx rfl (hb hby d21_5) rfl ?_
    show Steps p.tables e below (s₁.setTop (mkF m 7 #[.val (.ref o0), .val (.int (0 : Int32)), .val (.ref o2), .val (.int (0 : Int32)), .val (.int (2 : Int32)), .val (.int (0 : Int32)), .unset] [(.int (2 : Int32)), (.int (0 : Int32))])) _
    refine XS.icmpNo X0.here hx rfl (hb hby d21_7) rfl (tlt (by decide)).2.1 ?_
    show Steps p.tables e below (s₁.setTop (mkF m 10 #[.val (.ref o0), .val (.int (0 : Int32)), .val (.ref o2), .val (.int (0 : Int32)), .val (.int (2 : Int32)), .val (.int (0 : Int32)), .unset] [])) _
    refine XS.aloadN X0.here hx rfl (hb hby d21_10) rfl rfl ?_
    show Steps p.tables e below (s₁.setTop (mkF m 11 #[.val (.ref o0), .val (.int (0 : Int32)), .val (.ref o2), .val (.int (0 : Int32)), .val (.int (2 : Int32)), .val (.int (0 : Int32)), .unset] [(.ref o0)])) _
    refine XS.iloadN X0.here hx rfl (hb hby d21_11) rfl ?_
    exact kt
  obtain ⟨cl1, Ar1, q1, Sz1, Nn1, Hs1, Gs1⟩ := id A_c
  have in1 := inb_of (j := (0 : Int32)) Sz1 ⟨by decide, by decide⟩
  have at1 : cl1.slots[((0 : Int32)).toNatClampNeg]? = some (.int c0) := Has.at Hs1 in1 rfl
  refine Go.pre (X0.caload hx (j := (0 : Int32)) (v := (.int c0)) (by rw [e0]; exact Ar1.1) (State.isArrayOf_alike hZ.alike Ar1.2.1) Ar1.2.2 in1 at1 (g := (mkF m 12 #[.val (.ref o0), .val (.int (0 : Int32)), .val (.ref o2), .val (.int (0 : Int32)), .val (.int (2 : Int32)), .val (.int (0 : Int32)), .unset] [(.int (0 : Int32)), (.ref o0)])) rfl rfl (hb hby d21_12)) ?_
  show Go p e below s _ _ _ (s₁.setTop (mkF m 13 #[.val (.ref o0), .val (.int (0 : Int32)), .val (.ref o2), .val (.int (0 : Int32)), .val (.int (2 : Int32)), .val (.int (0 : Int32)), .unset] [(.int c0)]))
  refine Go.pre (st' := s₁.setTop (mkF m 31 #[.val (.ref o0), .val (.int (0 : Int32)), .val (.ref o2), .val (.int (0 : Int32)), .val (.int (2 : Int32)), .val (.int (0 : Int32)), .val (.int c0)] [(.int (c0.toInt8.toInt32)), (.int (0 : Int32)), (.ref o2)])) (fun target kt => ?_) ?_
  · show Steps p.tables e below (s₁.setTop (mkF m 13 #[.val (.ref o0), .val (.int (0 : Int32)), .val (.ref o2), .val (.int (0 : Int32)), .val (.int (2 : Int32)), .val (.int (0 : Int32)), .unset] [(.int c0)])) _
    refine XS.istore X0.here hx rfl (hb hby d21_13) rfl (l' := #[.val (.ref o0), .val (.int (0 : Int32)), .val (.ref o2), .val (.int (0 : Int32)), .val (.int (2 : Int32)), .val (.int (0 : Int32)), .val (.int c0)]) rfl ?_
    show Steps p.tables e below (s₁.setTop (mkF m 15 #[.val (.ref o0), .val (.int (0 : Int32)), .val (.ref o2), .val (.int (0 : Int32)), .val (.int (2 : Int32)), .val (.int (0 : Int32)), .val (.int c0)] [])) _
    refine XS.iload X0.here hx rfl (hb hby d21_15) rfl ?_
    show Steps p.tables e below (s₁.setTop (mkF m 17 #[.val (.ref o0), .val (.int (0 : Int32)), .val (.ref o2), .val (.int (0 : Int32)), .val (.int (2 : Int32)), .val (.int (0 : Int32)), .val (.int c0)] [(.int c0)])) _
    refine XS.sipush X0.here hx rfl (hb hby d21_17) ?_
    show Steps p.tables e below (s₁.setTop (mkF m 20 #[.val (.ref o0), .val (.int (0 : Int32)), .val (.ref o2), .val (.int (0 : Int32)), .val (.int (2 : Int32)), .val (.int (0 : Int32)), .val (.int c0)] [(.int (255 : Int32)), (.int c0)])) _
    refine XS.icmpYes X0.here hx rfl (pc0 := 20) (pc' := 26) rfl (hb hby d21_20) rfl (flt hle0).2.2.2 (by decide) (by decide) ?_
    show Steps p.tables e below (s₁.setTop (mkF m 26 #[.val (.ref o0), .val (.int (0 : Int32)), .val (.ref o2), .val (.int (0 : Int32)), .val (.int (2 : Int32)), .val (.int (0 : Int32)), .val (.int c0)] [])) _
    refine XS.aloadN X0.here hx rfl (hb hby d21_26) rfl rfl ?_
    show Steps p.tables e below (s₁.setTop (mkF m 27 #[.val (.ref o0), .val (.int (0 : Int32)), .val (.ref o2), .val (.int (0 : Int32)), .val (.int (2 : Int32)), .val (.int (0 : Int32)), .val (.int c0)] [(.ref o2)])) _
    refine XS.iloadN X0.here hx rfl (hb hby d21_27) rfl ?_
    show Steps p.tables e below (s₁.setTop (mkF m 28 #[.val (.ref o0), .val (.int (0 : Int32)), .val (.ref o2), .val (.int (0 : Int32)), .val (.int (2 : Int32)), .val (.int (0 : Int32)), .val (.int c0)] [(.int (0 : Int32)), (.ref o2)])) _
    refine XS.iload X0.here hx rfl (hb hby d21_28) rfl ?_
    show Steps p.tables e below (s₁.setTop (mkF m 30 #[.val (.ref o0), .val (.int (0 : Int32)), .val (.ref o2), .val (.int (0 : Int32)), .val (.int (2 : Int32)), .val (.int (0 : Int32)), .val (.int c0)] [(.int c0), (.int (0 : Int32)), (.ref o2)])) _
    refine XS.i2b X0.here hx rfl (hb hby d21_30) rfl ?_
    exact kt
  obtain ⟨cl2, Ar2, q2, Sz2, Nn2, Hs2, Gs2⟩ := id A_d
  have in2 := inb_of (j := (0 : Int32)) Sz2 ⟨by decide, by decide⟩
  obtain ⟨T2, h2, X2, e2, W2, st2⟩ := stB X0 hx hZ e0 Ar2 (j := (0 : Int32)) in2 (g := (mkF m 31 #[.val (.ref o0), .val (.int (0 : Int32)), .val (.ref o2), .val (.int (0 : Int32)), .val (.int (2 : Int32)), .val (.int (0 : Int32)), .val (.int c0)] [(.int (c0.toInt8.toInt32)), (.int (0 : Int32)), (.ref o2)])) rfl rfl (hb hby d21_31)
  have sz2 : h0.size ≤ h2.size := (Keep.of_wr W2).1
  have V2 : Arv Z h2 o2 kb .byte (2 : Int32) [(.int (nar .byte (c0.toInt8.toInt32))), (.int (0 : Int32))] (.int (0 : Int32)) := Arv.set Ar2 q2 Sz2 Nn2 Hs2 Gs2 (fits_nar_byte _) W2 0 rfl (Nat.le_of_ble_eq_true rfl)
  have N2 := Fr.snoc X2 N0 (by omega)
  refine Go.pre st2 ?_
  show Go p e below s _ _ _ (T2.setTop (mkF m 32 #[.val (.ref o0), .val (.int (0 : Int32)), .val (.ref o2), .val (.int (0 : Int32)), .val (.int (2 : Int32)), .val (.int (0 : Int32)), .val (.int c0)] []))
  refine Go.pre (st' := T2.setTop (mkF m 12 #[.val (.ref o0), .val (.int (1 : Int32)), .val (.ref o2), .val (.int (1 : Int32)), .val (.int (2 : Int32)), .val (.int (1 : Int32)), .val (.int c0)] [(.int (1 : Int32)), (.ref o0)])) (fun target kt => ?_) ?_
  · show Steps p.tables e below (T2.setTop (mkF m 32 #[.val (.ref o0), .val (.int (0 : Int32)), .val (.ref o2), .val (.int (0 : Int32)), .val (.int (2 : Int32)), .val (.int (0 : Int32)), .val (.int c0)] [])) _
    refine XS.iinc X2.here hx rfl (hb hby d21_32) rfl (l' := #[.val (.ref o0), .val (.int (1 : Int32)), .val (.ref o2), .val (.int (0 : Int32)), .val (.int (2 : Int32)), .val (.int (0 : Int32)), .val (.int c0)]) rfl ?_
    show Steps p.tables e below (T2.setTop (mkF m 35 #[.val (.ref o0), .val (.int (1 : Int32)), .val (.ref o2), .val (.int (0 : Int32)), .val (.int (2 : Int32)), .val (.int (0 : Int32)), .val (.int c0)] [])) _
    refine XS.iinc X2.here hx rfl (hb hby d21_35) rfl (l' := #[.val (.ref o0), .val (.int (1 : Int32)), .val (.ref o2), .val (.int (1 : Int32)), .val (.int (2 : Int32)), .val (.int (0 : Int32)), .val (.int c0)]) rfl ?_
    show Steps p.tables e below (T2.setTop (mkF m 38 #[.val (.ref o0), .val (.int (1 : Int32)), .val (.ref o2), .val (.int (1 : Int32)), .val (.int (2 : Int32)), .val (.int (0 : Int32)), .val (.int c0)] [])) _
    refine XS.iinc X2.here hx rfl (hb hby d21_38) rfl (l' := #[.val (.ref o0), .val (.int (1 : Int32)), .val (.ref o2), .val (.int (1 : Int32)), .val (.int (2 : Int32)), .val (.int (1 : Int32)), .val (.int c0)]) rfl ?_
    show Steps p.tables e below (T2.setTop (mkF m 41 #[.val (.ref o0), .val (.int (1 : Int32)), .val (.ref o2), .val (.int (1 : Int32)), .val (.int (2 : Int32)), .val (.int (1 : Int32)), .val (.int c0)] [])) _
    refine XS.goto X2.here hx rfl (pc0 := 41) (pc' := 3) rfl (hb hby d21_41) (by decide) (by decide) ?_
    show Steps p.tables e below (T2.setTop (mkF m 3 #[.val (.ref o0), .val (.int (1 : Int32)), .val (.ref o2), .val (.int (1 : Int32)), .val (.int (2 : Int32)), .val (.int (1 : Int32)), .val (.int c0)] [])) _
    refine XS.iload X2.here hx rfl (hb hby d21_3) rfl ?_
    show Steps p.tables e below (T2.setTop (mkF m 5 #[.val (.ref o0), .val (.int (1 : Int32)), .val (.ref o2), .val (.int (1 : Int32)), .val (.int (2 : Int32)), .val (.int (1 : Int32)), .val (.int c0)] [(.int (1 : Int32))])) _
    refine XS.iload X2.here hx rfl (hb hby d21_5) rfl ?_
    show Steps p.tables e below (T2.setTop (mkF m 7 #[.val (.ref o0), .val (.int (1 : Int32)), .val (.ref o2), .val (.int (1 : Int32)), .val (.int (2 : Int32)), .val (.int (1 : Int32)), .val (.int c0)] [(.int (2 : Int32)), (.int (1 : Int32))])) _
    refine XS.icmpNo X2.here hx rfl (hb hby d21_7) rfl (tlt (by decide)).2.1 ?_
    show Steps p.tables e below (T2.setTop (mkF m 10 #[.val (.ref o0), .val (.int (1 : Int32)), .val (.ref o2), .val (.int (1 : Int32)), .val (.int (2 : Int32)), .val (.int (1 : Int32)), .val (.int c0)] [])) _
    refine XS.aloadN X2.here hx rfl (hb hby d21_10) rfl rfl ?_
    show Steps p.tables e below (T2.setTop (mkF m 11 #[.val (.ref o0), .val (.int (1 : Int32)), .val (.ref o2), .val (.int (1 : Int32)), .val (.int (2 : Int32)), .val (.int (1 : Int32)), .val (.int c0)] [(.ref o0)])) _
    refine XS.iloadN X2.here hx rfl (hb hby d21_11) rfl ?_
    exact kt
  have Y3 : Arv Z h2 o0 ka .char (2 : Int32) [(.int c0), (.int c1)] (.int (0 : Int32)) := (A_c.other W2 n_02)
  obtain ⟨cl4, Ar4, q4, Sz4, Nn4, Hs4, Gs4⟩ := id Y3
  have in4 := inb_of (j := (1 : Int32)) Sz4 ⟨by decide, by decide⟩
  have at4 : cl4.slots[((1 : Int32)).toNatClampNeg]? = some (.int c1) := Has.at Hs4 in4 rfl
  refine Go.pre (X2.caload hx (j := (1 : Int32)) (v := (.int c1)) (by rw [e2]; exact Ar4.1) (State.isArrayOf_alike hZ.alike Ar4.2.1) Ar4.2.2 in4 at4 (g := (mkF m 12 #[.val (.ref o0), .val (.int (1 : Int32)), .val (.ref o2), .val (.int (1 : Int32)), .val (.int (2 : Int32)), .val (.int (1 : Int32)), .val (.int c0)] [(.int (1 : Int32)), (.ref o0)])) rfl rfl (hb hby d21_12)) ?_
  show Go p e below s _ _ _ (T2.setTop (mkF m 13 #[.val (.ref o0), .val (.int (1 : Int32)), .val (.ref o2), .val (.int (1 : Int32)), .val (.int (2 : Int32)), .val (.int (1 : Int32)), .val (.int c0)] [(.int c1)]))
  refine Go.pre (st' := T2.setTop (mkF m 31 #[.val (.ref o0), .val (.int (1 : Int32)), .val (.ref o2), .val (.int (1 : Int32)), .val (.int (2 : Int32)), .val (.int (1 : Int32)), .val (.int c1)] [(.int (c1.toInt8.toInt32)), (.int (1 : Int32)), (.ref o2)])) (fun target kt => ?_) ?_
  · show Steps p.tables e below (T2.setTop (mkF m 13 #[.val (.ref o0), .val (.int (1 : Int32)), .val (.ref o2), .val (.int (1 : Int32)), .val (.int (2 : Int32)), .val (.int (1 : Int32)), .val (.int c0)] [(.int c1)])) _
    refine XS.istore X2.here hx rfl (hb hby d21_13) rfl (l' := #[.val (.ref o0), .val (.int (1 : Int32)), .val (.ref o2), .val (.int (1 : Int32)), .val (.int (2 : Int32)), .val (.int (1 : Int32)), .val (.int c1)]) rfl ?_
    show Steps p.tables e below (T2.setTop (mkF m 15 #[.val (.ref o0), .val (.int (1 : Int32)), .val (.ref o2), .val (.int (1 : Int32)), .val (.int (2 : Int32)), .val (.int (1 : Int32)), .val (.int c1)] [])) _
    refine XS.iload X2.here hx rfl (hb hby d21_15) rfl ?_
    show Steps p.tables e below (T2.setTop (mkF m 17 #[.val (.ref o0), .val (.int (1 : Int32)), .val (.ref o2), .val (.int (1 : Int32)), .val (.int (2 : Int32)), .val (.int (1 : Int32)), .val (.int c1)] [(.int c1)])) _
    refine XS.sipush X2.here hx rfl (hb hby d21_17) ?_
    show Steps p.tables e below (T2.setTop (mkF m 20 #[.val (.ref o0), .val (.int (1 : Int32)), .val (.ref o2), .val (.int (1 : Int32)), .val (.int (2 : Int32)), .val (.int (1 : Int32)), .val (.int c1)] [(.int (255 : Int32)), (.int c1)])) _
    refine XS.icmpYes X2.here hx rfl (pc0 := 20) (pc' := 26) rfl (hb hby d21_20) rfl (flt hle1).2.2.2 (by decide) (by decide) ?_
    show Steps p.tables e below (T2.setTop (mkF m 26 #[.val (.ref o0), .val (.int (1 : Int32)), .val (.ref o2), .val (.int (1 : Int32)), .val (.int (2 : Int32)), .val (.int (1 : Int32)), .val (.int c1)] [])) _
    refine XS.aloadN X2.here hx rfl (hb hby d21_26) rfl rfl ?_
    show Steps p.tables e below (T2.setTop (mkF m 27 #[.val (.ref o0), .val (.int (1 : Int32)), .val (.ref o2), .val (.int (1 : Int32)), .val (.int (2 : Int32)), .val (.int (1 : Int32)), .val (.int c1)] [(.ref o2)])) _
    refine XS.iloadN X2.here hx rfl (hb hby d21_27) rfl ?_
    show Steps p.tables e below (T2.setTop (mkF m 28 #[.val (.ref o0), .val (.int (1 : Int32)), .val (.ref o2), .val (.int (1 : Int32)), .val (.int (2 : Int32)), .val (.int (1 : Int32)), .val (.int c1)] [(.int (1 : Int32)), (.ref o2)])) _
    refine XS.iload X2.here hx rfl (hb hby d21_28) rfl ?_
    show Steps p.tables e below (T2.setTop (mkF m 30 #[.val (.ref o0), .val (.int (1 : Int32)), .val (.ref o2), .val (.int (1 : Int32)), .val (.int (2 : Int32)), .val (.int (1 : Int32)), .val (.int c1)] [(.int c1), (.int (1 : Int32)), (.ref o2)])) _
    refine XS.i2b X2.here hx rfl (hb hby d21_30) rfl ?_
    exact kt
  obtain ⟨cl5, Ar5, q5, Sz5, Nn5, Hs5, Gs5⟩ := id V2
  have in5 := inb_of (j := (1 : Int32)) Sz5 ⟨by decide, by decide⟩
  obtain ⟨T5, h5, X5, e5, W5, st5⟩ := stB X2 hx hZ e2 Ar5 (j := (1 : Int32)) in5 (g := (mkF m 31 #[.val (.ref o0), .val (.int (1 : Int32)), .val (.ref o2), .val (.int (1 : Int32)), .val (.int (2 : Int32)), .val (.int (1 : Int32)), .val (.int c1)] [(.int (c1.toInt8.toInt32)), (.int (1 : Int32)), (.ref o2)])) rfl rfl (hb hby d21_31)
  have sz5 : h2.size ≤ h5.size := (Keep.of_wr W5).1
  have V5 : Arv Z h5 o2 kb .byte (2 : Int32) [(.int (nar .byte (c0.toInt8.toInt32))), (.int (nar .byte (c1.toInt8.toInt32)))] (.int (0 : Int32)) := Arv.set Ar5 q5 Sz5 Nn5 Hs5 Gs5 (fits_nar_byte _) W5 1 rfl (Nat.le_of_ble_eq_true rfl)
  have N5 := Fr.snoc X5 N2 (by omega)
  refine Go.pre st5 ?_
  show Go p e below s _ _ _ (T5.setTop (mkF m 32 #[.val (.ref o0), .val (.int (1 : Int32)), .val (.ref o2), .val (.int (1 : Int32)), .val (.int (2 : Int32)), .val (.int (1 : Int32)), .val (.int c1)] []))
  refine Go.pre (st' := T5.setTop (mkF m 46 #[.val (.ref o0), .val (.int (2 : Int32)), .val (.ref o2), .val (.int (2 : Int32)), .val (.int (2 : Int32)), .val (.int (2 : Int32)), .val (.int c1)] [(.int (2 : Int32))])) (fun target kt => ?_) ?_
  · show Steps p.tables e below (T5.setTop (mkF m 32 #[.val (.ref o0), .val (.int (1 : Int32)), .val (.ref o2), .val (.int (1 : Int32)), .val (.int (2 : Int32)), .val (.int (1 : Int32)), .val (.int c1)] [])) _
    refine XS.iinc X5.here hx rfl (hb hby d21_32) rfl (l' := #[.val (.ref o0), .val (.int (2 : Int32)), .val (.ref o2), .val (.int (1 : Int32)), .val (.int (2 : Int32)), .val (.int (1 : Int32)), .val (.int c1)]) rfl ?_
    show Steps p.tables e below (T5.setTop (mkF m 35 #[.val (.ref o0), .val (.int (2 : Int32)), .val (.ref o2), .val (.int (1 : Int32)), .val (.int (2 : Int32)), .val (.int (1 : Int32)), .val (.int c1)] [])) _
    refine XS.iinc X5.here hx rfl (hb hby d21_35) rfl (l' := #[.val (.ref o0), .val (.int (2 : Int32)), .val (.ref o2), .val (.int (2 : Int32)), .val (.int (2 : Int32)), .val (.int (1 : Int32)), .val (.int c1)]) rfl ?_
    show Steps p.tables e below (T5.setTop (mkF m 38 #[.val (.ref o0), .val (.int (2 : Int32)), .val (.ref o2), .val (.int (2 : Int32)), .val (.int (2 : Int32)), .val (.int (1 : Int32)), .val (.int c1)] [])) _
    refine XS.iinc X5.here hx rfl (hb hby d21_38) rfl (l' := #[.val (.ref o0), .val (.int (2 : Int32)), .val (.ref o2), .val (.int (2 : Int32)), .val (.int (2 : Int32)), .val (.int (2 : Int32)), .val (.int c1)]) rfl ?_
    show Steps p.tables e below (T5.setTop (mkF m 41 #[.val (.ref o0), .val (.int (2 : Int32)), .val (.ref o2), .val (.int (2 : Int32)), .val (.int (2 : Int32)), .val (.int (2 : Int32)), .val (.int c1)] [])) _
    refine XS.goto X5.here hx rfl (pc0 := 41) (pc' := 3) rfl (hb hby d21_41) (by decide) (by decide) ?_
    show Steps p.tables e below (T5.setTop (mkF m 3 #[.val (.ref o0), .val (.int (2 : Int32)), .val (.ref o2), .val (.int (2 : Int32)), .val (.int (2 : Int32)), .val (.int (2 : Int32)), .val (.int c1)] [])) _
    refine XS.iload X5.here hx rfl (hb hby d21_3) rfl ?_
    show Steps p.tables e below (T5.setTop (mkF m 5 #[.val (.ref o0), .val (.int (2 : Int32)), .val (.ref o2), .val (.int (2 : Int32)), .val (.int (2 : Int32)), .val (.int (2 : Int32)), .val (.int c1)] [(.int (2 : Int32))])) _
    refine XS.iload X5.here hx rfl (hb hby d21_5) rfl ?_
    show Steps p.tables e below (T5.setTop (mkF m 7 #[.val (.ref o0), .val (.int (2 : Int32)), .val (.ref o2), .val (.int (2 : Int32)), .val (.int (2 : Int32)), .val (.int (2 : Int32)), .val (.int c1)] [(.int (2 : Int32)), (.int (2 : Int32))])) _
    refine XS.icmpYes X5.here hx rfl (pc0 := 7) (pc' := 44) rfl (hb hby d21_7) rfl (flt (by decide)).2.1 (by decide) (by decide) ?_
    show Steps p.tables e below (T5.setTop (mkF m 44 #[.val (.ref o0), .val (.int (2 : Int32)), .val (.ref o2), .val (.int (2 : Int32)), .val (.int (2 : Int32)), .val (.int (2 : Int32)), .val (.int c1)] [])) _
    refine XS.iload X5.here hx rfl (hb hby d21_44) rfl ?_
    exact kt
  exact Go.retV X5 hx hlk hrt rfl (Or.inl ⟨rfl, Or.inl rfl, _, rfl⟩) (hb hby d21_46) (by decide) (by decide) (by rw [e5]; exact ⟨rfl, N5, (((Keep.refl h0 [o2]).wr W2 (Or.inl (List.mem_of_getElem? (i := 0) rfl))).wr W5 (Or.inl (List.mem_of_getElem? (i := 0) rfl))), (((KF.refl Z h0 [(o2, ((0 : Int32)).toNatClampNeg), (o2, ((1 : Int32)).toNatClampNeg)]).wr W2 (Or.inl (List.mem_of_getElem? (i := 0) rfl))).wr W5 (Or.inl (List.mem_of_getElem? (i := 1) rfl))), V5⟩)
/-! StringUTF16.compress (20c) -/
theorem d20_0 : decode jdk_52_method_16_code 0 = .ok (.iload_n 2, 1) := by decide +kernel
theorem d20_1 : decode jdk_52_method_16_code 1 = .ok (.newarray .byte, 2) := by decide +kernel
theorem d20_3 : decode jdk_52_method_16_code 3 = .ok (.astore_n 3, 1) := by decide +kernel
theorem d20_4 : decode jdk_52_method_16_code 4 = .ok (.aload_n 0, 1) := by decide +kernel
theorem d20_5 : decode jdk_52_method_16_code 5 = .ok (.iload_n 1, 1) := by decide +kernel
theorem d20_6 : decode jdk_52_method_16_code 6 = .ok (.aload_n 3, 1) := by decide +kernel
theorem d20_7 : decode jdk_52_method_16_code 7 = .ok (.iconst 0, 1) := by decide +kernel
theorem d20_8 : decode jdk_52_method_16_code 8 = .ok (.iload_n 2, 1) := by decide +kernel
theorem d20_9 : decode jdk_52_method_16_code 9 = .ok (.invokestatic 115, 3) := by decide +kernel
theorem d20_12 : decode jdk_52_method_16_code 12 = .ok (.istore 4, 2) := by decide +kernel
theorem d20_14 : decode jdk_52_method_16_code 14 = .ok (.iload 4, 2) := by decide +kernel
theorem d20_16 : decode jdk_52_method_16_code 16 = .ok (.iload_n 2, 1) := by decide +kernel
theorem d20_17 : decode jdk_52_method_16_code 17 = .ok (.if_icmp .eq 40, 3) := by decide +kernel
theorem d20_57 : decode jdk_52_method_16_code 57 = .ok (.aload_n 3, 1) := by decide +kernel
theorem d20_58 : decode jdk_52_method_16_code 58 = .ok (.areturn, 1) := by decide +kernel
theorem pn_20 : plainName "java/lang/StringUTF16" = true := by first | (simp [plainName, overriddenIn]; done) | decide +kernel
theorem pd20c_0 : parseMethodDescriptor "([CI[BII)I" = some ⟨[(.array .char), .int, (.array .byte), .int, .int], some .int⟩ := by decide +kernel
theorem ef_20c (m : MethodId) (o0 : Addr) : entryFrame m #[(.ref o0), (.int (0 : Int32)), (.int (2 : Int32))] 6 = (mkF m 0 #[.val (.ref o0), .val (.int (0 : Int32)), .val (.int (2 : Int32)), .unset, .unset, .unset] []) := by first | (simp [entryFrame, mkF, argsToLocals, Value.category]; done) | rfl
def Q20c (Z : State) (o0 : Addr) (ka : ClassId) (c0 : Int32) (c1 : Int32) (h0 : Heap) (n0 : Nat) (v : Option Value) (h : Heap) (L : List Loc) : Prop := ∃ b1 : Addr, ∃ k1 : ClassId, v = some (.ref b1) ∧ Fr n0 L ∧ Keep h0 h [] ∧ KF Z h0 h [] ∧ LE.le (α := Nat) h0.size b1 ∧ LT.lt (α := Nat) b1 h.size ∧ Arv Z h b1 k1 .byte (2 : Int32) [(.int (nar .byte (c0.toInt8.toInt32))), (.int (nar .byte (c1.toInt8.toInt32)))] (.int (0 : Int32))
set_option maxRecDepth 65536 in
set_option maxHeartbeats 40000000 in
theorem rm20c (l : Launch) (Z : State) (a0 : Array Value) (hw : ∀ d ∈ tables_1, d.before a0 Z = true) (ws : List Jvm.Cond) (o0 : Addr) (ka : ClassId) (c0 : Int32) (c1 : Int32) (h0 : Heap) (n0 : Nat) (Z0 : n0 ≤ h0.size) (A_c : Arv Z h0 o0 ka .char (2 : Int32) [(.int c0), (.int c1)] (.int (0 : Int32))) (hle0 : ¬ ((255 : Int32) < c0)) (hle1 : ¬ ((255 : Int32) < c1)) :
    MetFree l (⟨"java/lang/StringUTF16", "compress", "([CII)[B"⟩ : MethodName) (head1 (Jvm.Cond.code (⟨"java/lang/StringUTF16", "compress", "([CII)[B"⟩ : MethodName) jdk_52_method_16_code 6 (some (.array .byte)) :: ws) ({ frames := 1, cells := 1, slots := 2, locals := 18 } : Room)) (fun a U => a = #[(.ref o0), (.int (0 : Int32)), (.int (2 : Int32))] ∧ Z.Warmed39 U.vm ∧ U.heap = h0) (fun _ _ _ _ _ => True) (fun _ U o U' => ∃ v L, o = .returned v ∧ Q20c Z o0 ka c0 c1 h0 n0 v U'.heap L ∧ FrameEnd U o U' L ({ frames := 1, cells := 1, slots := 2, locals := 18 } : Room).cells ({ frames := 1, cells := 1, slots := 2, locals := 18 } : Room).slots) := by
  refine MetFree.of_bodySF (plainFor_of_name pn_20) hisR ?_
  intro p e s m args below meth c s₁ Bd hml0 hP hK
  obtain ⟨rfl, hZ, hh⟩ := hP
  have hx := Bd.exec
  have hby := Bd.bytes
  have hml : c.maxLocals = 6 := hml0
  have hown : s.vm.findClass "java/lang/StringUTF16" = some m.cls := findClass_of_methodNamed Bd.named
  have hnm := (name_of_methodNamed Bd.named Bd.method).1
  have hrt := Bd.returns
  have hlk := Bd.notSynchronized
  have X0 : Stand p l e ({ frames := 1, cells := 1, slots := 2, locals := 18 } : Room) s m #[(.ref o0), (.int (0 : Int32)), (.int (2 : Int32))] below meth c s₁ [] 0 0 := Stand.of_body Bd
  have e0 : s₁.heap = h0 := by rw [← hh, Bd.state]; rfl
  have N0 := Fr.nil n0
  have lt_A_c : LT.lt (α := Nat) o0 h0.size := A_c.lt
  show Go p e below s 1 2 (Q20c Z o0 ka c0 c1 h0 n0) (s₁.setTop (entryFrame m #[(.ref o0), (.int (0 : Int32)), (.int (2 : Int32))] 6))
  rw [ef_20c m o0]
  refine Go.pre (st' := s₁.setTop (mkF m 1 #[.val (.ref o0), .val (.int (0 : Int32)), .val (.int (2 : Int32)), .unset, .unset, .unset] [(.int (2 : Int32))])) (fun target kt => ?_) ?_
  · show Steps p.tables e below (s₁.setTop (mkF m 0 #[.val (.ref o0), .val (.int (0 : Int32)), .val (.int (2 : Int32)), .unset, .unset, .unset] [])) _
    refine XS.iloadN X0.here hx rfl (hb hby d20_0) rfl ?_
    exact kt
  obtain ⟨T1, h1, k1, X1, e1, E1, A1, st1⟩ := newP X0 hx hZ (hw _ (List.mem_of_getElem? (i := 14) rfl)) e0 (g := (mkF m 1 #[.val (.ref o0), .val (.int (0 : Int32)), .val (.int (2 : Int32)), .unset, .unset, .unset] [(.int (2 : Int32))])) rfl (hb hby d20_1) rfl (by decide) (cap := 2) (by decide) (by decide) (by decide) (by decide)
  obtain ⟨b1, g1⟩ : ∃ z, z = h0.size := ⟨_, rfl⟩
  rw [← g1] at A1 st1
  have sz1 : h0.size ≤ h1.size := E1.1
  have V1 : Arv Z h1 b1 k1 .byte (2 : Int32) [(.int (0 : Int32)), (.int (0 : Int32))] (.int (0 : Int32)) := (Arv.new A1 (by decide)).pad (pad_rep [] (.int (0 : Int32)) 2)
  have lt1 : b1 < h1.size := V1.lt
  refine Go.pre st1 ?_
  show Go p e below s _ _ _ (T1.setTop (mkF m 3 #[.val (.ref o0), .val (.int (0 : Int32)), .val (.int (2 : Int32)), .unset, .unset, .unset] [(.ref b1)]))
  refine Go.pre (st' := T1.setTop (mkF m 9 #[.val (.ref o0), .val (.int (0 : Int32)), .val (.int (2 : Int32)), .val (.ref b1), .unset, .unset] [(.int (2 : Int32)), (.int (0 : Int32)), (.ref b1), (.int (0 : Int32)), (.ref o0)])) (fun target kt => ?_) ?_
  · show Steps p.tables e below (T1.setTop (mkF m 3 #[.val (.ref o0), .val (.int (0 : Int32)), .val (.int (2 : Int32)), .unset, .unset, .unset] [(.ref b1)])) _
    refine XS.astoreN X1.here hx rfl (hb hby d20_3) rfl rfl (l' := #[.val (.ref o0), .val (.int (0 : Int32)), .val (.int (2 : Int32)), .val (.ref b1), .unset, .unset]) rfl ?_
    show Steps p.tables e below (T1.setTop (mkF m 4 #[.val (.ref o0), .val (.int (0 : Int32)), .val (.int (2 : Int32)), .val (.ref b1), .unset, .unset] [])) _
    refine XS.aloadN X1.here hx rfl (hb hby d20_4) rfl rfl ?_
    show Steps p.tables e below (T1.setTop (mkF m 5 #[.val (.ref o0), .val (.int (0 : Int32)), .val (.int (2 : Int32)), .val (.ref b1), .unset, .unset] [(.ref o0)])) _
    refine XS.iloadN X1.here hx rfl (hb hby d20_5) rfl ?_
    show Steps p.tables e below (T1.setTop (mkF m 6 #[.val (.ref o0), .val (.int (0 : Int32)), .val (.int (2 : Int32)), .val (.ref b1), .unset, .unset] [(.int (0 : Int32)), (.ref o0)])) _
    refine XS.aloadN X1.here hx rfl (hb hby d20_6) rfl rfl ?_
    show Steps p.tables e below (T1.setTop (mkF m 7 #[.val (.ref o0), .val (.int (0 : Int32)), .val (.int (2 : Int32)), .val (.ref b1), .unset, .unset] [(.ref b1), (.int (0 : Int32)), (.ref o0)])) _
    refine XS.iconst X1.here hx rfl (hb hby d20_7) ?_
    show Steps p.tables e below (T1.setTop (mkF m 8 #[.val (.ref o0), .val (.int (0 : Int32)), .val (.int (2 : Int32)), .val (.ref b1), .unset, .unset] [(.int (0 : Int32)), (.ref b1), (.int (0 : Int32)), (.ref o0)])) _
    refine XS.iloadN X1.here hx rfl (hb hby d20_8) rfl ?_
    exact kt
  have Y3 : Arv Z h1 o0 ka .char (2 : Int32) [(.int c0), (.int c1)] (.int (0 : Int32)) := (A_c.ext E1)
  obtain ⟨_, _, ⟨T2, L2, k2, n2⟩, -, X2, ⟨Lc2, hQ2, l2, y2, z2⟩, st2⟩ := Jvm.LawKit.callS X1 hx (y := (⟨"java/lang/StringUTF16", "compress", "([CI[BII)I"⟩ : MethodName)) hown (mvT hZ (hw _ (List.mem_of_getElem? (i := 150) rfl))) (mvT hZ (hw _ (List.mem_of_getElem? (i := 151) rfl))) (mvT hZ (hw _ (List.mem_of_getElem? (i := 148) rfl))) (mvT hZ (hw _ (List.mem_of_getElem? (i := 152) rfl))) (by decide) (backOf (W := 0) (rm21c l Z a0 hw [] o0 b1 ka c0 c1 k1 h1 n0 (by omega) Y3 V1 (by show @Ne Nat o0 b1; omega) (by omega) hle0 hle1) hZ (hw _ (List.mem_of_getElem? (i := 152) rfl)) (hw _ (List.mem_of_getElem? (i := 148) rfl)) (by decide) (by decide)) (g := (mkF m 9 #[.val (.ref o0), .val (.int (0 : Int32)), .val (.int (2 : Int32)), .val (.ref b1), .unset, .unset] [(.int (2 : Int32)), (.int (0 : Int32)), (.ref b1), (.int (0 : Int32)), (.ref o0)])) rfl (by rw [hml]; rfl) (argsL := [(.ref o0), (.int (0 : Int32)), (.ref b1), (.int (0 : Int32)), (.int (2 : Int32))]) (rest := []) (lenOf pd20c_0 rfl) rfl (by show 2 * 0 + _ ≤ _; exact Nat.le_of_eq rfl) (hb hby d20_9) (fun vm₁ hvm => ⟨rfl, e1, (by decide : 1 + 0 ≤ _), (by decide : 2 + 0 ≤ _)⟩)
  dsimp only [Pt.U, Pt.locs, Pt.cells, Pt.slots] at X2 l2 y2 z2 st2 hQ2
  subst l2 y2 z2
  obtain ⟨rfl, N2q, K2, KF2, Y2_0⟩ := hQ2
  have sz2 : h1.size ≤ T2.heap.size := K2.1
  have N2 := Fr.app N0 N2q
  refine Go.pre st2 ?_
  show Go p e below s _ _ _ (T2.setTop (mkF m 12 #[.val (.ref o0), .val (.int (0 : Int32)), .val (.int (2 : Int32)), .val (.ref b1), .unset, .unset] [(.int (2 : Int32))]))
  refine Go.pre (st' := T2.setTop (mkF m 58 #[.val (.ref o0), .val (.int (0 : Int32)), .val (.int (2 : Int32)), .val (.ref b1), .val (.int (2 : Int32)), .unset] [(.ref b1)])) (fun target kt => ?_) ?_
  · show Steps p.tables e below (T2.setTop (mkF m 12 #[.val (.ref o0), .val (.int (0 : Int32)), .val (.int (2 : Int32)), .val (.ref b1), .unset, .unset] [(.int (2 : Int32))])) _
    refine XS.istore X2.here hx rfl (hb hby d20_12) rfl (l' := #[.val (.ref o0), .val (.int (0 : Int32)), .val (.int (2 : Int32)), .val (.ref b1), .val (.int (2 : Int32)), .unset]) rfl ?_
    show Steps p.tables e below (T2.setTop (mkF m 14 #[.val (.ref o0), .val (.int (0 : Int32)), .val (.int (2 : Int32)), .val (.ref b1), .val (.int (2 : Int32)), .unset] [])) _
    refine XS.iload X2.here hx rfl (hb hby d20_14) rfl ?_
    show Steps p.tables e below (T2.setTop (mkF m 16 #[.val (.ref o0), .val (.int (0 : Int32)), .val (.int (2 : Int32)), .val (.ref b1), .val (.int (2 : Int32)), .unset] [(.int (2 : Int32))])) _
    refine XS.iloadN X2.here hx rfl (hb hby d20_16) rfl ?_
    show Steps p.tables e below (T2.setTop (mkF m 17 #[.val (.ref o0), .val (.int (0 : Int32)), .val (.int (2 : Int32)), .val (.ref b1), .val (.int (2 : Int32)), .unset] [(.int (2 : Int32)), (.int (2 : Int32))])) _
    refine XS.icmpYes X2.here hx rfl (pc0 := 17) (pc' := 57) rfl (hb hby d20_17) rfl (teq (by decide)).1 (by decide) (by decide) ?_
    show Steps p.tables e below (T2.setTop (mkF m 57 #[.val (.ref o0), .val (.int (0 : Int32)), .val (.int (2 : Int32)), .val (.ref b1), .val (.int (2 : Int32)), .unset] [])) _
    refine XS.aloadN X2.here hx rfl (hb hby d20_57) rfl rfl ?_
    exact kt
  exact Go.retV X2 hx hlk hrt rfl (Or.inr (Or.inr (Or.inr (Or.inr ⟨rfl, rfl, rfl⟩)))) (hb hby d20_58) (by decide) (by decide) (by exact ⟨b1, k1, rfl, N2, (((Keep.refl h0 []).ext E1).trans K2 (allS (Or.inr (by omega)) all0)), (((KF.refl Z h0 []).ext E1).trans KF2 (pallS (Or.inr (by show _ ≤ b1; omega)) (pallS (Or.inr (by show _ ≤ b1; omega)) pall0))), by omega, by omega, Y2_0⟩)
/-! StringUTF16.coderFromArrayLen (22c) -/
theorem d22_0 : decode jdk_52_method_15_code 0 = .ok (.iload_n 1, 1) := by decide +kernel
theorem d22_1 : decode jdk_52_method_15_code 1 = .ok (.aload_n 0, 1) := by decide +kernel
theorem d22_2 : decode jdk_52_method_15_code 2 = .ok (.arraylength, 1) := by decide +kernel
theorem d22_3 : decode jdk_52_method_15_code 3 = .ok (.isub, 1) := by decide +kernel
theorem d22_4 : decode jdk_52_method_15_code 4 = .ok (.bipush 31, 2) := by decide +kernel
theorem d22_6 : decode jdk_52_method_15_code 6 = .ok (.iushr, 1) := by decide +kernel
theorem d22_7 : decode jdk_52_method_15_code 7 = .ok (.i2b, 1) := by decide +kernel
theorem d22_8 : decode jdk_52_method_15_code 8 = .ok (.ireturn, 1) := by decide +kernel
theorem pn_22 : plainName "java/lang/StringUTF16" = true := by first | (simp [plainName, overriddenIn]; done) | decide +kernel
theorem ef_22c (m : MethodId) (o0 : Addr) : entryFrame m #[(.ref o0), (.int (2 : Int32))] 2 = (mkF m 0 #[.val (.ref o0), .val (.int (2 : Int32))] []) := by first | (simp [entryFrame, mkF, argsToLocals, Value.category]; done) | rfl
def Q22c (Z : State) (o0 : Addr) (ka : ClassId) (c0 : Int32) (c1 : Int32) (h0 : Heap) (n0 : Nat) (v : Option Value) (h : Heap) (L : List Loc) : Prop := v = some (.int (nar .byte (0 : Int32))) ∧ Fr n0 L ∧ h = h0
set_option maxRecDepth 65536 in
set_option maxHeartbeats 40000000 in
theorem rm22c (l : Launch) (Z : State) (a0 : Array Value) (hw : ∀ d ∈ tables_1, d.before a0 Z = true) (ws : List Jvm.Cond) (o0 : Addr) (ka : ClassId) (c0 : Int32) (c1 : Int32) (h0 : Heap) (n0 : Nat) (Z0 : n0 ≤ h0.size) (A_c : Arv Z h0 o0 ka .byte (2 : Int32) [(.int c0), (.int c1)] (.int (0 : Int32))) :
    MetFree l (⟨"java/lang/StringUTF16", "coderFromArrayLen", "([BI)B"⟩ : MethodName) (head1 (Jvm.Cond.code (⟨"java/lang/StringUTF16", "coderFromArrayLen", "([BI)B"⟩ : MethodName) jdk_52_method_15_code 2 (some .byte) :: ws) ({ frames := 0, cells := 0, slots := 0, locals := 0 } : Room)) (fun a U => a = #[(.ref o0), (.int (2 : Int32))] ∧ Z.Warmed39 U.vm ∧ U.heap = h0) (fun _ _ _ _ _ => True) (fun _ U o U' => ∃ v L, o = .returned v ∧ Q22c Z o0 ka c0 c1 h0 n0 v U'.heap L ∧ FrameEnd U o U' L ({ frames := 0, cells := 0, slots := 0, locals := 0 } : Room).cells ({ frames := 0, cells := 0, slots := 0, locals := 0 } : Room).slots) := by
  refine MetFree.of_bodySF (plainFor_of_name pn_22) hisR ?_
  intro p e s m args below meth c s₁ Bd hml0 hP hK
  obtain ⟨rfl, hZ, hh⟩ := hP
  have hx := Bd.exec
  have hby := Bd.bytes
  have hml : c.maxLocals = 2 := hml0
  have hown : s.vm.findClass "java/lang/StringUTF16" = some m.cls := findClass_of_methodNamed Bd.named
  have hnm := (name_of_methodNamed Bd.named Bd.method).1
  have hrt := Bd.returns
  have hlk := Bd.notSynchronized
  have X0 : Stand p l e ({ frames := 0, cells := 0, slots := 0, locals := 0 } : Room) s m #[(.ref o0), (.int (2 : Int32))] below meth c s₁ [] 0 0 := Stand.of_body Bd
  have e0 : s₁.heap = h0 := by rw [← hh, Bd.state]; rfl
  have N0 := Fr.nil n0
  have lt_A_c : LT.lt (α := Nat) o0 h0.size := A_c.lt
  show Go p e below s 0 0 (Q22c Z o0 ka c0 c1 h0 n0) (s₁.setTop (entryFrame m #[(.ref o0), (.int (2 : Int32))] 2))
  rw [ef_22c m o0]
  refine Go.pre (st' := s₁.setTop (mkF m 2 #[.val (.ref o0), .val (.int (2 : Int32))] [(.ref o0), (.int (2 : Int32))])) (fun target kt => ?_) ?_
  · show Steps p.tables e below (s₁.setTop (mkF m 0 #[.val (.ref o0), .val (.int (2 : Int32))] [])) _
    refine XS.iloadN X0.here hx rfl (hb hby d22_0) rfl ?_
    show Steps p.tables e below (s₁.setTop (mkF m 1 #[.val (.ref o0), .val (.int (2 : Int32))] [(.int (2 : Int32))])) _
    refine XS.aloadN X0.here hx rfl (hb hby d22_1) rfl rfl ?_
    exact kt
  obtain ⟨cl1, Ar1, -, Sz1, Nn1, -, -⟩ := id A_c
  have st1 := X0.arraylength hx (by rw [e0]; exact Ar1.1) (State.isArrayOf_alike hZ.alike Ar1.2.1) (g := (mkF m 2 #[.val (.ref o0), .val (.int (2 : Int32))] [(.ref o0), (.int (2 : Int32))])) rfl rfl (hb hby d22_2)
  rw [len_of Sz1 Nn1] at st1
  refine Go.pre st1 ?_
  show Go p e below s _ _ _ (s₁.setTop (mkF m 3 #[.val (.ref o0), .val (.int (2 : Int32))] [(.int (2 : Int32)), (.int (2 : Int32))]))
  refine Go.pre (st' := s₁.setTop (mkF m 8 #[.val (.ref o0), .val (.int (2 : Int32))] [(.int (0 : Int32))])) (fun target kt => ?_) ?_
  · show Steps p.tables e below (s₁.setTop (mkF m 3 #[.val (.ref o0), .val (.int (2 : Int32))] [(.int (2 : Int32)), (.int (2 : Int32))])) _
    refine XS.isub X0.here hx rfl (hb hby d22_3) rfl ?_
    show Steps p.tables e below (s₁.setTop (mkF m 4 #[.val (.ref o0), .val (.int (2 : Int32))] [(.int (0 : Int32))])) _
    refine XS.bipush X0.here hx rfl (hb hby d22_4) ?_
    show Steps p.tables e below (s₁.setTop (mkF m 6 #[.val (.ref o0), .val (.int (2 : Int32))] [(.int (31 : Int32)), (.int (0 : Int32))])) _
    refine XS.iushr X0.here hx rfl (hb hby d22_6) rfl ?_
    show Steps p.tables e below (s₁.setTop (mkF m 7 #[.val (.ref o0), .val (.int (2 : Int32))] [(.int (0 : Int32))])) _
    refine XS.i2b X0.here hx rfl (hb hby d22_7) rfl ?_
    exact kt
  exact Go.retN X0 hx hlk hrt (z' := (nar .byte (0 : Int32))) (by simp) (hb hby d22_8) rfl (by decide) (by decide) (by rw [e0]; exact ⟨rfl, N0, rfl⟩)
/-! String.<init> (14c) -/
theorem d14_27 : decode jdk_42_method_149_code 27 = .ok (.getstatic 38, 3) := by decide +kernel
theorem d14_30 : decode jdk_42_method_149_code 30 = .ok (.ifCond .eq 28, 3) := by decide +kernel
theorem d14_33 : decode jdk_42_method_149_code 33 = .ok (.aload_n 1, 1) := by decide +kernel
theorem d14_34 : decode jdk_42_method_149_code 34 = .ok (.iload_n 2, 1) := by decide +kernel
theorem d14_35 : decode jdk_42_method_149_code 35 = .ok (.iload_n 3, 1) := by decide +kernel
theorem d14_36 : decode jdk_42_method_149_code 36 = .ok (.invokestatic 177, 3) := by decide +kernel
theorem d14_39 : decode jdk_42_method_149_code 39 = .ok (.astore 5, 2) := by decide +kernel
theorem d14_41 : decode jdk_42_method_149_code 41 = .ok (.aload_n 0, 1) := by decide +kernel
theorem d14_42 : decode jdk_42_method_149_code 42 = .ok (.aload 5, 2) := by decide +kernel
theorem d14_44 : decode jdk_42_method_149_code 44 = .ok (.iload_n 3, 1) := by decide +kernel
theorem d14_45 : decode jdk_42_method_149_code 45 = .ok (.invokestatic 47, 3) := by decide +kernel
theorem d14_48 : decode jdk_42_method_149_code 48 = .ok (.putfield 15, 3) := by decide +kernel
theorem d14_51 : decode jdk_42_method_149_code 51 = .ok (.aload_n 0, 1) := by decide +kernel
theorem d14_52 : decode jdk_42_method_149_code 52 = .ok (.aload 5, 2) := by decide +kernel
theorem d14_54 : decode jdk_42_method_149_code 54 = .ok (.putfield 9, 3) := by decide +kernel
theorem d14_57 : decode jdk_42_method_149_code 57 = .ok (.return_, 1) := by decide +kernel
theorem pd14c_0 : parseMethodDescriptor "([CII)[B" = some ⟨[(.array .char), .int, .int], some (.array .byte)⟩ := by decide +kernel
theorem pd14c_1 : parseMethodDescriptor "([BI)B" = some ⟨[(.array .byte), .int], some .byte⟩ := by decide +kernel
theorem ef_14c (m : MethodId) (o0 : Addr) (o1 : Addr) : entryFrame m #[(.ref o0), (.ref o1), (.int (0 : Int32)), (.int (2 : Int32)), .null] 6 = (mkF m 0 #[.val (.ref o0), .val (.ref o1), .val (.int (0 : Int32)), .val (.int (2 : Int32)), .val .null, .unset] []) := by first | (simp [entryFrame, mkF, argsToLocals, Value.category]; done) | rfl
def Q14c (Z : State) (o0 : Addr) (o1 : Addr) (ka : ClassId) (c0 : Int32) (c1 : Int32) (zc : Int32) (u5 : Value) (u10 : Value) (h0 : Heap) (n0 : Nat) (v : Option Value) (h : Heap) (L : List Loc) : Prop := ∃ b3_0 : Addr, ∃ k3_0 : ClassId, v = none ∧ Fr n0 L ∧ Keep h0 h [o0] ∧ KF Z h0 h [(o0, Jvm.RoadKit.slotOf Z "java/lang/String" "coder" "B"), (o0, Jvm.RoadKit.slotOf Z "java/lang/String" "value" "[B")] ∧ LE.le (α := Nat) h0.size b3_0 ∧ LT.lt (α := Nat) b3_0 h.size ∧ Fld Z h o0 "java/lang/String" "coder" "B" (.int (nar .byte (nar .byte (0 : Int32)))) ∧ Fld Z h o0 "java/lang/String" "value" "[B" (.ref b3_0) ∧ Arv Z h b3_0 k3_0 .byte (2 : Int32) [(.int (nar .byte (c0.toInt8.toInt32))), (.int (nar .byte (c1.toInt8.toInt32)))] (.int (0 : Int32))
set_option maxRecDepth 65536 in
set_option maxHeartbeats 40000000 in
theorem rm14c (l : Launch) (Z : State) (a0 : Array Value) (hw : ∀ d ∈ tables_1, d.before a0 Z = true) (ws : List Jvm.Cond) (o0 : Addr) (o1 : Addr) (ka : ClassId) (c0 : Int32) (c1 : Int32) (zc : Int32) (u5 : Value) (u10 : Value) (h0 : Heap) (n0 : Nat) (Z0 : n0 ≤ h0.size) (A_c : Arv Z h0 o1 ka .char (2 : Int32) [(.int c0), (.int c1)] (.int (0 : Int32))) (S_COMPACT : Sta Z Z.heap "java/lang/String" "COMPACT_STRINGS" "Z" (.int zc)) (Ol : Old Z n0 h0) (F_coder_o0 : Fld Z h0 o0 "java/lang/String" "coder" "B" u5) (E_o0 : Exa Z h0 o0 "java/lang/String") (g_o0 : n0 ≤ o0) (F_value_o0 : Fld Z h0 o0 "java/lang/String" "value" "[B" u10) (hle0 : ¬ ((255 : Int32) < c0)) (hle1 : ¬ ((255 : Int32) < c1)) (hc30 : ¬ (zc = (0 : Int32))) :
    MetFree l (⟨"java/lang/String", "<init>", "([CIILjava/lang/Void;)V"⟩ : MethodName) (head1 (Jvm.Cond.code (⟨"java/lang/String", "<init>", "([CIILjava/lang/Void;)V"⟩ : MethodName) jdk_42_method_149_code 6 none :: ws) ({ frames := 2, cells := 1, slots := 2, locals := 35 } : Room)) (fun a U => a = #[(.ref o0), (.ref o1), (.int (0 : Int32)), (.int (2 : Int32)), .null] ∧ Z.Warmed39 U.vm ∧ U.heap = h0) (fun _ _ _ _ _ => True) (fun _ U o U' => ∃ v L, o = .returned v ∧ Q14c Z o0 o1 ka c0 c1 zc u5 u10 h0 n0 v U'.heap L ∧ FrameEnd U o U' L ({ frames := 2, cells := 1, slots := 2, locals := 35 } : Room).cells ({ frames := 2, cells := 1, slots := 2, locals := 35 } : Room).slots) := by
  refine MetFree.of_bodySF (plainFor_of_name pn_14) hisR ?_
  intro p e s m args below meth c s₁ Bd hml0 hP hK
  obtain ⟨rfl, hZ, hh⟩ := hP
  have hx := Bd.exec
  have hby := Bd.bytes
  have hml : c.maxLocals = 6 := hml0
  have hown : s.vm.findClass "java/lang/String" = some m.cls := findClass_of_methodNamed Bd.named
  have hnm := (name_of_methodNamed Bd.named Bd.method).1
  have hrt := Bd.returns
  have hlk := Bd.notSynchronized
  have X0 : Stand p l e ({ frames := 2, cells := 1, slots := 2, locals := 35 } : Room) s m #[(.ref o0), (.ref o1), (.int (0 : Int32)), (.int (2 : Int32)), .null] below meth c s₁ [] 0 0 := Stand.of_body Bd
  have e0 : s₁.heap = h0 := by rw [← hh, Bd.state]; rfl
  have N0 := Fr.nil n0
  have lt_A_c : LT.lt (α := Nat) o1 h0.size := A_c.lt
  have lt_F_coder_o0 : LT.lt (α := Nat) o0 h0.size := F_coder_o0.lt
  have lt_E_o0 : LT.lt (α := Nat) o0 h0.size := E_o0.lt
  have lt_F_value_o0 : LT.lt (α := Nat) o0 h0.size := F_value_o0.lt
  show Go p e below s 1 2 (Q14c Z o0 o1 ka c0 c1 zc u5 u10 h0 n0) (s₁.setTop (entryFrame m #[(.ref o0), (.ref o1), (.int (0 : Int32)), (.int (2 : Int32)), .null] 6))
  rw [ef_14c m o0 o1]
  refine Go.pre (st' := s₁.setTop (mkF m 1 #[.val (.ref o0), .val (.ref o1), .val (.int (0 : Int32)), .val (.int (2 : Int32)), .val .null, .unset] [(.ref o0)])) (fun target kt => ?_) ?_
  · show Steps p.tables e below (s₁.setTop (mkF m 0 #[.val (.ref o0), .val (.ref o1), .val (.int (0 : Int32)), .val (.int (2 : Int32)), .val .null, .unset] [])) _
    refine XS.aloadN X0.here hx rfl (hb hby d14_0) rfl rfl ?_
    exact kt
  obtain ⟨T1, X1, e1, st1⟩ := initO X0 hx hZ hown (hw _ (List.mem_of_getElem? (i := 19) rfl)) (hw _ (List.mem_of_getElem? (i := 20) rfl)) (hw _ (List.mem_of_getElem? (i := 21) rfl)) e0 (g := (mkF m 1 #[.val (.ref o0), .val (.ref o1), .val (.int (0 : Int32)), .val (.int (2 : Int32)), .val .null, .unset] [(.ref o0)])) rfl (by rw [hml]; rfl) rfl (hb hby d14_1) (by decide) (W := 0) (by show 2 * 0 + _ ≤ _; exact Nat.le_of_eq rfl) (by decide)
  refine Go.pre st1 ?_
  show Go p e below s _ _ _ (T1.setTop (mkF m 4 #[.val (.ref o0), .val (.ref o1), .val (.int (0 : Int32)), .val (.int (2 : Int32)), .val .null, .unset] []))
  refine Go.pre (st' := T1.setTop (mkF m 27 #[.val (.ref o0), .val (.ref o1), .val (.int (0 : Int32)), .val (.int (2 : Int32)), .val .null, .unset] [])) (fun target kt => ?_) ?_
  · show Steps p.tables e below (T1.setTop (mkF m 4 #[.val (.ref o0), .val (.ref o1), .val (.int (0 : Int32)), .val (.int (2 : Int32)), .val .null, .unset] [])) _
    refine XS.iloadN X1.here hx rfl (hb hby d14_4) rfl ?_
    show Steps p.tables e below (T1.setTop (mkF m 5 #[.val (.ref o0), .val (.ref o1), .val (.int (0 : Int32)), .val (.int (2 : Int32)), .val .null, .unset] [(.int (2 : Int32))])) _
    refine XS.ifYes X1.here hx rfl (pc0 := 5) (pc' := 27) rfl (hb hby d14_5) rfl ((if0 _ _).trans (feq (by decide)).2) (by decide) (by decide) ?_
    exact kt
  obtain ⟨T2, X2, e2, st2⟩ := getS2 X1 hx hZ hown (host := "") (Or.inl (hw _ (List.mem_of_getElem? (i := 4) rfl))) Via.refl e1 (S_COMPACT.ext Ol.2) (g := (mkF m 27 #[.val (.ref o0), .val (.ref o1), .val (.int (0 : Int32)), .val (.int (2 : Int32)), .val .null, .unset] [])) rfl (hb hby d14_27)
  refine Go.pre st2 ?_
  show Go p e below s _ _ _ (T2.setTop (mkF m 30 #[.val (.ref o0), .val (.ref o1), .val (.int (0 : Int32)), .val (.int (2 : Int32)), .val .null, .unset] [(.int zc)]))
  refine Go.pre (st' := T2.setTop (mkF m 36 #[.val (.ref o0), .val (.ref o1), .val (.int (0 : Int32)), .val (.int (2 : Int32)), .val .null, .unset] [(.int (2 : Int32)), (.int (0 : Int32)), (.ref o1)])) (fun target kt => ?_) ?_
  · show Steps p.tables e below (T2.setTop (mkF m 30 #[.val (.ref o0), .val (.ref o1), .val (.int (0 : Int32)), .val (.int (2 : Int32)), .val .null, .unset] [(.int zc)])) _
    refine XS.ifNo X2.here hx rfl (hb hby d14_30) rfl ((if0 _ _).trans (feq hc30).1) ?_
    show Steps p.tables e below (T2.setTop (mkF m 33 #[.val (.ref o0), .val (.ref o1), .val (.int (0 : Int32)), .val (.int (2 : Int32)), .val .null, .unset] [])) _
    refine XS.aloadN X2.here hx rfl (hb hby d14_33) rfl rfl ?_
    show Steps p.tables e below (T2.setTop (mkF m 34 #[.val (.ref o0), .val (.ref o1), .val (.int (0 : Int32)), .val (.int (2 : Int32)), .val .null, .unset] [(.ref o1)])) _
    refine XS.iloadN X2.here hx rfl (hb hby d14_34) rfl ?_
    show Steps p.tables e below (T2.setTop (mkF m 35 #[.val (.ref o0), .val (.ref o1), .val (.int (0 : Int32)), .val (.int (2 : Int32)), .val .null, .unset] [(.int (0 : Int32)), (.ref o1)])) _
    refine XS.iloadN X2.here hx rfl (hb hby d14_35) rfl ?_
    exact kt
  obtain ⟨_, _, ⟨T3, L3, k3, n3⟩, -, X3, ⟨Lc3, hQ3, l3, y3, z3⟩, st3⟩ := Jvm.LawKit.callS X2 hx (y := (⟨"java/lang/StringUTF16", "compress", "([CII)[B"⟩ : MethodName)) hown (mvT hZ (hw _ (List.mem_of_getElem? (i := 146) rfl))) (mvT hZ (hw _ (List.mem_of_getElem? (i := 147) rfl))) (mvT hZ (hw _ (List.mem_of_getElem? (i := 148) rfl))) (mvT hZ (hw _ (List.mem_of_getElem? (i := 149) rfl))) (by decide) (backOf (W := 0) (rm20c l Z a0 hw [] o1 ka c0 c1 h0 n0 (by omega) A_c hle0 hle1) hZ (hw _ (List.mem_of_getElem? (i := 149) rfl)) (hw _ (List.mem_of_getElem? (i := 148) rfl)) (by decide) (by decide)) (g := (mkF m 36 #[.val (.ref o0), .val (.ref o1), .val (.int (0 : Int32)), .val (.int (2 : Int32)), .val .null, .unset] [(.int (2 : Int32)), (.int (0 : Int32)), (.ref o1)])) rfl (by rw [hml]; rfl) (argsL := [(.ref o1), (.int (0 : Int32)), (.int (2 : Int32))]) (rest := []) (lenOf pd14c_0 rfl) rfl (by show 2 * 0 + _ ≤ _; exact Nat.le_of_eq rfl) (hb hby d14_36) (fun vm₁ hvm => ⟨rfl, e2, (by decide : 0 + 1 ≤ _), (by decide : 0 + 2 ≤ _)⟩)
  dsimp only [Pt.U, Pt.locs, Pt.cells, Pt.slots] at X3 l3 y3 z3 st3 hQ3
  subst l3 y3 z3
  obtain ⟨b3_0, k3_0, rfl, N3q, K3, KF3, gb3_0, ltb3_0, Y3_0⟩ := hQ3
  have sz3 : h0.size ≤ T3.heap.size := K3.1
  have N3 := Fr.app N0 N3q
  refine Go.pre st3 ?_
  show Go p e below s _ _ _ (T3.setTop (mkF m 39 #[.val (.ref o0), .val (.ref o1), .val (.int (0 : Int32)), .val (.int (2 : Int32)), .val .null, .unset] [(.ref b3_0)]))
  refine Go.pre (st' := T3.setTop (mkF m 45 #[.val (.ref o0), .val (.ref o1), .val (.int (0 : Int32)), .val (.int (2 : Int32)), .val .null, .val (.ref b3_0)] [(.int (2 : Int32)), (.ref b3_0), (.ref o0)])) (fun target kt => ?_) ?_
  · show Steps p.tables e below (T3.setTop (mkF m 39 #[.val (.ref o0), .val (.ref o1), .val (.int (0 : Int32)), .val (.int (2 : Int32)), .val .null, .unset] [(.ref b3_0)])) _
    refine XS.astore X3.here hx rfl (hb hby d14_39) rfl rfl (l' := #[.val (.ref o0), .val (.ref o1), .val (.int (0 : Int32)), .val (.int (2 : Int32)), .val .null, .val (.ref b3_0)]) rfl ?_
    show Steps p.tables e below (T3.setTop (mkF m 41 #[.val (.ref o0), .val (.ref o1), .val (.int (0 : Int32)), .val (.int (2 : Int32)), .val .null, .val (.ref b3_0)] [])) _
    refine XS.aloadN X3.here hx rfl (hb hby d14_41) rfl rfl ?_
    show Steps p.tables e below (T3.setTop (mkF m 42 #[.val (.ref o0), .val (.ref o1), .val (.int (0 : Int32)), .val (.int (2 : Int32)), .val .null, .val (.ref b3_0)] [(.ref o0)])) _
    refine XS.aload X3.here hx rfl (hb hby d14_42) rfl rfl ?_
    show Steps p.tables e below (T3.setTop (mkF m 44 #[.val (.ref o0), .val (.ref o1), .val (.int (0 : Int32)), .val (.int (2 : Int32)), .val .null, .val (.ref b3_0)] [(.ref b3_0), (.ref o0)])) _
    refine XS.iloadN X3.here hx rfl (hb hby d14_44) rfl ?_
    exact kt
  obtain ⟨_, _, ⟨T4, L4, k4, n4⟩, -, X4, ⟨Lc4, hQ4, l4, y4, z4⟩, st4⟩ := Jvm.LawKit.callS X3 hx (y := (⟨"java/lang/StringUTF16", "coderFromArrayLen", "([BI)B"⟩ : MethodName)) hown (mvT hZ (hw _ (List.mem_of_getElem? (i := 153) rfl))) (mvT hZ (hw _ (List.mem_of_getElem? (i := 154) rfl))) (mvT hZ (hw _ (List.mem_of_getElem? (i := 148) rfl))) (mvT hZ (hw _ (List.mem_of_getElem? (i := 155) rfl))) (by decide) (backOf (W := 1) (rm22c l Z a0 hw [] b3_0 k3_0 (nar .byte (c0.toInt8.toInt32)) (nar .byte (c1.toInt8.toInt32)) T3.heap n0 (by omega) Y3_0) hZ (hw _ (List.mem_of_getElem? (i := 155) rfl)) (hw _ (List.mem_of_getElem? (i := 148) rfl)) (by decide) (by decide)) (g := (mkF m 45 #[.val (.ref o0), .val (.ref o1), .val (.int (0 : Int32)), .val (.int (2 : Int32)), .val .null, .val (.ref b3_0)] [(.int (2 : Int32)), (.ref b3_0), (.ref o0)])) rfl (by rw [hml]; rfl) (argsL := [(.ref b3_0), (.int (2 : Int32))]) (rest := [(.ref o0)]) (lenOf pd14c_1 rfl) rfl (by show 2 * 0 + _ ≤ _; exact Nat.le_of_eq rfl) (hb hby d14_45) (fun vm₁ hvm => ⟨rfl, rfl, (by decide : 1 + 0 ≤ _), (by decide : 2 + 0 ≤ _)⟩)
  dsimp only [Pt.U, Pt.locs, Pt.cells, Pt.slots] at X4 l4 y4 z4 st4 hQ4
  subst l4 y4 z4
  obtain ⟨rfl, N4q, e4⟩ := hQ4
  have N4 := Fr.app N3 N4q
  refine Go.pre st4 ?_
  show Go p e below s _ _ _ (T4.setTop (mkF m 48 #[.val (.ref o0), .val (.ref o1), .val (.int (0 : Int32)), .val (.int (2 : Int32)), .val .null, .val (.ref b3_0)] [(.int (nar .byte (0 : Int32))), (.ref o0)]))
  have Y6 : Fld Z T3.heap o0 "java/lang/String" "coder" "B" u5 := (F_coder_o0.keep K3 nin0)
  have Y7 : Exa Z T3.heap o0 "java/lang/String" := (E_o0.keep K3)
  obtain ⟨T8, h8, X8, e8, W8, st8⟩ := putFN X4 hx hZ hown (hw _ (List.mem_of_getElem? (i := 24) rfl)) Via.refl e4 Y6 Y7 (Or.inr ⟨(hw _ (List.mem_of_getElem? (i := 25) rfl)), rfl, hnm⟩) (hw _ (List.mem_of_getElem? (i := 10) rfl)) (ty := .byte) (v' := (.int (nar .byte (nar .byte (0 : Int32))))) (by decide) rfl (fits_nar_byte _) (g := (mkF m 48 #[.val (.ref o0), .val (.ref o1), .val (.int (0 : Int32)), .val (.int (2 : Int32)), .val .null, .val (.ref b3_0)] [(.int (nar .byte (0 : Int32))), (.ref o0)])) rfl rfl (hb hby d14_48)
  have sz8 : T3.heap.size ≤ h8.size := (Keep.of_wr W8).1
  have Y9 : Fld Z h8 o0 "java/lang/String" "coder" "B" (.int (nar .byte (nar .byte (0 : Int32)))) := Y6.same W8
  have N8 := Fr.snoc X8 N4 (by omega)
  refine Go.pre st8 ?_
  show Go p e below s _ _ _ (T8.setTop (mkF m 51 #[.val (.ref o0), .val (.ref o1), .val (.int (0 : Int32)), .val (.int (2 : Int32)), .val .null, .val (.ref b3_0)] []))
  refine Go.pre (st' := T8.setTop (mkF m 54 #[.val (.ref o0), .val (.ref o1), .val (.int (0 : Int32)), .val (.int (2 : Int32)), .val .null, .val (.ref b3_0)] [(.ref b3_0), (.ref o0)])) (fun target kt => ?_) ?_
  · show Steps p.tables e below (T8.setTop (mkF m 51 #[.val (.ref o0), .val (.ref o1), .val (.int (0 : Int32)), .val (.int (2 : Int32)), .val .null, .val (.ref b3_0)] [])) _
    refine XS.aloadN X8.here hx rfl (hb hby d14_51) rfl rfl ?_
    show Steps p.tables e below (T8.setTop (mkF m 52 #[.val (.ref o0), .val (.ref o1), .val (.int (0 : Int32)), .val (.int (2 : Int32)), .val .null, .val (.ref b3_0)] [(.ref o0)])) _
    refine XS.aload X8.here hx rfl (hb hby d14_52) rfl rfl ?_
    exact kt
  have Y11 : Fld Z h8 o0 "java/lang/String" "value" "[B" u10 := ((F_value_o0.keep K3 nin0).other W8 (Or.inr (slot_ne (Or.inr (hw _ (List.mem_of_getElem? (i := 23) rfl))) (Or.inr (hw _ (List.mem_of_getElem? (i := 25) rfl))) (by decide) (t := (.array .byte)) (t' := .byte) (by decide) (by decide))))
  have Y12 : Exa Z h8 o0 "java/lang/String" := (Y7.wr W8)
  obtain ⟨T13, h13, X13, e13, W13, st13⟩ := putF X8 hx hZ hown (host := "") (Or.inl (hw _ (List.mem_of_getElem? (i := 22) rfl))) Via.refl e8 Y11 Y12 (Or.inr ⟨(hw _ (List.mem_of_getElem? (i := 23) rfl)), rfl, hnm⟩) (hw _ (List.mem_of_getElem? (i := 10) rfl)) (ty := (.array .byte)) (by decide) rfl rfl (g := (mkF m 54 #[.val (.ref o0), .val (.ref o1), .val (.int (0 : Int32)), .val (.int (2 : Int32)), .val .null, .val (.ref b3_0)] [(.ref b3_0), (.ref o0)])) rfl rfl (hb hby d14_54)
  have sz13 : h8.size ≤ h13.size := (Keep.of_wr W13).1
  have Y14 : Fld Z h13 o0 "java/lang/String" "value" "[B" (.ref b3_0) := Y11.same W13
  have N13 := Fr.snoc X13 N8 (by omega)
  refine Go.pre st13 ?_
  show Go p e below s _ _ _ (T13.setTop (mkF m 57 #[.val (.ref o0), .val (.ref o1), .val (.int (0 : Int32)), .val (.int (2 : Int32)), .val .null, .val (.ref b3_0)] []))
  have Y15 : Fld Z h13 o0 "java/lang/String" "coder" "B" (.int (nar .byte (nar .byte (0 : Int32)))) := (Y9.other W13 (Or.inr (slot_ne (Or.inr (hw _ (List.mem_of_getElem? (i := 25) rfl))) (Or.inr (hw _ (List.mem_of_getElem? (i := 23) rfl))) (by decide) (t := .byte) (t' := (.array .byte)) (by decide) (by decide))))
  have Y16 : Arv Z h13 b3_0 k3_0 .byte (2 : Int32) [(.int (nar .byte (c0.toInt8.toInt32))), (.int (nar .byte (c1.toInt8.toInt32)))] (.int (0 : Int32)) := ((Y3_0.other W8 (by show @Ne Nat b3_0 o0; omega)).other W13 (by show @Ne Nat b3_0 o0; omega))
  exact Go.ret0 X13 hx hlk hrt (hb hby d14_57) (by decide) (by decide) (by rw [e13]; exact ⟨b3_0, k3_0, rfl, N13, ((((Keep.refl h0 [o0]).trans K3 all0).wr W8 (Or.inl (List.mem_of_getElem? (i := 0) rfl))).wr W13 (Or.inl (List.mem_of_getElem? (i := 0) rfl))), ((((KF.refl Z h0 [(o0, Jvm.RoadKit.slotOf Z "java/lang/String" "coder" "B"), (o0, Jvm.RoadKit.slotOf Z "java/lang/String" "value" "[B")]).trans KF3 pall0).wr W8 (Or.inl (List.mem_of_getElem? (i := 0) rfl))).wr W13 (Or.inl (List.mem_of_getElem? (i := 1) rfl))), by omega, by omega, Y15, Y14, Y16⟩)
/-! String.<init> (13c) -/
theorem pd13c_0 : parseMethodDescriptor "([CIILjava/lang/Void;)V" = some ⟨[(.array .char), .int, .int, (.object "java/lang/Void")], none⟩ := by decide +kernel
theorem ef_13c (m : MethodId) (o0 : Addr) (o1 : Addr) : entryFrame m #[(.ref o0), (.ref o1)] 2 = (mkF m 0 #[.val (.ref o0), .val (.ref o1)] []) := by first | (simp [entryFrame, mkF, argsToLocals, Value.category]; done) | rfl
def Q13c (Z : State) (o0 : Addr) (o1 : Addr) (ka : ClassId) (c0 : Int32) (c1 : Int32) (zc : Int32) (u3 : Value) (u4 : Value) (h0 : Heap) (n0 : Nat) (v : Option Value) (h : Heap) (L : List Loc) : Prop := ∃ b2_0 : Addr, ∃ k2_0 : ClassId, v = none ∧ Fr n0 L ∧ Keep h0 h [o0] ∧ KF Z h0 h [(o0, Jvm.RoadKit.slotOf Z "java/lang/String" "coder" "B"), (o0, Jvm.RoadKit.slotOf Z "java/lang/String" "value" "[B")] ∧ LE.le (α := Nat) h0.size b2_0 ∧ LT.lt (α := Nat) b2_0 h.size ∧ Fld Z h o0 "java/lang/String" "coder" "B" (.int (nar .byte (nar .byte (0 : Int32)))) ∧ Fld Z h o0 "java/lang/String" "value" "[B" (.ref b2_0) ∧ Arv Z h b2_0 k2_0 .byte (2 : Int32) [(.int (nar .byte (c0.toInt8.toInt32))), (.int (nar .byte (c1.toInt8.toInt32)))] (.int (0 : Int32))
set_option maxRecDepth 65536 in
set_option maxHeartbeats 40000000 in
theorem rm13c (l : Launch) (Z : State) (a0 : Array Value) (hw : ∀ d ∈ tables_1, d.before a0 Z = true) (ws : List Jvm.Cond) (o0 : Addr) (o1 : Addr) (ka : ClassId) (c0 : Int32) (c1 : Int32) (zc : Int32) (u3 : Value) (u4 : Value) (h0 : Heap) (n0 : Nat) (Z0 : n0 ≤ h0.size) (A_c : Arv Z h0 o1 ka .char (2 : Int32) [(.int c0), (.int c1)] (.int (0 : Int32))) (S_COMPACT : Sta Z Z.heap "java/lang/String" "COMPACT_STRINGS" "Z" (.int zc)) (Ol : Old Z n0 h0) (F_coder_o0 : Fld Z h0 o0 "java/lang/String" "coder" "B" u3) (E_o0 : Exa Z h0 o0 "java/lang/String") (g_o0 : n0 ≤ o0) (F_value_o0 : Fld Z h0 o0 "java/lang/String" "value" "[B" u4) (hle0 : ¬ ((255 : Int32) < c0)) (hle1 : ¬ ((255 : Int32) < c1)) (hcs : ¬ (zc = (0 : Int32))) :
    MetFree l (⟨"java/lang/String", "<init>", "([C)V"⟩ : MethodName) (head1 (Jvm.Cond.code (⟨"java/lang/String", "<init>", "([C)V"⟩ : MethodName) jdk_42_method_3_code 2 none :: ws) ({ frames := 3, cells := 1, slots := 2, locals := 52 } : Room)) (fun a U => a = #[(.ref o0), (.ref o1)] ∧ Z.Warmed39 U.vm ∧ U.heap = h0) (fun _ _ _ _ _ => True) (fun _ U o U' => ∃ v L, o = .returned v ∧ Q13c Z o0 o1 ka c0 c1 zc u3 u4 h0 n0 v U'.heap L ∧ FrameEnd U o U' L ({ frames := 3, cells := 1, slots := 2, locals := 52 } : Room).cells ({ frames := 3, cells := 1, slots := 2, locals := 52 } : Room).slots) := by
  refine MetFree.of_bodySF (plainFor_of_name pn_13) hisR ?_
  intro p e s m args below meth c s₁ Bd hml0 hP hK
  obtain ⟨rfl, hZ, hh⟩ := hP
  have hx := Bd.exec
  have hby := Bd.bytes
  have hml : c.maxLocals = 2 := hml0
  have hown : s.vm.findClass "java/lang/String" = some m.cls := findClass_of_methodNamed Bd.named
  have hnm := (name_of_methodNamed Bd.named Bd.method).1
  have hrt := Bd.returns
  have hlk := Bd.notSynchronized
  have X0 : Stand p l e ({ frames := 3, cells := 1, slots := 2, locals := 52 } : Room) s m #[(.ref o0), (.ref o1)] below meth c s₁ [] 0 0 := Stand.of_body Bd
  have e0 : s₁.heap = h0 := by rw [← hh, Bd.state]; rfl
  have N0 := Fr.nil n0
  have lt_A_c : LT.lt (α := Nat) o1 h0.size := A_c.lt
  have lt_F_coder_o0 : LT.lt (α := Nat) o0 h0.size := F_coder_o0.lt
  have lt_E_o0 : LT.lt (α := Nat) o0 h0.size := E_o0.lt
  have lt_F_value_o0 : LT.lt (α := Nat) o0 h0.size := F_value_o0.lt
  show Go p e below s 1 2 (Q13c Z o0 o1 ka c0 c1 zc u3 u4 h0 n0) (s₁.setTop (entryFrame m #[(.ref o0), (.ref o1)] 2))
  rw [ef_13c m o0 o1]
  refine Go.pre (st' := s₁.setTop (mkF m 4 #[.val (.ref o0), .val (.ref o1)] [(.ref o1), (.int (0 : Int32)), (.ref o1), (.ref o0)])) (fun target kt => ?_) ?_
  · show Steps p.tables e below (s₁.setTop (mkF m 0 #[.val (.ref o0), .val (.ref o1)] [])) _
    refine XS.aloadN X0.here hx rfl (hb hby d13_0) rfl rfl ?_
    show Steps p.tables e below (s₁.setTop (mkF m 1 #[.val (.ref o0), .val (.ref o1)] [(.ref o0)])) _
    refine XS.aloadN X0.here hx rfl (hb hby d13_1) rfl rfl ?_
    show Steps p.tables e below (s₁.setTop (mkF m 2 #[.val (.ref o0), .val (.ref o1)] [(.ref o1), (.ref o0)])) _
    refine XS.iconst X0.here hx rfl (hb hby d13_2) ?_
    show Steps p.tables e below (s₁.setTop (mkF m 3 #[.val (.ref o0), .val (.ref o1)] [(.int (0 : Int32)), (.ref o1), (.ref o0)])) _
    refine XS.aloadN X0.here hx rfl (hb hby d13_3) rfl rfl ?_
    exact kt
  obtain ⟨cl1, Ar1, -, Sz1, Nn1, -, -⟩ := id A_c
  have st1 := X0.arraylength hx (by rw [e0]; exact Ar1.1) (State.isArrayOf_alike hZ.alike Ar1.2.1) (g := (mkF m 4 #[.val (.ref o0), .val (.ref o1)] [(.ref o1), (.int (0 : Int32)), (.ref o1), (.ref o0)])) rfl rfl (hb hby d13_4)
  rw [len_of Sz1 Nn1] at st1
  refine Go.pre st1 ?_
  show Go p e below s _ _ _ (s₁.setTop (mkF m 5 #[.val (.ref o0), .val (.ref o1)] [(.int (2 : Int32)), (.int (0 : Int32)), (.ref o1), (.ref o0)]))
  refine Go.pre (st' := s₁.setTop (mkF m 6 #[.val (.ref o0), .val (.ref o1)] [.null, (.int (2 : Int32)), (.int (0 : Int32)), (.ref o1), (.ref o0)])) (fun target kt => ?_) ?_
  · show Steps p.tables e below (s₁.setTop (mkF m 5 #[.val (.ref o0), .val (.ref o1)] [(.int (2 : Int32)), (.int (0 : Int32)), (.ref o1), (.ref o0)])) _
    refine XS.aconstNull X0.here hx rfl (hb hby d13_5) ?_
    exact kt
  obtain ⟨_, _, ⟨T2, L2, k2, n2⟩, -, X2, ⟨Lc2, hQ2, l2, y2, z2⟩, st2⟩ := X0.specialBack hx (y := (⟨"java/lang/String", "<init>", "([CIILjava/lang/Void;)V"⟩ : MethodName)) rfl hown (mvT hZ (hw _ (List.mem_of_getElem? (i := 103) rfl))) (mvT hZ (hw _ (List.mem_of_getElem? (i := 104) rfl))) (mvT hZ (hw _ (List.mem_of_getElem? (i := 105) rfl))) (by decide) (backOf (W := 0) (rm14c l Z a0 hw [] o0 o1 ka c0 c1 zc u3 u4 h0 n0 (by omega) A_c S_COMPACT Ol F_coder_o0 E_o0 (by omega) F_value_o0 hle0 hle1 hcs) hZ (hw _ (List.mem_of_getElem? (i := 105) rfl)) (hw _ (List.mem_of_getElem? (i := 2) rfl)) (by decide) (by decide)) (g := (mkF m 6 #[.val (.ref o0), .val (.ref o1)] [.null, (.int (2 : Int32)), (.int (0 : Int32)), (.ref o1), (.ref o0)])) rfl (by rw [hml]; rfl) (Steps.refl _) (a := o0) (argsL := [(.ref o1), (.int (0 : Int32)), (.int (2 : Int32)), .null]) (rest := []) (lenOf pd13c_0 rfl) rfl (by show 2 * 0 + _ ≤ _; exact Nat.le_of_eq rfl) (hb hby d13_6) (fun vm₁ hvm => ⟨rfl, e0, (by decide : 0 + 1 ≤ _), (by decide : 0 + 2 ≤ _)⟩)
  dsimp only [Pt.U, Pt.locs, Pt.cells, Pt.slots] at X2 l2 y2 z2 st2 hQ2
  subst l2 y2 z2
  obtain ⟨b2_0, k2_0, rfl, N2q, K2, KF2, gb2_0, ltb2_0, Y2_0, Y2_1, Y2_2⟩ := hQ2
  have sz2 : h0.size ≤ T2.heap.size := K2.1
  have N2 := Fr.app N0 N2q
  refine Go.trans st2 ?_
  show Go p e below s _ _ _ (T2.setTop (mkF m 9 #[.val (.ref o0), .val (.ref o1)] []))
  exact Go.ret0 X2 hx hlk hrt (hb hby d13_9) (by decide) (by decide) (by exact ⟨b2_0, k2_0, rfl, N2, ((Keep.refl h0 [o0]).trans K2 (allS (Or.inl (List.mem_of_getElem? (i := 0) rfl)) all0)), ((KF.refl Z h0 [(o0, Jvm.RoadKit.slotOf Z "java/lang/String" "coder" "B"), (o0, Jvm.RoadKit.slotOf Z "java/lang/String" "value" "[B")]).trans KF2 (pallS (Or.inl (List.mem_of_getElem? (i := 0) rfl)) (pallS (Or.inl (List.mem_of_getElem? (i := 1) rfl)) pall0))), by omega, by omega, Y2_0, Y2_1, Y2_2⟩)
/-! AbstractCollection.<init> (8) -/
theorem d8_0 : decode jdk_22_method_1_code 0 = .ok (.aload_n 0, 1) := by decide +kernel
theorem d8_1 : decode jdk_22_method_1_code 1 = .ok (.invokespecial 1, 3) := by decide +kernel
theorem d8_4 : decode jdk_22_method_1_code 4 = .ok (.return_, 1) := by decide +kernel
theorem pn_8 : plainName "java/util/AbstractCollection" = true := by first | (simp [plainName, overriddenIn]; done) | decide +kernel
theorem ef_8 (m : MethodId) (o0 : Addr) : entryFrame m #[(.ref o0)] 1 = (mkF m 0 #[.val (.ref o0)] []) := by first | (simp [entryFrame, mkF, argsToLocals, Value.category]; done) | rfl
def Q8 (Z : State) (o0 : Addr) (h0 : Heap) (n0 : Nat) (v : Option Value) (h : Heap) (L : List Loc) : Prop := v = none ∧ Fr n0 L ∧ h = h0
set_option maxRecDepth 65536 in
set_option maxHeartbeats 40000000 in
theorem rm8 (l : Launch) (Z : State) (a0 : Array Value) (hw : ∀ d ∈ tables_1, d.before a0 Z = true) (ws : List Jvm.Cond) (o0 : Addr) (h0 : Heap) (n0 : Nat) (Z0 : n0 ≤ h0.size) :
    MetFree l (⟨"java/util/AbstractCollection", "<init>", "()V"⟩ : MethodName) (head1 (Jvm.Cond.code (⟨"java/util/AbstractCollection", "<init>", "()V"⟩ : MethodName) jdk_22_method_1_code 1 none :: ws) ({ frames := 1, cells := 0, slots := 0, locals := 12 } : Room)) (fun a U => a = #[(.ref o0)] ∧ Z.Warmed39 U.vm ∧ U.heap = h0) (fun _ _ _ _ _ => True) (fun _ U o U' => ∃ v L, o = .returned v ∧ Q8 Z o0 h0 n0 v U'.heap L ∧ FrameEnd U o U' L ({ frames := 1, cells := 0, slots := 0, locals := 12 } : Room).cells ({ frames := 1, cells := 0, slots := 0, locals := 12 } : Room).slots) := by
  refine MetFree.of_bodySF (plainFor_of_name pn_8) hisR ?_
  intro p e s m args below meth c s₁ Bd hml0 hP hK
  obtain ⟨rfl, hZ, hh⟩ := hP
  have hx := Bd.exec
  have hby := Bd.bytes
  have hml : c.maxLocals = 1 := hml0
  have hown : s.vm.findClass "java/util/AbstractCollection" = some m.cls := findClass_of_methodNamed Bd.named
  have hnm := (name_of_methodNamed Bd.named Bd.method).1
  have hrt := Bd.returns
  have hlk := Bd.notSynchronized
  have X0 : Stand p l e ({ frames := 1, cells := 0, slots := 0, locals := 12 } : Room) s m #[(.ref o0)] below meth c s₁ [] 0 0 := Stand.of_body Bd
  have e0 : s₁.heap = h0 := by rw [← hh, Bd.state]; rfl
  have N0 := Fr.nil n0
  show Go p e below s 0 0 (Q8 Z o0 h0 n0) (s₁.setTop (entryFrame m #[(.ref o0)] 1))
  rw [ef_8 m o0]
  refine Go.pre (st' := s₁.setTop (mkF m 1 #[.val (.ref o0)] [(.ref o0)])) (fun target kt => ?_) ?_
  · show Steps p.tables e below (s₁.setTop (mkF m 0 #[.val (.ref o0)] [])) _
    refine XS.aloadN X0.here hx rfl (hb hby d8_0) rfl rfl ?_
    exact kt
  obtain ⟨T1, X1, e1, st1⟩ := initO X0 hx hZ hown (hw _ (List.mem_of_getElem? (i := 44) rfl)) (hw _ (List.mem_of_getElem? (i := 20) rfl)) (hw _ (List.mem_of_getElem? (i := 21) rfl)) e0 (g := (mkF m 1 #[.val (.ref o0)] [(.ref o0)])) rfl (by rw [hml]; rfl) rfl (hb hby d8_1) (by decide) (W := 0) (by show 2 * 0 + _ ≤ _; exact Nat.le_of_eq rfl) (by decide)
  refine Go.pre st1 ?_
  show Go p e below s _ _ _ (T1.setTop (mkF m 4 #[.val (.ref o0)] []))
  exact Go.ret0 X1 hx hlk hrt (hb hby d8_4) (by decide) (by decide) (by rw [e1]; exact ⟨rfl, N0, rfl⟩)
/-! AbstractList.<init> (7) -/
theorem d7_0 : decode jdk_39_method_1_code 0 = .ok (.aload_n 0, 1) := by decide +kernel
theorem d7_1 : decode jdk_39_method_1_code 1 = .ok (.invokespecial 1, 3) := by decide +kernel
theorem d7_4 : decode jdk_39_method_1_code 4 = .ok (.aload_n 0, 1) := by decide +kernel
theorem d7_5 : decode jdk_39_method_1_code 5 = .ok (.iconst 0, 1) := by decide +kernel
theorem d7_6 : decode jdk_39_method_1_code 6 = .ok (.putfield 7, 3) := by decide +kernel
theorem d7_9 : decode jdk_39_method_1_code 9 = .ok (.return_, 1) := by decide +kernel
theorem pn_7 : plainName "java/util/AbstractList" = true := by first | (simp [plainName, overriddenIn]; done) | decide +kernel
theorem pd7_0 : parseMethodDescriptor "()V" = some ⟨[], none⟩ := by decide +kernel
theorem ef_7 (m : MethodId) (o0 : Addr) : entryFrame m #[(.ref o0)] 1 = (mkF m 0 #[.val (.ref o0)] []) := by first | (simp [entryFrame, mkF, argsToLocals, Value.category]; done) | rfl
def Q7 (Z : State) (o0 : Addr) (u2 : Value) (h0 : Heap) (n0 : Nat) (v : Option Value) (h : Heap) (L : List Loc) : Prop := v = none ∧ Fr n0 L ∧ Keep h0 h [o0] ∧ KF Z h0 h [(o0, Jvm.RoadKit.slotOf Z "java/util/AbstractList" "modCount" "I")] ∧ Fld Z h o0 "java/util/AbstractList" "modCount" "I" (.int (0 : Int32))
set_option maxRecDepth 65536 in
set_option maxHeartbeats 40000000 in
theorem rm7 (l : Launch) (Z : State) (a0 : Array Value) (hw : ∀ d ∈ tables_1, d.before a0 Z = true) (ws : List Jvm.Cond) (o0 : Addr) (u2 : Value) (h0 : Heap) (n0 : Nat) (Z0 : n0 ≤ h0.size) (E_o0 : Exa Z h0 o0 "java/util/ArrayList") (F_modCount_o0 : Fld Z h0 o0 "java/util/AbstractList" "modCount" "I" u2) (g_o0 : n0 ≤ o0) :
    MetFree l (⟨"java/util/AbstractList", "<init>", "()V"⟩ : MethodName) (head1 (Jvm.Cond.code (⟨"java/util/AbstractList", "<init>", "()V"⟩ : MethodName) jdk_39_method_1_code 1 none :: ws) ({ frames := 2, cells := 0, slots := 0, locals := 24 } : Room)) (fun a U => a = #[(.ref o0)] ∧ Z.Warmed39 U.vm ∧ U.heap = h0) (fun _ _ _ _ _ => True) (fun _ U o U' => ∃ v L, o = .returned v ∧ Q7 Z o0 u2 h0 n0 v U'.heap L ∧ FrameEnd U o U' L ({ frames := 2, cells := 0, slots := 0, locals := 24 } : Room).cells ({ frames := 2, cells := 0, slots := 0, locals := 24 } : Room).slots) := by
  refine MetFree.of_bodySF (plainFor_of_name pn_7) hisR ?_
  intro p e s m args below meth c s₁ Bd hml0 hP hK
  obtain ⟨rfl, hZ, hh⟩ := hP
  have hx := Bd.exec
  have hby := Bd.bytes
  have hml : c.maxLocals = 1 := hml0
  have hown : s.vm.findClass "java/util/AbstractList" = some m.cls := findClass_of_methodNamed Bd.named
  have hnm := (name_of_methodNamed Bd.named Bd.method).1
  have hrt := Bd.returns
  have hlk := Bd.notSynchronized
  have X0 : Stand p l e ({ frames := 2, cells := 0, slots := 0, locals := 24 } : Room) s m #[(.ref o0)] below meth c s₁ [] 0 0 := Stand.of_body Bd
  have e0 : s₁.heap = h0 := by rw [← hh, Bd.state]; rfl
  have N0 := Fr.nil n0
  have lt_E_o0 : LT.lt (α := Nat) o0 h0.size := E_o0.lt
  have lt_F_modCount_o0 : LT.lt (α := Nat) o0 h0.size := F_modCount_o0.lt
  show Go p e below s 0 0 (Q7 Z o0 u2 h0 n0) (s₁.setTop (entryFrame m #[(.ref o0)] 1))
  rw [ef_7 m o0]
  refine Go.pre (st' := s₁.setTop (mkF m 1 #[.val (.ref o0)] [(.ref o0)])) (fun target kt => ?_) ?_
  · show Steps p.tables e below (s₁.setTop (mkF m 0 #[.val (.ref o0)] [])) _
    refine XS.aloadN X0.here hx rfl (hb hby d7_0) rfl rfl ?_
    exact kt
  obtain ⟨_, _, ⟨T1, L1, k1, n1⟩, -, X1, ⟨Lc1, hQ1, l1, y1, z1⟩, st1⟩ := X0.specialBack hx (y := (⟨"java/util/AbstractCollection", "<init>", "()V"⟩ : MethodName)) rfl hown (mvT hZ (hw _ (List.mem_of_getElem? (i := 38) rfl))) (mvT hZ (hw _ (List.mem_of_getElem? (i := 39) rfl))) (mvT hZ (hw _ (List.mem_of_getElem? (i := 43) rfl))) (by decide) (backOf (W := 0) (rm8 l Z a0 hw [] o0 h0 n0 (by omega) ) hZ (hw _ (List.mem_of_getElem? (i := 43) rfl)) (hw _ (List.mem_of_getElem? (i := 42) rfl)) (by decide) (by decide)) (g := (mkF m 1 #[.val (.ref o0)] [(.ref o0)])) rfl (by rw [hml]; rfl) (Steps.refl _) (a := o0) (argsL := []) (rest := []) (lenOf pd7_0 rfl) rfl (by show 2 * 0 + _ ≤ _; exact Nat.le_of_eq rfl) (hb hby d7_1) (fun vm₁ hvm => ⟨rfl, e0, (by decide : 0 + 0 ≤ _), (by decide : 0 + 0 ≤ _)⟩)
  dsimp only [Pt.U, Pt.locs, Pt.cells, Pt.slots] at X1 l1 y1 z1 st1 hQ1
  subst l1 y1 z1
  obtain ⟨rfl, N1q, e1⟩ := hQ1
  have N1 := Fr.app N0 N1q
  refine Go.trans st1 ?_
  show Go p e below s _ _ _ (T1.setTop (mkF m 4 #[.val (.ref o0)] []))
  refine Go.pre (st' := T1.setTop (mkF m 6 #[.val (.ref o0)] [(.int (0 : Int32)), (.ref o0)])) (fun target kt => ?_) ?_
  · show Steps p.tables e below (T1.setTop (mkF m 4 #[.val (.ref o0)] [])) _
    refine XS.aloadN X1.here hx rfl (hb hby d7_4) rfl rfl ?_
    show Steps p.tables e below (T1.setTop (mkF m 5 #[.val (.ref o0)] [(.ref o0)])) _
    refine XS.iconst X1.here hx rfl (hb hby d7_5) ?_
    exact kt
  obtain ⟨T3, h3, X3, e3, W3, st3⟩ := putF X1 hx hZ hown (host := "") (Or.inl (hw _ (List.mem_of_getElem? (i := 45) rfl))) Via.refl e1 F_modCount_o0 E_o0 (Or.inl (hw _ (List.mem_of_getElem? (i := 46) rfl))) (hw _ (List.mem_of_getElem? (i := 27) rfl)) (ty := .int) (by decide) rfl rfl (g := (mkF m 6 #[.val (.ref o0)] [(.int (0 : Int32)), (.ref o0)])) rfl rfl (hb hby d7_6)
  have sz3 : h0.size ≤ h3.size := (Keep.of_wr W3).1
  have Y4 : Fld Z h3 o0 "java/util/AbstractList" "modCount" "I" (.int (0 : Int32)) := F_modCount_o0.same W3
  have N3 := Fr.snoc X3 N1 (by omega)
  refine Go.pre st3 ?_
  show Go p e below s _ _ _ (T3.setTop (mkF m 9 #[.val (.ref o0)] []))
  exact Go.ret0 X3 hx hlk hrt (hb hby d7_9) (by decide) (by decide) (by rw [e3]; exact ⟨rfl, N3, ((Keep.refl h0 [o0]).wr W3 (Or.inl (List.mem_of_getElem? (i := 0) rfl))), ((KF.refl Z h0 [(o0, Jvm.RoadKit.slotOf Z "java/util/AbstractList" "modCount" "I")]).wr W3 (Or.inl (List.mem_of_getElem? (i := 0) rfl))), Y4⟩)
/-! ArrayList.<init> (6) -/
theorem d6_0 : decode jdk_38_method_2_code 0 = .ok (.aload_n 0, 1) := by decide +kernel
theorem d6_1 : decode jdk_38_method_2_code 1 = .ok (.invokespecial 1, 3) := by decide +kernel
theorem d6_4 : decode jdk_38_method_2_code 4 = .ok (.aload_n 0, 1) := by decide +kernel
theorem d6_5 : decode jdk_38_method_2_code 5 = .ok (.getstatic 39, 3) := by decide +kernel
theorem d6_8 : decode jdk_38_method_2_code 8 = .ok (.putfield 9, 3) := by decide +kernel
theorem d6_11 : decode jdk_38_method_2_code 11 = .ok (.return_, 1) := by decide +kernel
theorem pn_6 : plainName "java/util/ArrayList" = true := by first | (simp [plainName, overriddenIn]; done) | decide +kernel
theorem pd6_0 : parseMethodDescriptor "()V" = some ⟨[], none⟩ := by decide +kernel
theorem ef_6 (m : MethodId) (o0 : Addr) : entryFrame m #[(.ref o0)] 1 = (mkF m 0 #[.val (.ref o0)] []) := by first | (simp [entryFrame, mkF, argsToLocals, Value.category]; done) | rfl
def Q6 (Z : State) (o0 : Addr) (u2 : Value) (z3 : Addr) (u6 : Value) (h0 : Heap) (n0 : Nat) (v : Option Value) (h : Heap) (L : List Loc) : Prop := v = none ∧ Fr n0 L ∧ Keep h0 h [o0] ∧ KF Z h0 h [(o0, Jvm.RoadKit.slotOf Z "java/util/AbstractList" "modCount" "I"), (o0, Jvm.RoadKit.slotOf Z "java/util/ArrayList" "elementData" "[Ljava/lang/Object;")] ∧ Fld Z h o0 "java/util/AbstractList" "modCount" "I" (.int (0 : Int32)) ∧ Fld Z h o0 "java/util/ArrayList" "elementData" "[Ljava/lang/Object;" (.ref z3)
set_option maxRecDepth 65536 in
set_option maxHeartbeats 40000000 in
theorem rm6 (l : Launch) (Z : State) (a0 : Array Value) (hw : ∀ d ∈ tables_1, d.before a0 Z = true) (ws : List Jvm.Cond) (o0 : Addr) (u2 : Value) (z3 : Addr) (u6 : Value) (h0 : Heap) (n0 : Nat) (Z0 : n0 ≤ h0.size) (E_o0 : Exa Z h0 o0 "java/util/ArrayList") (F_modCount_o0 : Fld Z h0 o0 "java/util/AbstractList" "modCount" "I" u2) (g_o0 : n0 ≤ o0) (S_DEFAULTCAPACITY_EMPTY_ELEMENTDATA : Sta Z Z.heap "java/util/ArrayList" "DEFAULTCAPACITY_EMPTY_ELEMENTDATA" "[Ljava/lang/Object;" (.ref z3)) (Ol : Old Z n0 h0) (F_elementData_o0 : Fld Z h0 o0 "java/util/ArrayList" "elementData" "[Ljava/lang/Object;" u6) :
    MetFree l (⟨"java/util/ArrayList", "<init>", "()V"⟩ : MethodName) (head1 (Jvm.Cond.code (⟨"java/util/ArrayList", "<init>", "()V"⟩ : MethodName) jdk_38_method_2_code 1 none :: ws) ({ frames := 3, cells := 0, slots := 0, locals := 36 } : Room)) (fun a U => a = #[(.ref o0)] ∧ Z.Warmed39 U.vm ∧ U.heap = h0) (fun _ _ _ _ _ => True) (fun _ U o U' => ∃ v L, o = .returned v ∧ Q6 Z o0 u2 z3 u6 h0 n0 v U'.heap L ∧ FrameEnd U o U' L ({ frames := 3, cells := 0, slots := 0, locals := 36 } : Room).cells ({ frames := 3, cells := 0, slots := 0, locals := 36 } : Room).slots) := by
  refine MetFree.of_bodySF (plainFor_of_name pn_6) hisR ?_
  intro p e s m args below meth c s₁ Bd hml0 hP hK
  obtain ⟨rfl, hZ, hh⟩ := hP
  have hx := Bd.exec
  have hby := Bd.bytes
  have hml : c.maxLocals = 1 := hml0
  have hown : s.vm.findClass "java/util/ArrayList" = some m.cls := findClass_of_methodNamed Bd.named
  have hnm := (name_of_methodNamed Bd.named Bd.method).1
  have hrt := Bd.returns
  have hlk := Bd.notSynchronized
  have X0 : Stand p l e ({ frames := 3, cells := 0, slots := 0, locals := 36 } : Room) s m #[(.ref o0)] below meth c s₁ [] 0 0 := Stand.of_body Bd
  have e0 : s₁.heap = h0 := by rw [← hh, Bd.state]; rfl
  have N0 := Fr.nil n0
  have lt_E_o0 : LT.lt (α := Nat) o0 h0.size := E_o0.lt
  have lt_F_modCount_o0 : LT.lt (α := Nat) o0 h0.size := F_modCount_o0.lt
  have lt_F_elementData_o0 : LT.lt (α := Nat) o0 h0.size := F_elementData_o0.lt
  show Go p e below s 0 0 (Q6 Z o0 u2 z3 u6 h0 n0) (s₁.setTop (entryFrame m #[(.ref o0)] 1))
  rw [ef_6 m o0]
  refine Go.pre (st' := s₁.setTop (mkF m 1 #[.val (.ref o0)] [(.ref o0)])) (fun target kt => ?_) ?_
  · show Steps p.tables e below (s₁.setTop (mkF m 0 #[.val (.ref o0)] [])) _
    refine XS.aloadN X0.here hx rfl (hb hby d6_0) rfl rfl ?_
    exact kt
  obtain ⟨_, _, ⟨T1, L1, k1, n1⟩, -, X1, ⟨Lc1, hQ1, l1, y1, z1⟩, st1⟩ := X0.specialBack hx (y := (⟨"java/util/AbstractList", "<init>", "()V"⟩ : MethodName)) rfl hown (mvT hZ (hw _ (List.mem_of_getElem? (i := 32) rfl))) (mvT hZ (hw _ (List.mem_of_getElem? (i := 33) rfl))) (mvT hZ (hw _ (List.mem_of_getElem? (i := 37) rfl))) (by decide) (backOf (W := 0) (rm7 l Z a0 hw [] o0 u2 h0 n0 (by omega) E_o0 F_modCount_o0 (by omega)) hZ (hw _ (List.mem_of_getElem? (i := 37) rfl)) (hw _ (List.mem_of_getElem? (i := 36) rfl)) (by decide) (by decide)) (g := (mkF m 1 #[.val (.ref o0)] [(.ref o0)])) rfl (by rw [hml]; rfl) (Steps.refl _) (a := o0) (argsL := []) (rest := []) (lenOf pd6_0 rfl) rfl (by show 2 * 0 + _ ≤ _; exact Nat.le_of_eq rfl) (hb hby d6_1) (fun vm₁ hvm => ⟨rfl, e0, (by decide : 0 + 0 ≤ _), (by decide : 0 + 0 ≤ _)⟩)
  dsimp only [Pt.U, Pt.locs, Pt.cells, Pt.slots] at X1 l1 y1 z1 st1 hQ1
  subst l1 y1 z1
  obtain ⟨rfl, N1q, K1, KF1, Y1_0⟩ := hQ1
  have sz1 : h0.size ≤ T1.heap.size := K1.1
  have N1 := Fr.app N0 N1q
  refine Go.trans st1 ?_
  show Go p e below s _ _ _ (T1.setTop (mkF m 4 #[.val (.ref o0)] []))
  refine Go.pre (st' := T1.setTop (mkF m 5 #[.val (.ref o0)] [(.ref o0)])) (fun target kt => ?_) ?_
  · show Steps p.tables e below (T1.setTop (mkF m 4 #[.val (.ref o0)] [])) _
    refine XS.aloadN X1.here hx rfl (hb hby d6_4) rfl rfl ?_
    exact kt
  have Y4 : Old Z n0 T1.heap := (Ol.keep K1 (allS (by omega) all0))
  obtain ⟨T5, X5, e5, st5⟩ := getS2 X1 hx hZ hown (host := "") (Or.inl (hw _ (List.mem_of_getElem? (i := 47) rfl))) Via.refl rfl (S_DEFAULTCAPACITY_EMPTY_ELEMENTDATA.ext Y4.2) (g := (mkF m 5 #[.val (.ref o0)] [(.ref o0)])) rfl (hb hby d6_5)
  refine Go.pre st5 ?_
  show Go p e below s _ _ _ (T5.setTop (mkF m 8 #[.val (.ref o0)] [(.ref z3), (.ref o0)]))
  have Y7 : Fld Z T1.heap o0 "java/util/ArrayList" "elementData" "[Ljava/lang/Object;" u6 := (KF1 _ _ _ _ _ F_elementData_o0 (pallS (Or.inr (slot_ne (Or.inl (hw _ (List.mem_of_getElem? (i := 49) rfl))) (Or.inl (hw _ (List.mem_of_getElem? (i := 46) rfl))) (by decide) (t := (.array (.object "java/lang/Object"))) (t' := .int) (by decide) (by decide))) pall0))
  have Y8 : Exa Z T1.heap o0 "java/util/ArrayList" := (E_o0.keep K1)
  obtain ⟨T9, h9, X9, e9, W9, st9⟩ := putF X5 hx hZ hown (host := "") (Or.inl (hw _ (List.mem_of_getElem? (i := 48) rfl))) Via.refl e5 Y7 Y8 (Or.inl (hw _ (List.mem_of_getElem? (i := 49) rfl))) (hw _ (List.mem_of_getElem? (i := 27) rfl)) (ty := (.array (.object "java/lang/Object"))) (by decide) rfl rfl (g := (mkF m 8 #[.val (.ref o0)] [(.ref z3), (.ref o0)])) rfl rfl (hb hby d6_8)
  have sz9 : T1.heap.size ≤ h9.size := (Keep.of_wr W9).1
  have Y10 : Fld Z h9 o0 "java/util/ArrayList" "elementData" "[Ljava/lang/Object;" (.ref z3) := Y7.same W9
  have N9 := Fr.snoc X9 N1 (by omega)
  refine Go.pre st9 ?_
  show Go p e below s _ _ _ (T9.setTop (mkF m 11 #[.val (.ref o0)] []))
  have Y11 : Fld Z h9 o0 "java/util/AbstractList" "modCount" "I" (.int (0 : Int32)) := (Y1_0.other W9 (Or.inr (slot_ne (Or.inl (hw _ (List.mem_of_getElem? (i := 46) rfl))) (Or.inl (hw _ (List.mem_of_getElem? (i := 49) rfl))) (by decide) (t := .int) (t' := (.array (.object "java/lang/Object"))) (by decide) (by decide))))
  exact Go.ret0 X9 hx hlk hrt (hb hby d6_11) (by decide) (by decide) (by rw [e9]; exact ⟨rfl, N9, (((Keep.refl h0 [o0]).trans K1 (allS (Or.inl (List.mem_of_getElem? (i := 0) rfl)) all0)).wr W9 (Or.inl (List.mem_of_getElem? (i := 0) rfl))), (((KF.refl Z h0 [(o0, Jvm.RoadKit.slotOf Z "java/util/AbstractList" "modCount" "I"), (o0, Jvm.RoadKit.slotOf Z "java/util/ArrayList" "elementData" "[Ljava/lang/Object;")]).trans KF1 (pallS (Or.inl (List.mem_of_getElem? (i := 0) rfl)) pall0)).wr W9 (Or.inl (List.mem_of_getElem? (i := 1) rfl))), Y11, Y10⟩)
/-! Record.<init> (10) -/
theorem d10_0 : decode jdk_30_method_1_code 0 = .ok (.aload_n 0, 1) := by decide +kernel
theorem d10_1 : decode jdk_30_method_1_code 1 = .ok (.invokespecial 1, 3) := by decide +kernel
theorem d10_4 : decode jdk_30_method_1_code 4 = .ok (.return_, 1) := by decide +kernel
theorem pn_10 : plainName "java/lang/Record" = true := by first | (simp [plainName, overriddenIn]; done) | decide +kernel
theorem ef_10 (m : MethodId) (o0 : Addr) : entryFrame m #[(.ref o0)] 1 = (mkF m 0 #[.val (.ref o0)] []) := by first | (simp [entryFrame, mkF, argsToLocals, Value.category]; done) | rfl
def Q10 (Z : State) (o0 : Addr) (h0 : Heap) (n0 : Nat) (v : Option Value) (h : Heap) (L : List Loc) : Prop := v = none ∧ Fr n0 L ∧ h = h0
set_option maxRecDepth 65536 in
set_option maxHeartbeats 40000000 in
theorem rm10 (l : Launch) (Z : State) (a0 : Array Value) (hw : ∀ d ∈ tables_1, d.before a0 Z = true) (ws : List Jvm.Cond) (o0 : Addr) (h0 : Heap) (n0 : Nat) (Z0 : n0 ≤ h0.size) :
    MetFree l (⟨"java/lang/Record", "<init>", "()V"⟩ : MethodName) (head1 (Jvm.Cond.code (⟨"java/lang/Record", "<init>", "()V"⟩ : MethodName) jdk_30_method_1_code 1 none :: ws) ({ frames := 1, cells := 0, slots := 0, locals := 12 } : Room)) (fun a U => a = #[(.ref o0)] ∧ Z.Warmed39 U.vm ∧ U.heap = h0) (fun _ _ _ _ _ => True) (fun _ U o U' => ∃ v L, o = .returned v ∧ Q10 Z o0 h0 n0 v U'.heap L ∧ FrameEnd U o U' L ({ frames := 1, cells := 0, slots := 0, locals := 12 } : Room).cells ({ frames := 1, cells := 0, slots := 0, locals := 12 } : Room).slots) := by
  refine MetFree.of_bodySF (plainFor_of_name pn_10) hisR ?_
  intro p e s m args below meth c s₁ Bd hml0 hP hK
  obtain ⟨rfl, hZ, hh⟩ := hP
  have hx := Bd.exec
  have hby := Bd.bytes
  have hml : c.maxLocals = 1 := hml0
  have hown : s.vm.findClass "java/lang/Record" = some m.cls := findClass_of_methodNamed Bd.named
  have hnm := (name_of_methodNamed Bd.named Bd.method).1
  have hrt := Bd.returns
  have hlk := Bd.notSynchronized
  have X0 : Stand p l e ({ frames := 1, cells := 0, slots := 0, locals := 12 } : Room) s m #[(.ref o0)] below meth c s₁ [] 0 0 := Stand.of_body Bd
  have e0 : s₁.heap = h0 := by rw [← hh, Bd.state]; rfl
  have N0 := Fr.nil n0
  show Go p e below s 0 0 (Q10 Z o0 h0 n0) (s₁.setTop (entryFrame m #[(.ref o0)] 1))
  rw [ef_10 m o0]
  refine Go.pre (st' := s₁.setTop (mkF m 1 #[.val (.ref o0)] [(.ref o0)])) (fun target kt => ?_) ?_
  · show Steps p.tables e below (s₁.setTop (mkF m 0 #[.val (.ref o0)] [])) _
    refine XS.aloadN X0.here hx rfl (hb hby d10_0) rfl rfl ?_
    exact kt
  obtain ⟨T1, X1, e1, st1⟩ := initO X0 hx hZ hown (hw _ (List.mem_of_getElem? (i := 61) rfl)) (hw _ (List.mem_of_getElem? (i := 20) rfl)) (hw _ (List.mem_of_getElem? (i := 21) rfl)) e0 (g := (mkF m 1 #[.val (.ref o0)] [(.ref o0)])) rfl (by rw [hml]; rfl) rfl (hb hby d10_1) (by decide) (W := 0) (by show 2 * 0 + _ ≤ _; exact Nat.le_of_eq rfl) (by decide)
  refine Go.pre st1 ?_
  show Go p e below s _ _ _ (T1.setTop (mkF m 4 #[.val (.ref o0)] []))
  exact Go.ret0 X1 hx hlk hrt (hb hby d10_4) (by decide) (by decide) (by rw [e1]; exact ⟨rfl, N0, rfl⟩)
/-! SourcePosition.<init> (9) -/
theorem d9_0 : decode prog_116_method_1_code 0 = .ok (.aload_n 0, 1) := by decide +kernel
theorem d9_1 : decode prog_116_method_1_code 1 = .ok (.invokespecial 1, 3) := by decide +kernel
theorem d9_4 : decode prog_116_method_1_code 4 = .ok (.aload_n 0, 1) := by decide +kernel
theorem d9_5 : decode prog_116_method_1_code 5 = .ok (.iload_n 1, 1) := by decide +kernel
theorem d9_6 : decode prog_116_method_1_code 6 = .ok (.putfield 7, 3) := by decide +kernel
theorem d9_9 : decode prog_116_method_1_code 9 = .ok (.aload_n 0, 1) := by decide +kernel
theorem d9_10 : decode prog_116_method_1_code 10 = .ok (.iload_n 2, 1) := by decide +kernel
theorem d9_11 : decode prog_116_method_1_code 11 = .ok (.putfield 13, 3) := by decide +kernel
theorem d9_14 : decode prog_116_method_1_code 14 = .ok (.return_, 1) := by decide +kernel
theorem pn_9 : plainName "com/example/araucaria/araucaria/proto/SourcePosition" = true := by first | (simp [plainName, overriddenIn]; done) | decide +kernel
theorem pd9_0 : parseMethodDescriptor "()V" = some ⟨[], none⟩ := by decide +kernel
theorem ef_9 (m : MethodId) (o0 : Addr) (p1 : Int32) (p2 : Int32) : entryFrame m #[(.ref o0), (.int p1), (.int p2)] 3 = (mkF m 0 #[.val (.ref o0), .val (.int p1), .val (.int p2)] []) := by first | (simp [entryFrame, mkF, argsToLocals, Value.category]; done) | rfl
def Q9 (Z : State) (o0 : Addr) (p1 : Int32) (p2 : Int32) (u2 : Value) (u5 : Value) (h0 : Heap) (n0 : Nat) (v : Option Value) (h : Heap) (L : List Loc) : Prop := v = none ∧ Fr n0 L ∧ Keep h0 h [o0] ∧ KF Z h0 h [(o0, Jvm.RoadKit.slotOf Z "com/example/araucaria/araucaria/proto/SourcePosition" "line" "I"), (o0, Jvm.RoadKit.slotOf Z "com/example/araucaria/araucaria/proto/SourcePosition" "column" "I")] ∧ Fld Z h o0 "com/example/araucaria/araucaria/proto/SourcePosition" "line" "I" (.int p1) ∧ Fld Z h o0 "com/example/araucaria/araucaria/proto/SourcePosition" "column" "I" (.int p2)
set_option maxRecDepth 65536 in
set_option maxHeartbeats 40000000 in
theorem rm9 (l : Launch) (Z : State) (a0 : Array Value) (hw : ∀ d ∈ tables_1, d.before a0 Z = true) (ws : List Jvm.Cond) (o0 : Addr) (p1 : Int32) (p2 : Int32) (u2 : Value) (u5 : Value) (h0 : Heap) (n0 : Nat) (Z0 : n0 ≤ h0.size) (F_line_o0 : Fld Z h0 o0 "com/example/araucaria/araucaria/proto/SourcePosition" "line" "I" u2) (E_o0 : Exa Z h0 o0 "com/example/araucaria/araucaria/proto/SourcePosition") (g_o0 : n0 ≤ o0) (F_column_o0 : Fld Z h0 o0 "com/example/araucaria/araucaria/proto/SourcePosition" "column" "I" u5) :
    MetFree l (⟨"com/example/araucaria/araucaria/proto/SourcePosition", "<init>", "(II)V"⟩ : MethodName) (head1 (Jvm.Cond.code (⟨"com/example/araucaria/araucaria/proto/SourcePosition", "<init>", "(II)V"⟩ : MethodName) prog_116_method_1_code 3 none :: ws) ({ frames := 2, cells := 0, slots := 0, locals := 24 } : Room)) (fun a U => a = #[(.ref o0), (.int p1), (.int p2)] ∧ Z.Warmed39 U.vm ∧ U.heap = h0) (fun _ _ _ _ _ => True) (fun _ U o U' => ∃ v L, o = .returned v ∧ Q9 Z o0 p1 p2 u2 u5 h0 n0 v U'.heap L ∧ FrameEnd U o U' L ({ frames := 2, cells := 0, slots := 0, locals := 24 } : Room).cells ({ frames := 2, cells := 0, slots := 0, locals := 24 } : Room).slots) := by
  refine MetFree.of_bodySF (plainFor_of_name pn_9) hisR ?_
  intro p e s m args below meth c s₁ Bd hml0 hP hK
  obtain ⟨rfl, hZ, hh⟩ := hP
  have hx := Bd.exec
  have hby := Bd.bytes
  have hml : c.maxLocals = 3 := hml0
  have hown : s.vm.findClass "com/example/araucaria/araucaria/proto/SourcePosition" = some m.cls := findClass_of_methodNamed Bd.named
  have hnm := (name_of_methodNamed Bd.named Bd.method).1
  have hrt := Bd.returns
  have hlk := Bd.notSynchronized
  have X0 : Stand p l e ({ frames := 2, cells := 0, slots := 0, locals := 24 } : Room) s m #[(.ref o0), (.int p1), (.int p2)] below meth c s₁ [] 0 0 := Stand.of_body Bd
  have e0 : s₁.heap = h0 := by rw [← hh, Bd.state]; rfl
  have N0 := Fr.nil n0
  have lt_F_line_o0 : LT.lt (α := Nat) o0 h0.size := F_line_o0.lt
  have lt_E_o0 : LT.lt (α := Nat) o0 h0.size := E_o0.lt
  have lt_F_column_o0 : LT.lt (α := Nat) o0 h0.size := F_column_o0.lt
  show Go p e below s 0 0 (Q9 Z o0 p1 p2 u2 u5 h0 n0) (s₁.setTop (entryFrame m #[(.ref o0), (.int p1), (.int p2)] 3))
  rw [ef_9 m o0 p1 p2]
  refine Go.pre (st' := s₁.setTop (mkF m 1 #[.val (.ref o0), .val (.int p1), .val (.int p2)] [(.ref o0)])) (fun target kt => ?_) ?_
  · show Steps p.tables e below (s₁.setTop (mkF m 0 #[.val (.ref o0), .val (.int p1), .val (.int p2)] [])) _
    refine XS.aloadN X0.here hx rfl (hb hby d9_0) rfl rfl ?_
    exact kt
  obtain ⟨_, _, ⟨T1, L1, k1, n1⟩, -, X1, ⟨Lc1, hQ1, l1, y1, z1⟩, st1⟩ := X0.specialBack hx (y := (⟨"java/lang/Record", "<init>", "()V"⟩ : MethodName)) rfl hown (mvT hZ (hw _ (List.mem_of_getElem? (i := 56) rfl))) (mvT hZ (hw _ (List.mem_of_getElem? (i := 57) rfl))) (mvT hZ (hw _ (List.mem_of_getElem? (i := 60) rfl))) (by decide) (backOf (W := 0) (rm10 l Z a0 hw [] o0 h0 n0 (by omega) ) hZ (hw _ (List.mem_of_getElem? (i := 60) rfl)) (hw _ (List.mem_of_getElem? (i := 59) rfl)) (by decide) (by decide)) (g := (mkF m 1 #[.val (.ref o0), .val (.int p1), .val (.int p2)] [(.ref o0)])) rfl (by rw [hml]; rfl) (Steps.refl _) (a := o0) (argsL := []) (rest := []) (lenOf pd9_0 rfl) rfl (by show 2 * 0 + _ ≤ _; exact Nat.le_of_eq rfl) (hb hby d9_1) (fun vm₁ hvm => ⟨rfl, e0, (by decide : 0 + 0 ≤ _), (by decide : 0 + 0 ≤ _)⟩)
  dsimp only [Pt.U, Pt.locs, Pt.cells, Pt.slots] at X1 l1 y1 z1 st1 hQ1
  subst l1 y1 z1
  obtain ⟨rfl, N1q, e1⟩ := hQ1
  have N1 := Fr.app N0 N1q
  refine Go.trans st1 ?_
  show Go p e below s _ _ _ (T1.setTop (mkF m 4 #[.val (.ref o0), .val (.int p1), .val (.int p2)] []))
  refine Go.pre (st' := T1.setTop (mkF m 6 #[.val (.ref o0), .val (.int p1), .val (.int p2)] [(.int p1), (.ref o0)])) (fun target kt => ?_) ?_
  · show Steps p.tables e below (T1.setTop (mkF m 4 #[.val (.ref o0), .val (.int p1), .val (.int p2)] [])) _
    refine XS.aloadN X1.here hx rfl (hb hby d9_4) rfl rfl ?_
    show Steps p.tables e below (T1.setTop (mkF m 5 #[.val (.ref o0), .val (.int p1), .val (.int p2)] [(.ref o0)])) _
    refine XS.iloadN X1.here hx rfl (hb hby d9_5) rfl ?_
    exact kt
  obtain ⟨T3, h3, X3, e3, W3, st3⟩ := putF X1 hx hZ hown (host := "") (Or.inl (hw _ (List.mem_of_getElem? (i := 62) rfl))) Via.refl e1 F_line_o0 E_o0 (Or.inr ⟨(hw _ (List.mem_of_getElem? (i := 63) rfl)), rfl, hnm⟩) (hw _ (List.mem_of_getElem? (i := 51) rfl)) (ty := .int) (by decide) rfl rfl (g := (mkF m 6 #[.val (.ref o0), .val (.int p1), .val (.int p2)] [(.int p1), (.ref o0)])) rfl rfl (hb hby d9_6)
  have sz3 : h0.size ≤ h3.size := (Keep.of_wr W3).1
  have Y4 : Fld Z h3 o0 "com/example/araucaria/araucaria/proto/SourcePosition" "line" "I" (.int p1) := F_line_o0.same W3
  have N3 := Fr.snoc X3 N1 (by omega)
  refine Go.pre st3 ?_
  show Go p e below s _ _ _ (T3.setTop (mkF m 9 #[.val (.ref o0), .val (.int p1), .val (.int p2)] []))
  refine Go.pre (st' := T3.setTop (mkF m 11 #[.val (.ref o0), .val (.int p1), .val (.int p2)] [(.int p2), (.ref o0)])) (fun target kt => ?_) ?_
  · show Steps p.tables e below (T3.setTop (mkF m 9 #[.val (.ref o0), .val (.int p1), .val (.int p2)] [])) _
    refine XS.aloadN X3.here hx rfl (hb hby d9_9) rfl rfl ?_
    show Steps p.tables e below (T3.setTop (mkF m 10 #[.val (.ref o0), .val (.int p1), .val (.int p2)] [(.ref o0)])) _
    refine XS.iloadN X3.here hx rfl (hb hby d9_10) rfl ?_
    exact kt
  have Y6 : Fld Z h3 o0 "com/example/araucaria/araucaria/proto/SourcePosition" "column" "I" u5 := (F_column_o0.other W3 (Or.inr (slot_ne (Or.inr (hw _ (List.mem_of_getElem? (i := 65) rfl))) (Or.inr (hw _ (List.mem_of_getElem? (i := 63) rfl))) (by decide) (t := .int) (t' := .int) (by decide) (by decide))))
  have Y7 : Exa Z h3 o0 "com/example/araucaria/araucaria/proto/SourcePosition" := (E_o0.wr W3)
  obtain ⟨T8, h8, X8, e8, W8, st8⟩ := putF X3 hx hZ hown (host := "") (Or.inl (hw _ (List.mem_of_getElem? (i := 64) rfl))) Via.refl e3 Y6 Y7 (Or.inr ⟨(hw _ (List.mem_of_getElem? (i := 65) rfl)), rfl, hnm⟩) (hw _ (List.mem_of_getElem? (i := 51) rfl)) (ty := .int) (by decide) rfl rfl (g := (mkF m 11 #[.val (.ref o0), .val (.int p1), .val (.int p2)] [(.int p2), (.ref o0)])) rfl rfl (hb hby d9_11)
  have sz8 : h3.size ≤ h8.size := (Keep.of_wr W8).1
  have Y9 : Fld Z h8 o0 "com/example/araucaria/araucaria/proto/SourcePosition" "column" "I" (.int p2) := Y6.same W8
  have N8 := Fr.snoc X8 N3 (by omega)
  refine Go.pre st8 ?_
  show Go p e below s _ _ _ (T8.setTop (mkF m 14 #[.val (.ref o0), .val (.int p1), .val (.int p2)] []))
  have Y10 : Fld Z h8 o0 "com/example/araucaria/araucaria/proto/SourcePosition" "line" "I" (.int p1) := (Y4.other W8 (Or.inr (slot_ne (Or.inr (hw _ (List.mem_of_getElem? (i := 63) rfl))) (Or.inr (hw _ (List.mem_of_getElem? (i := 65) rfl))) (by decide) (t := .int) (t' := .int) (by decide) (by decide))))
  exact Go.ret0 X8 hx hlk hrt (hb hby d9_14) (by decide) (by decide) (by rw [e8]; exact ⟨rfl, N8, (((Keep.refl h0 [o0]).wr W3 (Or.inl (List.mem_of_getElem? (i := 0) rfl))).wr W8 (Or.inl (List.mem_of_getElem? (i := 0) rfl))), (((KF.refl Z h0 [(o0, Jvm.RoadKit.slotOf Z "com/example/araucaria/araucaria/proto/SourcePosition" "line" "I"), (o0, Jvm.RoadKit.slotOf Z "com/example/araucaria/araucaria/proto/SourcePosition" "column" "I")]).wr W3 (Or.inl (List.mem_of_getElem? (i := 0) rfl))).wr W8 (Or.inl (List.mem_of_getElem? (i := 1) rfl))), Y10, Y9⟩)
/-! ProtoField.<init> (11N) -/
theorem d11_0 : decode prog_82_method_2_code 0 = .ok (.aload_n 0, 1) := by decide +kernel
theorem d11_1 : decode prog_82_method_2_code 1 = .ok (.invokespecial 1, 3) := by decide +kernel
theorem d11_4 : decode prog_82_method_2_code 4 = .ok (.aload_n 0, 1) := by decide +kernel
theorem d11_5 : decode prog_82_method_2_code 5 = .ok (.aload_n 1, 1) := by decide +kernel
theorem d11_6 : decode prog_82_method_2_code 6 = .ok (.putfield 7, 3) := by decide +kernel
theorem d11_9 : decode prog_82_method_2_code 9 = .ok (.aload_n 0, 1) := by decide +kernel
theorem d11_10 : decode prog_82_method_2_code 10 = .ok (.iload_n 2, 1) := by decide +kernel
theorem d11_11 : decode prog_82_method_2_code 11 = .ok (.putfield 13, 3) := by decide +kernel
theorem d11_14 : decode prog_82_method_2_code 14 = .ok (.aload_n 0, 1) := by decide +kernel
theorem d11_15 : decode prog_82_method_2_code 15 = .ok (.aload_n 3, 1) := by decide +kernel
theorem d11_16 : decode prog_82_method_2_code 16 = .ok (.putfield 17, 3) := by decide +kernel
theorem d11_19 : decode prog_82_method_2_code 19 = .ok (.aload_n 0, 1) := by decide +kernel
theorem d11_20 : decode prog_82_method_2_code 20 = .ok (.aload 4, 2) := by decide +kernel
theorem d11_22 : decode prog_82_method_2_code 22 = .ok (.putfield 21, 3) := by decide +kernel
theorem d11_25 : decode prog_82_method_2_code 25 = .ok (.aload_n 0, 1) := by decide +kernel
theorem d11_26 : decode prog_82_method_2_code 26 = .ok (.aload 5, 2) := by decide +kernel
theorem d11_28 : decode prog_82_method_2_code 28 = .ok (.putfield 24, 3) := by decide +kernel
theorem d11_31 : decode prog_82_method_2_code 31 = .ok (.aload_n 0, 1) := by decide +kernel
theorem d11_32 : decode prog_82_method_2_code 32 = .ok (.iload 6, 2) := by decide +kernel
theorem d11_34 : decode prog_82_method_2_code 34 = .ok (.putfield 27, 3) := by decide +kernel
theorem d11_37 : decode prog_82_method_2_code 37 = .ok (.aload_n 0, 1) := by decide +kernel
theorem d11_38 : decode prog_82_method_2_code 38 = .ok (.iload 7, 2) := by decide +kernel
theorem d11_40 : decode prog_82_method_2_code 40 = .ok (.putfield 31, 3) := by decide +kernel
theorem d11_43 : decode prog_82_method_2_code 43 = .ok (.aload_n 0, 1) := by decide +kernel
theorem d11_44 : decode prog_82_method_2_code 44 = .ok (.aload 8, 2) := by decide +kernel
theorem d11_46 : decode prog_82_method_2_code 46 = .ok (.putfield 34, 3) := by decide +kernel
theorem d11_49 : decode prog_82_method_2_code 49 = .ok (.aload_n 0, 1) := by decide +kernel
theorem d11_50 : decode prog_82_method_2_code 50 = .ok (.aload 9, 2) := by decide +kernel
theorem d11_52 : decode prog_82_method_2_code 52 = .ok (.putfield 37, 3) := by decide +kernel
theorem d11_55 : decode prog_82_method_2_code 55 = .ok (.aload_n 0, 1) := by decide +kernel
theorem d11_56 : decode prog_82_method_2_code 56 = .ok (.aload 10, 2) := by decide +kernel
theorem d11_58 : decode prog_82_method_2_code 58 = .ok (.putfield 41, 3) := by decide +kernel
theorem d11_61 : decode prog_82_method_2_code 61 = .ok (.return_, 1) := by decide +kernel
theorem pn_11 : plainName "com/example/araucaria/araucaria/proto/ProtoField" = true := by first | (simp [plainName, overriddenIn]; done) | decide +kernel
theorem pd11N_0 : parseMethodDescriptor "()V" = some ⟨[], none⟩ := by decide +kernel
theorem ef_11N (m : MethodId) (o0 : Addr) (o1 : Addr) (p2 : Int32) (o3 : Addr) (o4 : Addr) (o5 : Addr) (p6 : Int32) (p7 : Int32) (o9 : Addr) (o10 : Addr) : entryFrame m #[(.ref o0), (.ref o1), (.int p2), (.ref o3), (.ref o4), (.ref o5), (.int p6), (.int p7), .null, (.ref o9), (.ref o10)] 11 = (mkF m 0 #[.val (.ref o0), .val (.ref o1), .val (.int p2), .val (.ref o3), .val (.ref o4), .val (.ref o5), .val (.int p6), .val (.int p7), .val .null, .val (.ref o9), .val (.ref o10)] []) := by first | (simp [entryFrame, mkF, argsToLocals, Value.category]; done) | rfl
def Q11N (Z : State) (o0 : Addr) (o1 : Addr) (p2 : Int32) (o3 : Addr) (o4 : Addr) (o5 : Addr) (p6 : Int32) (p7 : Int32) (o9 : Addr) (o10 : Addr) (u2 : Value) (u5 : Value) (u10 : Value) (u15 : Value) (u20 : Value) (u25 : Value) (u30 : Value) (u35 : Value) (u40 : Value) (u45 : Value) (h0 : Heap) (n0 : Nat) (v : Option Value) (h : Heap) (L : List Loc) : Prop := v = none ∧ Fr n0 L ∧ Keep h0 h [o0] ∧ KF Z h0 h [(o0, Jvm.RoadKit.slotOf Z "com/example/araucaria/araucaria/proto/ProtoField" "name" "Ljava/lang/String;"), (o0, Jvm.RoadKit.slotOf Z "com/example/araucaria/araucaria/proto/ProtoField" "number" "I"), (o0, Jvm.RoadKit.slotOf Z "com/example/araucaria/araucaria/proto/ProtoField" "position" "Lcom/example/araucaria/araucaria/proto/SourcePosition;"), (o0, Jvm.RoadKit.slotOf Z "com/example/araucaria/araucaria/proto/ProtoField" "numberPosition" "Lcom/example/araucaria/araucaria/proto/SourcePosition;"), (o0, Jvm.RoadKit.slotOf Z "com/example/araucaria/araucaria/proto/ProtoField" "type" "Ljava/lang/String;"), (o0, Jvm.RoadKit.slotOf Z "com/example/araucaria/araucaria/proto/ProtoField" "repeated" "Z"), (o0, Jvm.RoadKit.slotOf Z "com/example/araucaria/araucaria/proto/ProtoField" "optional" "Z"), (o0, Jvm.RoadKit.slotOf Z "com/example/araucaria/araucaria/proto/ProtoField" "oneof" "Ljava/lang/String;"), (o0, Jvm.RoadKit.slotOf Z "com/example/araucaria/araucaria/proto/ProtoField" "behaviors" "Ljava/util/List;"), (o0, Jvm.RoadKit.slotOf Z "com/example/araucaria/araucaria/proto/ProtoField" "jsonName" "Ljava/lang/String;")] ∧ Fld Z h o0 "com/example/araucaria/araucaria/proto/ProtoField" "name" "Ljava/lang/String;" (.ref o1) ∧ Fld Z h o0 "com/example/araucaria/araucaria/proto/ProtoField" "number" "I" (.int p2) ∧ Fld Z h o0 "com/example/araucaria/araucaria/proto/ProtoField" "position" "Lcom/example/araucaria/araucaria/proto/SourcePosition;" (.ref o3) ∧ Fld Z h o0 "com/example/araucaria/araucaria/proto/ProtoField" "numberPosition" "Lcom/example/araucaria/araucaria/proto/SourcePosition;" (.ref o4) ∧ Fld Z h o0 "com/example/araucaria/araucaria/proto/ProtoField" "type" "Ljava/lang/String;" (.ref o5) ∧ Fld Z h o0 "com/example/araucaria/araucaria/proto/ProtoField" "repeated" "Z" (.int (p6 &&& 1)) ∧ Fld Z h o0 "com/example/araucaria/araucaria/proto/ProtoField" "optional" "Z" (.int (p7 &&& 1)) ∧ Fld Z h o0 "com/example/araucaria/araucaria/proto/ProtoField" "oneof" "Ljava/lang/String;" .null ∧ Fld Z h o0 "com/example/araucaria/araucaria/proto/ProtoField" "behaviors" "Ljava/util/List;" (.ref o9) ∧ Fld Z h o0 "com/example/araucaria/araucaria/proto/ProtoField" "jsonName" "Ljava/lang/String;" (.ref o10)
set_option maxRecDepth 65536 in
set_option maxHeartbeats 40000000 in
theorem rm11N (l : Launch) (Z : State) (a0 : Array Value) (hw : ∀ d ∈ tables_1, d.before a0 Z = true) (ws : List Jvm.Cond) (o0 : Addr) (o1 : Addr) (p2 : Int32) (o3 : Addr) (o4 : Addr) (o5 : Addr) (p6 : Int32) (p7 : Int32) (o9 : Addr) (o10 : Addr) (u2 : Value) (u5 : Value) (u10 : Value) (u15 : Value) (u20 : Value) (u25 : Value) (u30 : Value) (u35 : Value) (u40 : Value) (u45 : Value) (h0 : Heap) (n0 : Nat) (Z0 : n0 ≤ h0.size) (F_name_o0 : Fld Z h0 o0 "com/example/araucaria/araucaria/proto/ProtoField" "name" "Ljava/lang/String;" u2) (E_o0 : Exa Z h0 o0 "com/example/araucaria/araucaria/proto/ProtoField") (g_o0 : n0 ≤ o0) (F_number_o0 : Fld Z h0 o0 "com/example/araucaria/araucaria/proto/ProtoField" "number" "I" u5) (F_position_o0 : Fld Z h0 o0 "com/example/araucaria/araucaria/proto/ProtoField" "position" "Lcom/example/araucaria/araucaria/proto/SourcePosition;" u10) (F_numberPosition_o0 : Fld Z h0 o0 "com/example/araucaria/araucaria/proto/ProtoField" "numberPosition" "Lcom/example/araucaria/araucaria/proto/SourcePosition;" u15) (F_type_o0 : Fld Z h0 o0 "com/example/araucaria/araucaria/proto/ProtoField" "type" "Ljava/lang/String;" u20) (F_repeated_o0 : Fld Z h0 o0 "com/example/araucaria/araucaria/proto/ProtoField" "repeated" "Z" u25) (F_optional_o0 : Fld Z h0 o0 "com/example/araucaria/araucaria/proto/ProtoField" "optional" "Z" u30) (F_oneof_o0 : Fld Z h0 o0 "com/example/araucaria/araucaria/proto/ProtoField" "oneof" "Ljava/lang/String;" u35) (F_behaviors_o0 : Fld Z h0 o0 "com/example/araucaria/araucaria/proto/ProtoField" "behaviors" "Ljava/util/List;" u40) (F_jsonName_o0 : Fld Z h0 o0 "com/example/araucaria/araucaria/proto/ProtoField" "jsonName" "Ljava/lang/String;" u45) :
    MetFree l (⟨"com/example/araucaria/araucaria/proto/ProtoField", "<init>", "(Ljava/lang/String;ILcom/example/araucaria/araucaria/proto/SourcePosition;Lcom/example/araucaria/araucaria/proto/SourcePosition;Ljava/lang/String;ZZLjava/lang/String;Ljava/util/List;Ljava/lang/String;)V"⟩ : MethodName) (head1 (Jvm.Cond.code (⟨"com/example/araucaria/araucaria/proto/ProtoField", "<init>", "(Ljava/lang/String;ILcom/example/araucaria/araucaria/proto/SourcePosition;Lcom/example/araucaria/araucaria/proto/SourcePosition;Ljava/lang/String;ZZLjava/lang/String;Ljava/util/List;Ljava/lang/String;)V"⟩ : MethodName) prog_82_method_2_code 11 none :: ws) ({ frames := 2, cells := 0, slots := 0, locals := 24 } : Room)) (fun a U => a = #[(.ref o0), (.ref o1), (.int p2), (.ref o3), (.ref o4), (.ref o5), (.int p6), (.int p7), .null, (.ref o9), (.ref o10)] ∧ Z.Warmed39 U.vm ∧ U.heap = h0) (fun _ _ _ _ _ => True) (fun _ U o U' => ∃ v L, o = .returned v ∧ Q11N Z o0 o1 p2 o3 o4 o5 p6 p7 o9 o10 u2 u5 u10 u15 u20 u25 u30 u35 u40 u45 h0 n0 v U'.heap L ∧ FrameEnd U o U' L ({ frames := 2, cells := 0, slots := 0, locals := 24 } : Room).cells ({ frames := 2, cells := 0, slots := 0, locals := 24 } : Room).slots) := by
  refine MetFree.of_bodySF (plainFor_of_name pn_11) hisR ?_
  intro p e s m args below meth c s₁ Bd hml0 hP hK
  obtain ⟨rfl, hZ, hh⟩ := hP
  have hx := Bd.exec
  have hby := Bd.bytes
  have hml : c.maxLocals = 11 := hml0
  have hown : s.vm.findClass "com/example/araucaria/araucaria/proto/ProtoField" = some m.cls := findClass_of_methodNamed Bd.named
  have hnm := (name_of_methodNamed Bd.named Bd.method).1
  have hrt := Bd.returns
  have hlk := Bd.notSynchronized
  have X0 : Stand p l e ({ frames := 2, cells := 0, slots := 0, locals := 24 } : Room) s m #[(.ref o0), (.ref o1), (.int p2), (.ref o3), (.ref o4), (.ref o5), (.int p6), (.int p7), .null, (.ref o9), (.ref o10)] below meth c s₁ [] 0 0 := Stand.of_body Bd
  have e0 : s₁.heap = h0 := by rw [← hh, Bd.state]; rfl
  have N0 := Fr.nil n0
  have lt_F_name_o0 : LT.lt (α := Nat) o0 h0.size := F_name_o0.lt
  have lt_E_o0 : LT.lt (α := Nat) o0 h0.size := E_o0.lt
  have lt_F_number_o0 : LT.lt (α := Nat) o0 h0.size := F_number_o0.lt
  have lt_F_position_o0 : LT.lt (α := Nat) o0 h0.size := F_position_o0.lt
  have lt_F_numberPosition_o0 : LT.lt (α := Nat) o0 h0.size := F_numberPosition_o0.lt
  have lt_F_type_o0 : LT.lt (α := Nat) o0 h0.size := F_type_o0.lt
  have lt_F_repeated_o0 : LT.lt (α := Nat) o0 h0.size := F_repeated_o0.lt
  have lt_F_optional_o0 : LT.lt (α := Nat) o0 h0.size := F_optional_o0.lt
  have lt_F_oneof_o0 : LT.lt (α := Nat) o0 h0.size := F_oneof_o0.lt
  have lt_F_behaviors_o0 : LT.lt (α := Nat) o0 h0.size := F_behaviors_o0.lt
  have lt_F_jsonName_o0 : LT.lt (α := Nat) o0 h0.size := F_jsonName_o0.lt
  show Go p e below s 0 0 (Q11N Z o0 o1 p2 o3 o4 o5 p6 p7 o9 o10 u2 u5 u10 u15 u20 u25 u30 u35 u40 u45 h0 n0) (s₁.setTop (entryFrame m #[(.ref o0), (.ref o1), (.int p2), (.ref o3), (.ref o4), (.ref o5), (.int p6), (.int p7), .null, (.ref o9), (.ref o10)] 11))
  rw [ef_11N m o0 o1 p2 o3 o4 o5 p6 p7 o9 o10]
  refine Go.pre (st' := s₁.setTop (mkF m 1 #[.val (.ref o0), .val (.ref o1), .val (.int p2), .val (.ref o3), .val (.ref o4), .val (.ref o5), .val (.int p6), .val (.int p7), .val .null, .val (.ref o9), .val (.ref o10)] [(.ref o0)])) (fun target kt => ?_) ?_
  · show Steps p.tables e below (s₁.setTop (mkF m 0 #[.val (.ref o0), .val (.ref o1), .val (.int p2), .val (.ref o3), .val (.ref o4), .val (.ref o5), .val (.int p6), .val (.int p7), .val .null, .val (.ref o9), .val (.ref o10)] [])) _
    refine XS.aloadN X0.here hx rfl (hb hby d11_0) rfl rfl ?_
    exact kt
  obtain ⟨_, _, ⟨T1, L1, k1, n1⟩, -, X1, ⟨Lc1, hQ1, l1, y1, z1⟩, st1⟩ := X0.specialBack hx (y := (⟨"java/lang/Record", "<init>", "()V"⟩ : MethodName)) rfl hown (mvT hZ (hw _ (List.mem_of_getElem? (i := 72) rfl))) (mvT hZ (hw _ (List.mem_of_getElem? (i := 57) rfl))) (mvT hZ (hw _ (List.mem_of_getElem? (i := 60) rfl))) (by decide) (backOf (W := 0) (rm10 l Z a0 hw [] o0 h0 n0 (by omega) ) hZ (hw _ (List.mem_of_getElem? (i := 60) rfl)) (hw _ (List.mem_of_getElem? (i := 59) rfl)) (by decide) (by decide)) (g := (mkF m 1 #[.val (.ref o0), .val (.ref o1), .val (.int p2), .val (.ref o3), .val (.ref o4), .val (.ref o5), .val (.int p6), .val (.int p7), .val .null, .val (.ref o9), .val (.ref o10)] [(.ref o0)])) rfl (by rw [hml]; rfl) (Steps.refl _) (a := o0) (argsL := []) (rest := []) (lenOf pd11N_0 rfl) rfl (by show 2 * 0 + _ ≤ _; exact Nat.le_of_eq rfl) (hb hby d11_1) (fun vm₁ hvm => ⟨rfl, e0, (by decide : 0 + 0 ≤ _), (by decide : 0 + 0 ≤ _)⟩)
  dsimp only [Pt.U, Pt.locs, Pt.cells, Pt.slots] at X1 l1 y1 z1 st1 hQ1
  subst l1 y1 z1
  obtain ⟨rfl, N1q, e1⟩ := hQ1
  have N1 := Fr.app N0 N1q
  refine Go.trans st1 ?_
  show Go p e below s _ _ _ (T1.setTop (mkF m 4 #[.val (.ref o0), .val (.ref o1), .val (.int p2), .val (.ref o3), .val (.ref o4), .val (.ref o5), .val (.int p6), .val (.int p7), .val .null, .val (.ref o9), .val (.ref o10)] []))
  refine Go.pre (st' := T1.setTop (mkF m 6 #[.val (.ref o0), .val (.ref o1), .val (.int p2), .val (.ref o3), .val (.ref o4), .val (.ref o5), .val (.int p6), .val (.int p7), .val .null, .val (.ref o9), .val (.ref o10)] [(.ref o1), (.ref o0)])) (fun target kt => ?_) ?_
  · show Steps p.tables e below (T1.setTop (mkF m 4 #[.val (.ref o0), .val (.ref o1), .val (.int p2), .val (.ref o3), .val (.ref o4), .val (.ref o5), .val (.int p6), .val (.int p7), .val .null, .val (.ref o9), .val (.ref o10)] [])) _
    refine XS.aloadN X1.here hx rfl (hb hby d11_4) rfl rfl ?_
    show Steps p.tables e below (T1.setTop (mkF m 5 #[.val (.ref o0), .val (.ref o1), .val (.int p2), .val (.ref o3), .val (.ref o4), .val (.ref o5), .val (.int p6), .val (.int p7), .val .null, .val (.ref o9), .val (.ref o10)] [(.ref o0)])) _
    refine XS.aloadN X1.here hx rfl (hb hby d11_5) rfl rfl ?_
    exact kt
  obtain ⟨T3, h3, X3, e3, W3, st3⟩ := putF X1 hx hZ hown (host := "") (Or.inl (hw _ (List.mem_of_getElem? (i := 73) rfl))) Via.refl e1 F_name_o0 E_o0 (Or.inr ⟨(hw _ (List.mem_of_getElem? (i := 74) rfl)), rfl, hnm⟩) (hw _ (List.mem_of_getElem? (i := 67) rfl)) (ty := (.object "java/lang/String")) (by decide) rfl rfl (g := (mkF m 6 #[.val (.ref o0), .val (.ref o1), .val (.int p2), .val (.ref o3), .val (.ref o4), .val (.ref o5), .val (.int p6), .val (.int p7), .val .null, .val (.ref o9), .val (.ref o10)] [(.ref o1), (.ref o0)])) rfl rfl (hb hby d11_6)
  have sz3 : h0.size ≤ h3.size := (Keep.of_wr W3).1
  have Y4 : Fld Z h3 o0 "com/example/araucaria/araucaria/proto/ProtoField" "name" "Ljava/lang/String;" (.ref o1) := F_name_o0.same W3
  have N3 := Fr.snoc X3 N1 (by omega)
  refine Go.pre st3 ?_
  show Go p e below s _ _ _ (T3.setTop (mkF m 9 #[.val (.ref o0), .val (.ref o1), .val (.int p2), .val (.ref o3), .val (.ref o4), .val (.ref o5), .val (.int p6), .val (.int p7), .val .null, .val (.ref o9), .val (.ref o10)] []))
  refine Go.pre (st' := T3.setTop (mkF m 11 #[.val (.ref o0), .val (.ref o1), .val (.int p2), .val (.ref o3), .val (.ref o4), .val (.ref o5), .val (.int p6), .val (.int p7), .val .null, .val (.ref o9), .val (.ref o10)] [(.int p2), (.ref o0)])) (fun target kt => ?_) ?_
  · show Steps p.tables e below (T3.setTop (mkF m 9 #[.val (.ref o0), .val (.ref o1), .val (.int p2), .val (.ref o3), .val (.ref o4), .val (.ref o5), .val (.int p6), .val (.int p7), .val .null, .val (.ref o9), .val (.ref o10)] [])) _
    refine XS.aloadN X3.here hx rfl (hb hby d11_9) rfl rfl ?_
    show Steps p.tables e below (T3.setTop (mkF m 10 #[.val (.ref o0), .val (.ref o1), .val (.int p2), .val (.ref o3), .val (.ref o4), .val (.ref o5), .val (.int p6), .val (.int p7), .val .null, .val (.ref o9), .val (.ref o10)] [(.ref o0)])) _
    refine XS.iloadN X3.here hx rfl (hb hby d11_10) rfl ?_
    exact kt
  have Y6 : Fld Z h3 o0 "com/example/araucaria/araucaria/proto/ProtoField" "number" "I" u5 := (F_number_o0.other W3 (Or.inr (slot_ne (Or.inr (hw _ (List.mem_of_getElem? (i := 76) rfl))) (Or.inr (hw _ (List.mem_of_getElem? (i := 74) rfl))) (by decide) (t := .int) (t' := (.object "java/lang/String")) (by decide) (by decide))))
  have Y7 : Exa Z h3 o0 "com/example/araucaria/araucaria/proto/ProtoField" := (E_o0.wr W3)
  obtain ⟨T8, h8, X8, e8, W8, st8⟩ := putF X3 hx hZ hown (host := "") (Or.inl (hw _ (List.mem_of_getElem? (i := 75) rfl))) Via.refl e3 Y6 Y7 (Or.inr ⟨(hw _ (List.mem_of_getElem? (i := 76) rfl)), rfl, hnm⟩) (hw _ (List.mem_of_getElem? (i := 67) rfl)) (ty := .int) (by decide) rfl rfl (g := (mkF m 11 #[.val (.ref o0), .val (.ref o1), .val (.int p2), .val (.ref o3), .val (.ref o4), .val (.ref o5), .val (.int p6), .val (.int p7), .val .null, .val (.ref o9), .val (.ref o10)] [(.int p2), (.ref o0)])) rfl rfl (hb hby d11_11)
  have sz8 : h3.size ≤ h8.size := (Keep.of_wr W8).1
  have Y9 : Fld Z h8 o0 "com/example/araucaria/araucaria/proto/ProtoField" "number" "I" (.int p2) := Y6.same W8
  have N8 := Fr.snoc X8 N3 (by omega)
  refine Go.pre st8 ?_
  show Go p e below s _ _ _ (T8.setTop (mkF m 14 #[.val (.ref o0), .val (.ref o1), .val (.int p2), .val (.ref o3), .val (.ref o4), .val (.ref o5), .val (.int p6), .val (.int p7), .val .null, .val (.ref o9), .val (.ref o10)] []))
  refine Go.pre (st' := T8.setTop (mkF m 16 #[.val (.ref o0), .val (.ref o1), .val (.int p2), .val (.ref o3), .val (.ref o4), .val (.ref o5), .val (.int p6), .val (.int p7), .val .null, .val (.ref o9), .val (.ref o10)] [(.ref o3), (.ref o0)])) (fun target kt => ?_) ?_
  · show Steps p.tables e below (T8.setTop (mkF m 14 #[.val (.ref o0), .val (.ref o1), .val (.int p2), .val (.ref o3), .val (.ref o4), .val (.ref o5), .val (.int p6), .val (.int p7), .val .null, .val (.ref o9), .val (.ref o10)] [])) _
    refine XS.aloadN X8.here hx rfl (hb hby d11_14) rfl rfl ?_
    show Steps p.tables e below (T8.setTop (mkF m 15 #[.val (.ref o0), .val (.ref o1), .val (.int p2), .val (.ref o3), .val (.ref o4), .val (.ref o5), .val (.int p6), .val (.int p7), .val .null, .val (.ref o9), .val (.ref o10)] [(.ref o0)])) _
    refine XS.aloadN X8.here hx rfl (hb hby d11_15) rfl rfl ?_
    exact kt
  have Y11 : Fld Z h8 o0 "com/example/araucaria/araucaria/proto/ProtoField" "position" "Lcom/example/araucaria/araucaria/proto/SourcePosition;" u10 := ((F_position_o0.other W3 (Or.inr (slot_ne (Or.inr (hw _ (List.mem_of_getElem? (i := 78) rfl))) (Or.inr (hw _ (List.mem_of_getElem? (i := 74) rfl))) (by decide) (t := (.object "com/example/araucaria/araucaria/proto/SourcePosition")) (t' := (.object "java/lang/String")) (by decide) (by decide)))).other W8 (Or.inr (slot_ne (Or.inr (hw _ (List.mem_of_getElem? (i := 78) rfl))) (Or.inr (hw _ (List.mem_of_getElem? (i := 76) rfl))) (by decide) (t := (.object "com/example/araucaria/araucaria/proto/SourcePosition")) (t' := .int) (by decide) (by decide))))
  have Y12 : Exa Z h8 o0 "com/example/araucaria/araucaria/proto/ProtoField" := (Y7.wr W8)
  obtain ⟨T13, h13, X13, e13, W13, st13⟩ := putF X8 hx hZ hown (host := "") (Or.inl (hw _ (List.mem_of_getElem? (i := 77) rfl))) Via.refl e8 Y11 Y12 (Or.inr ⟨(hw _ (List.mem_of_getElem? (i := 78) rfl)), rfl, hnm⟩) (hw _ (List.mem_of_getElem? (i := 67) rfl)) (ty := (.object "com/example/araucaria/araucaria/proto/SourcePosition")) (by decide) rfl rfl (g := (mkF m 16 #[.val (.ref o0), .val (.ref o1), .val (.int p2), .val (.ref o3), .val (.ref o4), .val (.ref o5), .val (.int p6), .val (.int p7), .val .null, .val (.ref o9), .val (.ref o10)] [(.ref o3), (.ref o0)])) rfl rfl (hb hby d11_16)
  have sz13 : h8.size ≤ h13.size := (Keep.of_wr W13).1
  have Y14 : Fld Z h13 o0 "com/example/araucaria/araucaria/proto/ProtoField" "position" "Lcom/example/araucaria/araucaria/proto/SourcePosition;" (.ref o3) := Y11.same W13
  have N13 := Fr.snoc X13 N8 (by omega)
  refine Go.pre st13 ?_
  show Go p e below s _ _ _ (T13.setTop (mkF m 19 #[.val (.ref o0), .val (.ref o1), .val (.int p2), .val (.ref o3), .val (.ref o4), .val (.ref o5), .val (.int p6), .val (.int p7), .val .null, .val (.ref o9), .val (.ref o10)] []))
  refine Go.pre (st' := T13.setTop (mkF m 22 #[.val (.ref o0), .val (.ref o1), .val (.int p2), .val (.ref o3), .val (.ref o4), .val (.ref o5), .val (.int p6), .val (.int p7), .val .null, .val (.ref o9), .val (.ref o10)] [(.ref o4), (.ref o0)])) (fun target kt => ?_) ?_
  · show Steps p.tables e below (T13.setTop (mkF m 19 #[.val (.ref o0), .val (.ref o1), .val (.int p2), .val (.ref o3), .val (.ref o4), .val (.ref o5), .val (.int p6), .val (.int p7), .val .null, .val (.ref o9), .val (.ref o10)] [])) _
    refine XS.aloadN X13.here hx rfl (hb hby d11_19) rfl rfl ?_
    show Steps p.tables e below (T13.setTop (mkF m 20 #[.val (.ref o0), .val (.ref o1), .val (.int p2), .val (.ref o3), .val (.ref o4), .val (.ref o5), .val (.int p6), .val (.int p7), .val .null, .val (.ref o9), .val (.ref o10)] [(.ref o0)])) _
    refine XS.aload X13.here hx rfl (hb hby d11_20) rfl rfl ?_
    exact kt
  have Y16 : Fld Z h13 o0 "com/example/araucaria/araucaria/proto/ProtoField" "numberPosition" "Lcom/example/araucaria/araucaria/proto/SourcePosition;" u15 := (((F_numberPosition_o0.other W3 (Or.inr (slot_ne (Or.inr (hw _ (List.mem_of_getElem? (i := 80) rfl))) (Or.inr (hw _ (List.mem_of_getElem? (i := 74) rfl))) (by decide) (t := (.object "com/example/araucaria/araucaria/proto/SourcePosition")) (t' := (.object "java/lang/String")) (by decide) (by decide)))).other W8 (Or.inr (slot_ne (Or.inr (hw _ (List.mem_of_getElem? (i := 80) rfl))) (Or.inr (hw _ (List.mem_of_getElem? (i := 76) rfl))) (by decide) (t := (.object "com/example/araucaria/araucaria/proto/SourcePosition")) (t' := .int) (by decide) (by decide)))).other W13 (Or.inr (slot_ne (Or.inr (hw _ (List.mem_of_getElem? (i := 80) rfl))) (Or.inr (hw _ (List.mem_of_getElem? (i := 78) rfl))) (by decide) (t := (.object "com/example/araucaria/araucaria/proto/SourcePosition")) (t' := (.object "com/example/araucaria/araucaria/proto/SourcePosition")) (by decide) (by decide))))
  have Y17 : Exa Z h13 o0 "com/example/araucaria/araucaria/proto/ProtoField" := (Y12.wr W13)
  obtain ⟨T18, h18, X18, e18, W18, st18⟩ := putF X13 hx hZ hown (host := "") (Or.inl (hw _ (List.mem_of_getElem? (i := 79) rfl))) Via.refl e13 Y16 Y17 (Or.inr ⟨(hw _ (List.mem_of_getElem? (i := 80) rfl)), rfl, hnm⟩) (hw _ (List.mem_of_getElem? (i := 67) rfl)) (ty := (.object "com/example/araucaria/araucaria/proto/SourcePosition")) (by decide) rfl rfl (g := (mkF m 22 #[.val (.ref o0), .val (.ref o1), .val (.int p2), .val (.ref o3), .val (.ref o4), .val (.ref o5), .val (.int p6), .val (.int p7), .val .null, .val (.ref o9), .val (.ref o10)] [(.ref o4), (.ref o0)])) rfl rfl (hb hby d11_22)
  have sz18 : h13.size ≤ h18.size := (Keep.of_wr W18).1
  have Y19 : Fld Z h18 o0 "com/example/araucaria/araucaria/proto/ProtoField" "numberPosition" "Lcom/example/araucaria/araucaria/proto/SourcePosition;" (.ref o4) := Y16.same W18
  have N18 := Fr.snoc X18 N13 (by omega)
  refine Go.pre st18 ?_
  show Go p e below s _ _ _ (T18.setTop (mkF m 25 #[.val (.ref o0), .val (.ref o1), .val (.int p2), .val (.ref o3), .val (.ref o4), .val (.ref o5), .val (.int p6), .val (.int p7), .val .null, .val (.ref o9), .val (.ref o10)] []))
  refine Go.pre (st' := T18.setTop (mkF m 28 #[.val (.ref o0), .val (.ref o1), .val (.int p2), .val (.ref o3), .val (.ref o4), .val (.ref o5), .val (.int p6), .val (.int p7), .val .null, .val (.ref o9), .val (.ref o10)] [(.ref o5), (.ref o0)])) (fun target kt => ?_) ?_
  · show Steps p.tables e below (T18.setTop (mkF m 25 #[.val (.ref o0), .val (.ref o1), .val (.int p2), .val (.ref o3), .val (.ref o4), .val (.ref o5), .val (.int p6), .val (.int p7), .val .null, .val (.ref o9), .val (.ref o10)] [])) _
    refine XS.aloadN X18.here hx rfl (hb hby d11_25) rfl rfl ?_
    show Steps p.tables e below (T18.setTop (mkF m 26 #[.val (.ref o0), .val (.ref o1), .val (.int p2), .val (.ref o3), .val (.ref o4), .val (.ref o5), .val (.int p6), .val (.int p7), .val .null, .val (.ref o9), .val (.ref o10)] [(.ref o0)])) _
    refine XS.aload X18.here hx rfl (hb hby d11_26) rfl rfl ?_
    exact kt
  have Y21 : Fld Z h18 o0 "com/example/araucaria/araucaria/proto/ProtoField" "type" "Ljava/lang/String;" u20 := ((((F_type_o0.other W3 (Or.inr (slot_ne (Or.inr (hw _ (List.mem_of_getElem? (i := 82) rfl))) (Or.inr (hw _ (List.mem_of_getElem? (i := 74) rfl))) (by decide) (t := (.object "java/lang/String")) (t' := (.object "java/lang/String")) (by decide) (by decide)))).other W8 (Or.inr (slot_ne (Or.inr (hw _ (List.mem_of_getElem? (i := 82) rfl))) (Or.inr (hw _ (List.mem_of_getElem? (i := 76) rfl))) (by decide) (t := (.object "java/lang/String")) (t' := .int) (by decide) (by decide)))).other W13 (Or.inr (slot_ne (Or.inr (hw _ (List.mem_of_getElem? (i := 82) rfl))) (Or.inr (hw _ (List.mem_of_getElem? (i := 78) rfl))) (by decide) (t := (.object "java/lang/String")) (t' := (.object "com/example/araucaria/araucaria/proto/SourcePosition")) (by decide) (by decide)))).other W18 (Or.inr (slot_ne (Or.inr (hw _ (List.mem_of_getElem? (i := 82) rfl))) (Or.inr (hw _ (List.mem_of_getElem? (i := 80) rfl))) (by decide) (t := (.object "java/lang/String")) (t' := (.object "com/example/araucaria/araucaria/proto/SourcePosition")) (by decide) (by decide))))
  have Y22 : Exa Z h18 o0 "com/example/araucaria/araucaria/proto/ProtoField" := (Y17.wr W18)
  obtain ⟨T23, h23, X23, e23, W23, st23⟩ := putF X18 hx hZ hown (host := "") (Or.inl (hw _ (List.mem_of_getElem? (i := 81) rfl))) Via.refl e18 Y21 Y22 (Or.inr ⟨(hw _ (List.mem_of_getElem? (i := 82) rfl)), rfl, hnm⟩) (hw _ (List.mem_of_getElem? (i := 67) rfl)) (ty := (.object "java/lang/String")) (by decide) rfl rfl (g := (mkF m 28 #[.val (.ref o0), .val (.ref o1), .val (.int p2), .val (.ref o3), .val (.ref o4), .val (.ref o5), .val (.int p6), .val (.int p7), .val .null, .val (.ref o9), .val (.ref o10)] [(.ref o5), (.ref o0)])) rfl rfl (hb hby d11_28)
  have sz23 : h18.size ≤ h23.size := (Keep.of_wr W23).1
  have Y24 : Fld Z h23 o0 "com/example/araucaria/araucaria/proto/ProtoField" "type" "Ljava/lang/String;" (.ref o5) := Y21.same W23
  have N23 := Fr.snoc X23 N18 (by omega)
  refine Go.pre st23 ?_
  show Go p e below s _ _ _ (T23.setTop (mkF m 31 #[.val (.ref o0), .val (.ref o1), .val (.int p2), .val (.ref o3), .val (.ref o4), .val (.ref o5), .val (.int p6), .val (.int p7), .val .null, .val (.ref o9), .val (.ref o10)] []))
  refine Go.pre (st' := T23.setTop (mkF m 34 #[.val (.ref o0), .val (.ref o1), .val (.int p2), .val (.ref o3), .val (.ref o4), .val (.ref o5), .val (.int p6), .val (.int p7), .val .null, .val (.ref o9), .val (.ref o10)] [(.int p6), (.ref o0)])) (fun target kt => ?_) ?_
  · show Steps p.tables e below (T23.setTop (mkF m 31 #[.val (.ref o0), .val (.ref o1), .val (.int p2), .val (.ref o3), .val (.ref o4), .val (.ref o5), .val (.int p6), .val (.int p7), .val .null, .val (.ref o9), .val (.ref o10)] [])) _
    refine XS.aloadN X23.here hx rfl (hb hby d11_31) rfl rfl ?_
    show Steps p.tables e below (T23.setTop (mkF m 32 #[.val (.ref o0), .val (.ref o1), .val (.int p2), .val (.ref o3), .val (.ref o4), .val (.ref o5), .val (.int p6), .val (.int p7), .val .null, .val (.ref o9), .val (.ref o10)] [(.ref o0)])) _
    refine XS.iload X23.here hx rfl (hb hby d11_32) rfl ?_
    exact kt
  have Y26 : Fld Z h23 o0 "com/example/araucaria/araucaria/proto/ProtoField" "repeated" "Z" u25 := (((((F_repeated_o0.other W3 (Or.inr (slot_ne (Or.inr (hw _ (List.mem_of_getElem? (i := 84) rfl))) (Or.inr (hw _ (List.mem_of_getElem? (i := 74) rfl))) (by decide) (t := .boolean) (t' := (.object "java/lang/String")) (by decide) (by decide)))).other W8 (Or.inr (slot_ne (Or.inr (hw _ (List.mem_of_getElem? (i := 84) rfl))) (Or.inr (hw _ (List.mem_of_getElem? (i := 76) rfl))) (by decide) (t := .boolean) (t' := .int) (by decide) (by decide)))).other W13 (Or.inr (slot_ne (Or.inr (hw _ (List.mem_of_getElem? (i := 84) rfl))) (Or.inr (hw _ (List.mem_of_getElem? (i := 78) rfl))) (by decide) (t := .boolean) (t' := (.object "com/example/araucaria/araucaria/proto/SourcePosition")) (by decide) (by decide)))).other W18 (Or.inr (slot_ne (Or.inr (hw _ (List.mem_of_getElem? (i := 84) rfl))) (Or.inr (hw _ (List.mem_of_getElem? (i := 80) rfl))) (by decide) (t := .boolean) (t' := (.object "com/example/araucaria/araucaria/proto/SourcePosition")) (by decide) (by decide)))).other W23 (Or.inr (slot_ne (Or.inr (hw _ (List.mem_of_getElem? (i := 84) rfl))) (Or.inr (hw _ (List.mem_of_getElem? (i := 82) rfl))) (by decide) (t := .boolean) (t' := (.object "java/lang/String")) (by decide) (by decide))))
  have Y27 : Exa Z h23 o0 "com/example/araucaria/araucaria/proto/ProtoField" := (Y22.wr W23)
  obtain ⟨T28, h28, X28, e28, W28, st28⟩ := putFN X23 hx hZ hown (hw _ (List.mem_of_getElem? (i := 83) rfl)) Via.refl e23 Y26 Y27 (Or.inr ⟨(hw _ (List.mem_of_getElem? (i := 84) rfl)), rfl, hnm⟩) (hw _ (List.mem_of_getElem? (i := 67) rfl)) (ty := .boolean) (v' := (.int (p6 &&& 1))) (by decide) rfl (fits_nar_bool _) (g := (mkF m 34 #[.val (.ref o0), .val (.ref o1), .val (.int p2), .val (.ref o3), .val (.ref o4), .val (.ref o5), .val (.int p6), .val (.int p7), .val .null, .val (.ref o9), .val (.ref o10)] [(.int p6), (.ref o0)])) rfl rfl (hb hby d11_34)
  have sz28 : h23.size ≤ h28.size := (Keep.of_wr W28).1
  have Y29 : Fld Z h28 o0 "com/example/araucaria/araucaria/proto/ProtoField" "repeated" "Z" (.int (p6 &&& 1)) := Y26.same W28
  have N28 := Fr.snoc X28 N23 (by omega)
  refine Go.pre st28 ?_
  show Go p e below s _ _ _ (T28.setTop (mkF m 37 #[.val (.ref o0), .val (.ref o1), .val (.int p2), .val (.ref o3), .val (.ref o4), .val (.ref o5), .val (.int p6), .val (.int p7), .val .null, .val (.ref o9), .val (.ref o10)] []))
  refine Go.pre (st' := T28.setTop (mkF m 40 #[.val (.ref o0), .val (.ref o1), .val (.int p2), .val (.ref o3), .val (.ref o4), .val (.ref o5), .val (.int p6), .val (.int p7), .val .null, .val (.ref o9), .val (.ref o10)] [(.int p7), (.ref o0)])) (fun target kt => ?_) ?_
  · show Steps p.tables e below (T28.setTop (mkF m 37 #[.val (.ref o0), .val (.ref o1), .val (.int p2), .val (.ref o3), .val (.ref o4), .val (.ref o5), .val (.int p6), .val (.int p7), .val .null, .val (.ref o9), .val (.ref o10)] [])) _
    refine XS.aloadN X28.here hx rfl (hb hby d11_37) rfl rfl ?_
    show Steps p.tables e below (T28.setTop (mkF m 38 #[.val (.ref o0), .val (.ref o1), .val (.int p2), .val (.ref o3), .val (.ref o4), .val (.ref o5), .val (.int p6), .val (.int p7), .val .null, .val (.ref o9), .val (.ref o10)] [(.ref o0)])) _
    refine XS.iload X28.here hx rfl (hb hby d11_38) rfl ?_
    exact kt
  have Y31 : Fld Z h28 o0 "com/example/araucaria/araucaria/proto/ProtoField" "optional" "Z" u30 := ((((((F_optional_o0.other W3 (Or.inr (slot_ne (Or.inr (hw _ (List.mem_of_getElem? (i := 86) rfl))) (Or.inr (hw _ (List.mem_of_getElem? (i := 74) rfl))) (by decide) (t := .boolean) (t' := (.object "java/lang/String")) (by decide) (by decide)))).other W8 (Or.inr (slot_ne (Or.inr (hw _ (List.mem_of_getElem? (i := 86) rfl))) (Or.inr (hw _ (List.mem_of_getElem? (i := 76) rfl))) (by decide) (t := .boolean) (t' := .int) (by decide) (by decide)))).other W13 (Or.inr (slot_ne (Or.inr (hw _ (List.mem_of_getElem? (i := 86) rfl))) (Or.inr (hw _ (List.mem_of_getElem? (i := 78) rfl))) (by decide) (t := .boolean) (t' := (.object "com/example/araucaria/araucaria/proto/SourcePosition")) (by decide) (by decide)))).other W18 (Or.inr (slot_ne (Or.inr (hw _ (List.mem_of_getElem? (i := 86) rfl))) (Or.inr (hw _ (List.mem_of_getElem? (i := 80) rfl))) (by decide) (t := .boolean) (t' := (.object "com/example/araucaria/araucaria/proto/SourcePosition")) (by decide) (by decide)))).other W23 (Or.inr (slot_ne (Or.inr (hw _ (List.mem_of_getElem? (i := 86) rfl))) (Or.inr (hw _ (List.mem_of_getElem? (i := 82) rfl))) (by decide) (t := .boolean) (t' := (.object "java/lang/String")) (by decide) (by decide)))).other W28 (Or.inr (slot_ne (Or.inr (hw _ (List.mem_of_getElem? (i := 86) rfl))) (Or.inr (hw _ (List.mem_of_getElem? (i := 84) rfl))) (by decide) (t := .boolean) (t' := .boolean) (by decide) (by decide))))
  have Y32 : Exa Z h28 o0 "com/example/araucaria/araucaria/proto/ProtoField" := (Y27.wr W28)
  obtain ⟨T33, h33, X33, e33, W33, st33⟩ := putFN X28 hx hZ hown (hw _ (List.mem_of_getElem? (i := 85) rfl)) Via.refl e28 Y31 Y32 (Or.inr ⟨(hw _ (List.mem_of_getElem? (i := 86) rfl)), rfl, hnm⟩) (hw _ (List.mem_of_getElem? (i := 67) rfl)) (ty := .boolean) (v' := (.int (p7 &&& 1))) (by decide) rfl (fits_nar_bool _) (g := (mkF m 40 #[.val (.ref o0), .val (.ref o1), .val (.int p2), .val (.ref o3), .val (.ref o4), .val (.ref o5), .val (.int p6), .val (.int p7), .val .null, .val (.ref o9), .val (.ref o10)] [(.int p7), (.ref o0)])) rfl rfl (hb hby d11_40)
  have sz33 : h28.size ≤ h33.size := (Keep.of_wr W33).1
  have Y34 : Fld Z h33 o0 "com/example/araucaria/araucaria/proto/ProtoField" "optional" "Z" (.int (p7 &&& 1)) := Y31.same W33
  have N33 := Fr.snoc X33 N28 (by omega)
  refine Go.pre st33 ?_
  show Go p e below s _ _ _ (T33.setTop (mkF m 43 #[.val (.ref o0), .val (.ref o1), .val (.int p2), .val (.ref o3), .val (.ref o4), .val (.ref o5), .val (.int p6), .val (.int p7), .val .null, .val (.ref o9), .val (.ref o10)] []))
  refine Go.pre (st' := T33.setTop (mkF m 46 #[.val (.ref o0), .val (.ref o1), .val (.int p2), .val (.ref o3), .val (.ref o4), .val (.ref o5), .val (.int p6), .val (.int p7), .val .null, .val (.ref o9), .val (.ref o10)] [.null, (.ref o0)])) (fun target kt => ?_) ?_
  · show Steps p.tables e below (T33.setTop (mkF m 43 #[.val (.ref o0), .val (.ref o1), .val (.int p2), .val (.ref o3), .val (.ref o4), .val (.ref o5), .val (.int p6), .val (.int p7), .val .null, .val (.ref o9), .val (.ref o10)] [])) _
    refine XS.aloadN X33.here hx rfl (hb hby d11_43) rfl rfl ?_
    show Steps p.tables e below (T33.setTop (mkF m 44 #[.val (.ref o0), .val (.ref o1), .val (.int p2), .val (.ref o3), .val (.ref o4), .val (.ref o5), .val (.int p6), .val (.int p7), .val .null, .val (.ref o9), .val (.ref o10)] [(.ref o0)])) _
    refine XS.aload X33.here hx rfl (hb hby d11_44) rfl rfl ?_
    exact kt
  have Y36 : Fld Z h33 o0 "com/example/araucaria/araucaria/proto/ProtoField" "oneof" "Ljava/lang/String;" u35 := (((((((F_oneof_o0.other W3 (Or.inr (slot_ne (Or.inr (hw _ (List.mem_of_getElem? (i := 88) rfl))) (Or.inr (hw _ (List.mem_of_getElem? (i := 74) rfl))) (by decide) (t := (.object "java/lang/String")) (t' := (.object "java/lang/String")) (by decide) (by decide)))).other W8 (Or.inr (slot_ne (Or.inr (hw _ (List.mem_of_getElem? (i := 88) rfl))) (Or.inr (hw _ (List.mem_of_getElem? (i := 76) rfl))) (by decide) (t := (.object "java/lang/String")) (t' := .int) (by decide) (by decide)))).other W13 (Or.inr (slot_ne (Or.inr (hw _ (List.mem_of_getElem? (i := 88) rfl))) (Or.inr (hw _ (List.mem_of_getElem? (i := 78) rfl))) (by decide) (t := (.object "java/lang/String")) (t' := (.object "com/example/araucaria/araucaria/proto/SourcePosition")) (by decide) (by decide)))).other W18 (Or.inr (slot_ne (Or.inr (hw _ (List.mem_of_getElem? (i := 88) rfl))) (Or.inr (hw _ (List.mem_of_getElem? (i := 80) rfl))) (by decide) (t := (.object "java/lang/String")) (t' := (.object "com/example/araucaria/araucaria/proto/SourcePosition")) (by decide) (by decide)))).other W23 (Or.inr (slot_ne (Or.inr (hw _ (List.mem_of_getElem? (i := 88) rfl))) (Or.inr (hw _ (List.mem_of_getElem? (i := 82) rfl))) (by decide) (t := (.object "java/lang/String")) (t' := (.object "java/lang/String")) (by decide) (by decide)))).other W28 (Or.inr (slot_ne (Or.inr (hw _ (List.mem_of_getElem? (i := 88) rfl))) (Or.inr (hw _ (List.mem_of_getElem? (i := 84) rfl))) (by decide) (t := (.object "java/lang/String")) (t' := .boolean) (by decide) (by decide)))).other W33 (Or.inr (slot_ne (Or.inr (hw _ (List.mem_of_getElem? (i := 88) rfl))) (Or.inr (hw _ (List.mem_of_getElem? (i := 86) rfl))) (by decide) (t := (.object "java/lang/String")) (t' := .boolean) (by decide) (by decide))))
  have Y37 : Exa Z h33 o0 "com/example/araucaria/araucaria/proto/ProtoField" := (Y32.wr W33)
  obtain ⟨T38, h38, X38, e38, W38, st38⟩ := putF X33 hx hZ hown (host := "") (Or.inl (hw _ (List.mem_of_getElem? (i := 87) rfl))) Via.refl e33 Y36 Y37 (Or.inr ⟨(hw _ (List.mem_of_getElem? (i := 88) rfl)), rfl, hnm⟩) (hw _ (List.mem_of_getElem? (i := 67) rfl)) (ty := (.object "java/lang/String")) (by decide) rfl rfl (g := (mkF m 46 #[.val (.ref o0), .val (.ref o1), .val (.int p2), .val (.ref o3), .val (.ref o4), .val (.ref o5), .val (.int p6), .val (.int p7), .val .null, .val (.ref o9), .val (.ref o10)] [.null, (.ref o0)])) rfl rfl (hb hby d11_46)
  have sz38 : h33.size ≤ h38.size := (Keep.of_wr W38).1
  have Y39 : Fld Z h38 o0 "com/example/araucaria/araucaria/proto/ProtoField" "oneof" "Ljava/lang/String;" .null := Y36.same W38
  have N38 := Fr.snoc X38 N33 (by omega)
  refine Go.pre st38 ?_
  show Go p e below s _ _ _ (T38.setTop (mkF m 49 #[.val (.ref o0), .val (.ref o1), .val (.int p2), .val (.ref o3), .val (.ref o4), .val (.ref o5), .val (.int p6), .val (.int p7), .val .null, .val (.ref o9), .val (.ref o10)] []))
  refine Go.pre (st' := T38.setTop (mkF m 52 #[.val (.ref o0), .val (.ref o1), .val (.int p2), .val (.ref o3), .val (.ref o4), .val (.ref o5), .val (.int p6), .val (.int p7), .val .null, .val (.ref o9), .val (.ref o10)] [(.ref o9), (.ref o0)])) (fun target kt => ?_) ?_
  · show Steps p.tables e below (T38.setTop (mkF m 49 #[.val (.ref o0), .val (.ref o1), .val (.int p2), .val (.ref o3), .val (.ref o4), .val (.ref o5), .val (.int p6), .val (.int p7), .val .null, .val (.ref o9), .val (.ref o10)] [])) _
    refine XS.aloadN X38.here hx rfl (hb hby d11_49) rfl rfl ?_
    show Steps p.tables e below (T38.setTop (mkF m 50 #[.val (.ref o0), .val (.ref o1), .val (.int p2), .val (.ref o3), .val (.ref o4), .val (.ref o5), .val (.int p6), .val (.int p7), .val .null, .val (.ref o9), .val (.ref o10)] [(.ref o0)])) _
    refine XS.aload X38.here hx rfl (hb hby d11_50) rfl rfl ?_
    exact kt
  have Y41 : Fld Z h38 o0 "com/example/araucaria/araucaria/proto/ProtoField" "behaviors" "Ljava/util/List;" u40 := ((((((((F_behaviors_o0.other W3 (Or.inr (slot_ne (Or.inr (hw _ (List.mem_of_getElem? (i := 90) rfl))) (Or.inr (hw _ (List.mem_of_getElem? (i := 74) rfl))) (by decide) (t := (.object "java/util/List")) (t' := (.object "java/lang/String")) (by decide) (by decide)))).other W8 (Or.inr (slot_ne (Or.inr (hw _ (List.mem_of_getElem? (i := 90) rfl))) (Or.inr (hw _ (List.mem_of_getElem? (i := 76) rfl))) (by decide) (t := (.object "java/util/List")) (t' := .int) (by decide) (by decide)))).other W13 (Or.inr (slot_ne (Or.inr (hw _ (List.mem_of_getElem? (i := 90) rfl))) (Or.inr (hw _ (List.mem_of_getElem? (i := 78) rfl))) (by decide) (t := (.object "java/util/List")) (t' := (.object "com/example/araucaria/araucaria/proto/SourcePosition")) (by decide) (by decide)))).other W18 (Or.inr (slot_ne (Or.inr (hw _ (List.mem_of_getElem? (i := 90) rfl))) (Or.inr (hw _ (List.mem_of_getElem? (i := 80) rfl))) (by decide) (t := (.object "java/util/List")) (t' := (.object "com/example/araucaria/araucaria/proto/SourcePosition")) (by decide) (by decide)))).other W23 (Or.inr (slot_ne (Or.inr (hw _ (List.mem_of_getElem? (i := 90) rfl))) (Or.inr (hw _ (List.mem_of_getElem? (i := 82) rfl))) (by decide) (t := (.object "java/util/List")) (t' := (.object "java/lang/String")) (by decide) (by decide)))).other W28 (Or.inr (slot_ne (Or.inr (hw _ (List.mem_of_getElem? (i := 90) rfl))) (Or.inr (hw _ (List.mem_of_getElem? (i := 84) rfl))) (by decide) (t := (.object "java/util/List")) (t' := .boolean) (by decide) (by decide)))).other W33 (Or.inr (slot_ne (Or.inr (hw _ (List.mem_of_getElem? (i := 90) rfl))) (Or.inr (hw _ (List.mem_of_getElem? (i := 86) rfl))) (by decide) (t := (.object "java/util/List")) (t' := .boolean) (by decide) (by decide)))).other W38 (Or.inr (slot_ne (Or.inr (hw _ (List.mem_of_getElem? (i := 90) rfl))) (Or.inr (hw _ (List.mem_of_getElem? (i := 88) rfl))) (by decide) (t := (.object "java/util/List")) (t' := (.object "java/lang/String")) (by decide) (by decide))))
  have Y42 : Exa Z h38 o0 "com/example/araucaria/araucaria/proto/ProtoField" := (Y37.wr W38)
  obtain ⟨T43, h43, X43, e43, W43, st43⟩ := putF X38 hx hZ hown (host := "") (Or.inl (hw _ (List.mem_of_getElem? (i := 89) rfl))) Via.refl e38 Y41 Y42 (Or.inr ⟨(hw _ (List.mem_of_getElem? (i := 90) rfl)), rfl, hnm⟩) (hw _ (List.mem_of_getElem? (i := 67) rfl)) (ty := (.object "java/util/List")) (by decide) rfl rfl (g := (mkF m 52 #[.val (.ref o0), .val (.ref o1), .val (.int p2), .val (.ref o3), .val (.ref o4), .val (.ref o5), .val (.int p6), .val (.int p7), .val .null, .val (.ref o9), .val (.ref o10)] [(.ref o9), (.ref o0)])) rfl rfl (hb hby d11_52)
  have sz43 : h38.size ≤ h43.size := (Keep.of_wr W43).1
  have Y44 : Fld Z h43 o0 "com/example/araucaria/araucaria/proto/ProtoField" "behaviors" "Ljava/util/List;" (.ref o9) := Y41.same W43
  have N43 := Fr.snoc X43 N38 (by omega)
  refine Go.pre st43 ?_
  show Go p e below s _ _ _ (T43.setTop (mkF m 55 #[.val (.ref o0), .val (.ref o1), .val (.int p2), .val (.ref o3), .val (.ref o4), .val (.ref o5), .val (.int p6), .val (.int p7), .val .null, .val (.ref o9), .val (.ref o10)] []))
  refine Go.pre (st' := T43.setTop (mkF m 58 #[.val (.ref o0), .val (.ref o1), .val (.int p2), .val (.ref o3), .val (.ref o4), .val (.ref o5), .val (.int p6), .val (.int p7), .val .null, .val (.ref o9), .val (.ref o10)] [(.ref o10), (.ref o0)])) (fun target kt => ?_) ?_
  · show Steps p.tables e below (T43.setTop (mkF m 55 #[.val (.ref o0), .val (.ref o1), .val (.int p2), .val (.ref o3), .val (.ref o4), .val (.ref o5), .val (.int p6), .val (.int p7), .val .null, .val (.ref o9), .val (.ref o10)] [])) _
    refine XS.aloadN X43.here hx rfl (hb hby d11_55) rfl rfl ?_
    show Steps p.tables e below (T43.setTop (mkF m 56 #[.val (.ref o0), .val (.ref o1), .val (.int p2), .val (.ref o3), .val (.ref o4), .val (.ref o5), .val (.int p6), .val (.int p7), .val .null, .val (.ref o9), .val (.ref o10)] [(.ref o0)])) _
    refine XS.aload X43.here hx rfl (hb hby d11_56) rfl rfl ?_
    exact kt
  have Y46 : Fld Z h43 o0 "com/example/araucaria/araucaria/proto/ProtoField" "jsonName" "Ljava/lang/String;" u45 := (((((((((F_jsonName_o0.other W3 (Or.inr (slot_ne (Or.inr (hw _ (List.mem_of_getElem? (i := 92) rfl))) (Or.inr (hw _ (List.mem_of_getElem? (i := 74) rfl))) (by decide) (t := (.object "java/lang/String")) (t' := (.object "java/lang/String")) (by decide) (by decide)))).other W8 (Or.inr (slot_ne (Or.inr (hw _ (List.mem_of_getElem? (i := 92) rfl))) (Or.inr (hw _ (List.mem_of_getElem? (i := 76) rfl))) (by decide) (t := (.object "java/lang/String")) (t' := .int) (by decide) (by decide)))).other W13 (Or.inr (slot_ne (Or.inr (hw _ (List.mem_of_getElem? (i := 92) rfl))) (Or.inr (hw _ (List.mem_of_getElem? (i := 78) rfl))) (by decide) (t := (.object "java/lang/String")) (t' := (.object "com/example/araucaria/araucaria/proto/SourcePosition")) (by decide) (by decide)))).other W18 (Or.inr (slot_ne (Or.inr (hw _ (List.mem_of_getElem? (i := 92) rfl))) (Or.inr (hw _ (List.mem_of_getElem? (i := 80) rfl))) (by decide) (t := (.object "java/lang/String")) (t' := (.object "com/example/araucaria/araucaria/proto/SourcePosition")) (by decide) (by decide)))).other W23 (Or.inr (slot_ne (Or.inr (hw _ (List.mem_of_getElem? (i := 92) rfl))) (Or.inr (hw _ (List.mem_of_getElem? (i := 82) rfl))) (by decide) (t := (.object "java/lang/String")) (t' := (.object "java/lang/String")) (by decide) (by decide)))).other W28 (Or.inr (slot_ne (Or.inr (hw _ (List.mem_of_getElem? (i := 92) rfl))) (Or.inr (hw _ (List.mem_of_getElem? (i := 84) rfl))) (by decide) (t := (.object "java/lang/String")) (t' := .boolean) (by decide) (by decide)))).other W33 (Or.inr (slot_ne (Or.inr (hw _ (List.mem_of_getElem? (i := 92) rfl))) (Or.inr (hw _ (List.mem_of_getElem? (i := 86) rfl))) (by decide) (t := (.object "java/lang/String")) (t' := .boolean) (by decide) (by decide)))).other W38 (Or.inr (slot_ne (Or.inr (hw _ (List.mem_of_getElem? (i := 92) rfl))) (Or.inr (hw _ (List.mem_of_getElem? (i := 88) rfl))) (by decide) (t := (.object "java/lang/String")) (t' := (.object "java/lang/String")) (by decide) (by decide)))).other W43 (Or.inr (slot_ne (Or.inr (hw _ (List.mem_of_getElem? (i := 92) rfl))) (Or.inr (hw _ (List.mem_of_getElem? (i := 90) rfl))) (by decide) (t := (.object "java/lang/String")) (t' := (.object "java/util/List")) (by decide) (by decide))))
  have Y47 : Exa Z h43 o0 "com/example/araucaria/araucaria/proto/ProtoField" := (Y42.wr W43)
  obtain ⟨T48, h48, X48, e48, W48, st48⟩ := putF X43 hx hZ hown (host := "") (Or.inl (hw _ (List.mem_of_getElem? (i := 91) rfl))) Via.refl e43 Y46 Y47 (Or.inr ⟨(hw _ (List.mem_of_getElem? (i := 92) rfl)), rfl, hnm⟩) (hw _ (List.mem_of_getElem? (i := 67) rfl)) (ty := (.object "java/lang/String")) (by decide) rfl rfl (g := (mkF m 58 #[.val (.ref o0), .val (.ref o1), .val (.int p2), .val (.ref o3), .val (.ref o4), .val (.ref o5), .val (.int p6), .val (.int p7), .val .null, .val (.ref o9), .val (.ref o10)] [(.ref o10), (.ref o0)])) rfl rfl (hb hby d11_58)
  have sz48 : h43.size ≤ h48.size := (Keep.of_wr W48).1
  have Y49 : Fld Z h48 o0 "com/example/araucaria/araucaria/proto/ProtoField" "jsonName" "Ljava/lang/String;" (.ref o10) := Y46.same W48
  have N48 := Fr.snoc X48 N43 (by omega)
  refine Go.pre st48 ?_
  show Go p e below s _ _ _ (T48.setTop (mkF m 61 #[.val (.ref o0), .val (.ref o1), .val (.int p2), .val (.ref o3), .val (.ref o4), .val (.ref o5), .val (.int p6), .val (.int p7), .val .null, .val (.ref o9), .val (.ref o10)] []))
  have Y50 : Fld Z h48 o0 "com/example/araucaria/araucaria/proto/ProtoField" "name" "Ljava/lang/String;" (.ref o1) := (((((((((Y4.other W8 (Or.inr (slot_ne (Or.inr (hw _ (List.mem_of_getElem? (i := 74) rfl))) (Or.inr (hw _ (List.mem_of_getElem? (i := 76) rfl))) (by decide) (t := (.object "java/lang/String")) (t' := .int) (by decide) (by decide)))).other W13 (Or.inr (slot_ne (Or.inr (hw _ (List.mem_of_getElem? (i := 74) rfl))) (Or.inr (hw _ (List.mem_of_getElem? (i := 78) rfl))) (by decide) (t := (.object "java/lang/String")) (t' := (.object "com/example/araucaria/araucaria/proto/SourcePosition")) (by decide) (by decide)))).other W18 (Or.inr (slot_ne (Or.inr (hw _ (List.mem_of_getElem? (i := 74) rfl))) (Or.inr (hw _ (List.mem_of_getElem? (i := 80) rfl))) (by decide) (t := (.object "java/lang/String")) (t' := (.object "com/example/araucaria/araucaria/proto/SourcePosition")) (by decide) (by decide)))).other W23 (Or.inr (slot_ne (Or.inr (hw _ (List.mem_of_getElem? (i := 74) rfl))) (Or.inr (hw _ (List.mem_of_getElem? (i := 82) rfl))) (by decide) (t := (.object "java/lang/String")) (t' := (.object "java/lang/String")) (by decide) (by decide)))).other W28 (Or.inr (slot_ne (Or.inr (hw _ (List.mem_of_getElem? (i := 74) rfl))) (Or.inr (hw _ (List.mem_of_getElem? (i := 84) rfl))) (by decide) (t := (.object "java/lang/String")) (t' := .boolean) (by decide) (by decide)))).other W33 (Or.inr (slot_ne (Or.inr (hw _ (List.mem_of_getElem? (i := 74) rfl))) (Or.inr (hw _ (List.mem_of_getElem? (i := 86) rfl))) (by decide) (t := (.object "java/lang/String")) (t' := .boolean) (by decide) (by decide)))).other W38 (Or.inr (slot_ne (Or.inr (hw _ (List.mem_of_getElem? (i := 74) rfl))) (Or.inr (hw _ (List.mem_of_getElem? (i := 88) rfl))) (by decide) (t := (.object "java/lang/String")) (t' := (.object "java/lang/String")) (by decide) (by decide)))).other W43 (Or.inr (slot_ne (Or.inr (hw _ (List.mem_of_getElem? (i := 74) rfl))) (Or.inr (hw _ (List.mem_of_getElem? (i := 90) rfl))) (by decide) (t := (.object "java/lang/String")) (t' := (.object "java/util/List")) (by decide) (by decide)))).other W48 (Or.inr (slot_ne (Or.inr (hw _ (List.mem_of_getElem? (i := 74) rfl))) (Or.inr (hw _ (List.mem_of_getElem? (i := 92) rfl))) (by decide) (t := (.object "java/lang/String")) (t' := (.object "java/lang/String")) (by decide) (by decide))))
  have Y51 : Fld Z h48 o0 "com/example/araucaria/araucaria/proto/ProtoField" "number" "I" (.int p2) := ((((((((Y9.other W13 (Or.inr (slot_ne (Or.inr (hw _ (List.mem_of_getElem? (i := 76) rfl))) (Or.inr (hw _ (List.mem_of_getElem? (i := 78) rfl))) (by decide) (t := .int) (t' := (.object "com/example/araucaria/araucaria/proto/SourcePosition")) (by decide) (by decide)))).other W18 (Or.inr (slot_ne (Or.inr (hw _ (List.mem_of_getElem? (i := 76) rfl))) (Or.inr (hw _ (List.mem_of_getElem? (i := 80) rfl))) (by decide) (t := .int) (t' := (.object "com/example/araucaria/araucaria/proto/SourcePosition")) (by decide) (by decide)))).other W23 (Or.inr (slot_ne (Or.inr (hw _ (List.mem_of_getElem? (i := 76) rfl))) (Or.inr (hw _ (List.mem_of_getElem? (i := 82) rfl))) (by decide) (t := .int) (t' := (.object "java/lang/String")) (by decide) (by decide)))).other W28 (Or.inr (slot_ne (Or.inr (hw _ (List.mem_of_getElem? (i := 76) rfl))) (Or.inr (hw _ (List.mem_of_getElem? (i := 84) rfl))) (by decide) (t := .int) (t' := .boolean) (by decide) (by decide)))).other W33 (Or.inr (slot_ne (Or.inr (hw _ (List.mem_of_getElem? (i := 76) rfl))) (Or.inr (hw _ (List.mem_of_getElem? (i := 86) rfl))) (by decide) (t := .int) (t' := .boolean) (by decide) (by decide)))).other W38 (Or.inr (slot_ne (Or.inr (hw _ (List.mem_of_getElem? (i := 76) rfl))) (Or.inr (hw _ (List.mem_of_getElem? (i := 88) rfl))) (by decide) (t := .int) (t' := (.object "java/lang/String")) (by decide) (by decide)))).other W43 (Or.inr (slot_ne (Or.inr (hw _ (List.mem_of_getElem? (i := 76) rfl))) (Or.inr (hw _ (List.mem_of_getElem? (i := 90) rfl))) (by decide) (t := .int) (t' := (.object "java/util/List")) (by decide) (by decide)))).other W48 (Or.inr (slot_ne (Or.inr (hw _ (List.mem_of_getElem? (i := 76) rfl))) (Or.inr (hw _ (List.mem_of_getElem? (i := 92) rfl))) (by decide) (t := .int) (t' := (.object "java/lang/String")) (by decide) (by decide))))
  have Y52 : Fld Z h48 o0 "com/example/araucaria/araucaria/proto/ProtoField" "position" "Lcom/example/araucaria/araucaria/proto/SourcePosition;" (.ref o3) := (((((((Y14.other W18 (Or.inr (slot_ne (Or.inr (hw _ (List.mem_of_getElem? (i := 78) rfl))) (Or.inr (hw _ (List.mem_of_getElem? (i := 80) rfl))) (by decide) (t := (.object "com/example/araucaria/araucaria/proto/SourcePosition")) (t' := (.object "com/example/araucaria/araucaria/proto/SourcePosition")) (by decide) (by decide)))).other W23 (Or.inr (slot_ne (Or.inr (hw _ (List.mem_of_getElem? (i := 78) rfl))) (Or.inr (hw _ (List.mem_of_getElem? (i := 82) rfl))) (by decide) (t := (.object "com/example/araucaria/araucaria/proto/SourcePosition")) (t' := (.object "java/lang/String")) (by decide) (by decide)))).other W28 (Or.inr (slot_ne (Or.inr (hw _ (List.mem_of_getElem? (i := 78) rfl))) (Or.inr (hw _ (List.mem_of_getElem? (i := 84) rfl))) (by decide) (t := (.object "com/example/araucaria/araucaria/proto/SourcePosition")) (t' := .boolean) (by decide) (by decide)))).other W33 (Or.inr (slot_ne (Or.inr (hw _ (List.mem_of_getElem? (i := 78) rfl))) (Or.inr (hw _ (List.mem_of_getElem? (i := 86) rfl))) (by decide) (t := (.object "com/example/araucaria/araucaria/proto/SourcePosition")) (t' := .boolean) (by decide) (by decide)))).other W38 (Or.inr (slot_ne (Or.inr (hw _ (List.mem_of_getElem? (i := 78) rfl))) (Or.inr (hw _ (List.mem_of_getElem? (i := 88) rfl))) (by decide) (t := (.object "com/example/araucaria/araucaria/proto/SourcePosition")) (t' := (.object "java/lang/String")) (by decide) (by decide)))).other W43 (Or.inr (slot_ne (Or.inr (hw _ (List.mem_of_getElem? (i := 78) rfl))) (Or.inr (hw _ (List.mem_of_getElem? (i := 90) rfl))) (by decide) (t := (.object "com/example/araucaria/araucaria/proto/SourcePosition")) (t' := (.object "java/util/List")) (by decide) (by decide)))).other W48 (Or.inr (slot_ne (Or.inr (hw _ (List.mem_of_getElem? (i := 78) rfl))) (Or.inr (hw _ (List.mem_of_getElem? (i := 92) rfl))) (by decide) (t := (.object "com/example/araucaria/araucaria/proto/SourcePosition")) (t' := (.object "java/lang/String")) (by decide) (by decide))))
  have Y53 : Fld Z h48 o0 "com/example/araucaria/araucaria/proto/ProtoField" "numberPosition" "Lcom/example/araucaria/araucaria/proto/SourcePosition;" (.ref o4) := ((((((Y19.other W23 (Or.inr (slot_ne (Or.inr (hw _ (List.mem_of_getElem? (i := 80) rfl))) (Or.inr (hw _ (List.mem_of_getElem? (i := 82) rfl))) (by decide) (t := (.object "com/example/araucaria/araucaria/proto/SourcePosition")) (t' := (.object "java/lang/String")) (by decide) (by decide)))).other W28 (Or.inr (slot_ne (Or.inr (hw _ (List.mem_of_getElem? (i := 80) rfl))) (Or.inr (hw _ (List.mem_of_getElem? (i := 84) rfl))) (by decide) (t := (.object "com/example/araucaria/araucaria/proto/SourcePosition")) (t' := .boolean) (by decide) (by decide)))).other W33 (Or.inr (slot_ne (Or.inr (hw _ (List.mem_of_getElem? (i := 80) rfl))) (Or.inr (hw _ (List.mem_of_getElem? (i := 86) rfl))) (by decide) (t := (.object "com/example/araucaria/araucaria/proto/SourcePosition")) (t' := .boolean) (by decide) (by decide)))).other W38 (Or.inr (slot_ne (Or.inr (hw _ (List.mem_of_getElem? (i := 80) rfl))) (Or.inr (hw _ (List.mem_of_getElem? (i := 88) rfl))) (by decide) (t := (.object "com/example/araucaria/araucaria/proto/SourcePosition")) (t' := (.object "java/lang/String")) (by decide) (by decide)))).other W43 (Or.inr (slot_ne (Or.inr (hw _ (List.mem_of_getElem? (i := 80) rfl))) (Or.inr (hw _ (List.mem_of_getElem? (i := 90) rfl))) (by decide) (t := (.object "com/example/araucaria/araucaria/proto/SourcePosition")) (t' := (.object "java/util/List")) (by decide) (by decide)))).other W48 (Or.inr (slot_ne (Or.inr (hw _ (List.mem_of_getElem? (i := 80) rfl))) (Or.inr (hw _ (List.mem_of_getElem? (i := 92) rfl))) (by decide) (t := (.object "com/example/araucaria/araucaria/proto/SourcePosition")) (t' := (.object "java/lang/String")) (by decide) (by decide))))
  have Y54 : Fld Z h48 o0 "com/example/araucaria/araucaria/proto/ProtoField" "type" "Ljava/lang/String;" (.ref o5) := (((((Y24.other W28 (Or.inr (slot_ne (Or.inr (hw _ (List.mem_of_getElem? (i := 82) rfl))) (Or.inr (hw _ (List.mem_of_getElem? (i := 84) rfl))) (by decide) (t := (.object "java/lang/String")) (t' := .boolean) (by decide) (by decide)))).other W33 (Or.inr (slot_ne (Or.inr (hw _ (List.mem_of_getElem? (i := 82) rfl))) (Or.inr (hw _ (List.mem_of_getElem? (i := 86) rfl))) (by decide) (t := (.object "java/lang/String")) (t' := .boolean) (by decide) (by decide)))).other W38 (Or.inr (slot_ne (Or.inr (hw _ (List.mem_of_getElem? (i := 82) rfl))) (Or.inr (hw _ (List.mem_of_getElem? (i := 88) rfl))) (by decide) (t := (.object "java/lang/String")) (t' := (.object "java/lang/String")) (by decide) (by decide)))).other W43 (Or.inr (slot_ne (Or.inr (hw _ (List.mem_of_getElem? (i := 82) rfl))) (Or.inr (hw _ (List.mem_of_getElem? (i := 90) rfl))) (by decide) (t := (.object "java/lang/String")) (t' := (.object "java/util/List")) (by decide) (by decide)))).other W48 (Or.inr (slot_ne (Or.inr (hw _ (List.mem_of_getElem? (i := 82) rfl))) (Or.inr (hw _ (List.mem_of_getElem? (i := 92) rfl))) (by decide) (t := (.object "java/lang/String")) (t' := (.object "java/lang/String")) (by decide) (by decide))))
  have Y55 : Fld Z h48 o0 "com/example/araucaria/araucaria/proto/ProtoField" "repeated" "Z" (.int (p6 &&& 1)) := ((((Y29.other W33 (Or.inr (slot_ne (Or.inr (hw _ (List.mem_of_getElem? (i := 84) rfl))) (Or.inr (hw _ (List.mem_of_getElem? (i := 86) rfl))) (by decide) (t := .boolean) (t' := .boolean) (by decide) (by decide)))).other W38 (Or.inr (slot_ne (Or.inr (hw _ (List.mem_of_getElem? (i := 84) rfl))) (Or.inr (hw _ (List.mem_of_getElem? (i := 88) rfl))) (by decide) (t := .boolean) (t' := (.object "java/lang/String")) (by decide) (by decide)))).other W43 (Or.inr (slot_ne (Or.inr (hw _ (List.mem_of_getElem? (i := 84) rfl))) (Or.inr (hw _ (List.mem_of_getElem? (i := 90) rfl))) (by decide) (t := .boolean) (t' := (.object "java/util/List")) (by decide) (by decide)))).other W48 (Or.inr (slot_ne (Or.inr (hw _ (List.mem_of_getElem? (i := 84) rfl))) (Or.inr (hw _ (List.mem_of_getElem? (i := 92) rfl))) (by decide) (t := .boolean) (t' := (.object "java/lang/String")) (by decide) (by decide))))
  have Y56 : Fld Z h48 o0 "com/example/araucaria/araucaria/proto/ProtoField" "optional" "Z" (.int (p7 &&& 1)) := (((Y34.other W38 (Or.inr (slot_ne (Or.inr (hw _ (List.mem_of_getElem? (i := 86) rfl))) (Or.inr (hw _ (List.mem_of_getElem? (i := 88) rfl))) (by decide) (t := .boolean) (t' := (.object "java/lang/String")) (by decide) (by decide)))).other W43 (Or.inr (slot_ne (Or.inr (hw _ (List.mem_of_getElem? (i := 86) rfl))) (Or.inr (hw _ (List.mem_of_getElem? (i := 90) rfl))) (by decide) (t := .boolean) (t' := (.object "java/util/List")) (by decide) (by decide)))).other W48 (Or.inr (slot_ne (Or.inr (hw _ (List.mem_of_getElem? (i := 86) rfl))) (Or.inr (hw _ (List.mem_of_getElem? (i := 92) rfl))) (by decide) (t := .boolean) (t' := (.object "java/lang/String")) (by decide) (by decide))))
  have Y57 : Fld Z h48 o0 "com/example/araucaria/araucaria/proto/ProtoField" "oneof" "Ljava/lang/String;" .null := ((Y39.other W43 (Or.inr (slot_ne (Or.inr (hw _ (List.mem_of_getElem? (i := 88) rfl))) (Or.inr (hw _ (List.mem_of_getElem? (i := 90) rfl))) (by decide) (t := (.object "java/lang/String")) (t' := (.object "java/util/List")) (by decide) (by decide)))).other W48 (Or.inr (slot_ne (Or.inr (hw _ (List.mem_of_getElem? (i := 88) rfl))) (Or.inr (hw _ (List.mem_of_getElem? (i := 92) rfl))) (by decide) (t := (.object "java/lang/String")) (t' := (.object "java/lang/String")) (by decide) (by decide))))
  have Y58 : Fld Z h48 o0 "com/example/araucaria/araucaria/proto/ProtoField" "behaviors" "Ljava/util/List;" (.ref o9) := (Y44.other W48 (Or.inr (slot_ne (Or.inr (hw _ (List.mem_of_getElem? (i := 90) rfl))) (Or.inr (hw _ (List.mem_of_getElem? (i := 92) rfl))) (by decide) (t := (.object "java/util/List")) (t' := (.object "java/lang/String")) (by decide) (by decide))))
  exact Go.ret0 X48 hx hlk hrt (hb hby d11_61) (by decide) (by decide) (by rw [e48]; exact ⟨rfl, N48, (((((((((((Keep.refl h0 [o0]).wr W3 (Or.inl (List.mem_of_getElem? (i := 0) rfl))).wr W8 (Or.inl (List.mem_of_getElem? (i := 0) rfl))).wr W13 (Or.inl (List.mem_of_getElem? (i := 0) rfl))).wr W18 (Or.inl (List.mem_of_getElem? (i := 0) rfl))).wr W23 (Or.inl (List.mem_of_getElem? (i := 0) rfl))).wr W28 (Or.inl (List.mem_of_getElem? (i := 0) rfl))).wr W33 (Or.inl (List.mem_of_getElem? (i := 0) rfl))).wr W38 (Or.inl (List.mem_of_getElem? (i := 0) rfl))).wr W43 (Or.inl (List.mem_of_getElem? (i := 0) rfl))).wr W48 (Or.inl (List.mem_of_getElem? (i := 0) rfl))), (((((((((((KF.refl Z h0 [(o0, Jvm.RoadKit.slotOf Z "com/example/araucaria/araucaria/proto/ProtoField" "name" "Ljava/lang/String;"), (o0, Jvm.RoadKit.slotOf Z "com/example/araucaria/araucaria/proto/ProtoField" "number" "I"), (o0, Jvm.RoadKit.slotOf Z "com/example/araucaria/araucaria/proto/ProtoField" "position" "Lcom/example/araucaria/araucaria/proto/SourcePosition;"), (o0, Jvm.RoadKit.slotOf Z "com/example/araucaria/araucaria/proto/ProtoField" "numberPosition" "Lcom/example/araucaria/araucaria/proto/SourcePosition;"), (o0, Jvm.RoadKit.slotOf Z "com/example/araucaria/araucaria/proto/ProtoField" "type" "Ljava/lang/String;"), (o0, Jvm.RoadKit.slotOf Z "com/example/araucaria/araucaria/proto/ProtoField" "repeated" "Z"), (o0, Jvm.RoadKit.slotOf Z "com/example/araucaria/araucaria/proto/ProtoField" "optional" "Z"), (o0, Jvm.RoadKit.slotOf Z "com/example/araucaria/araucaria/proto/ProtoField" "oneof" "Ljava/lang/String;"), (o0, Jvm.RoadKit.slotOf Z "com/example/araucaria/araucaria/proto/ProtoField" "behaviors" "Ljava/util/List;"), (o0, Jvm.RoadKit.slotOf Z "com/example/araucaria/araucaria/proto/ProtoField" "jsonName" "Ljava/lang/String;")]).wr W3 (Or.inl (List.mem_of_getElem? (i := 0) rfl))).wr W8 (Or.inl (List.mem_of_getElem? (i := 1) rfl))).wr W13 (Or.inl (List.mem_of_getElem? (i := 2) rfl))).wr W18 (Or.inl (List.mem_of_getElem? (i := 3) rfl))).wr W23 (Or.inl (List.mem_of_getElem? (i := 4) rfl))).wr W28 (Or.inl (List.mem_of_getElem? (i := 5) rfl))).wr W33 (Or.inl (List.mem_of_getElem? (i := 6) rfl))).wr W38 (Or.inl (List.mem_of_getElem? (i := 7) rfl))).wr W43 (Or.inl (List.mem_of_getElem? (i := 8) rfl))).wr W48 (Or.inl (List.mem_of_getElem? (i := 9) rfl))), Y50, Y51, Y52, Y53, Y54, Y55, Y56, Y57, Y58, Y49⟩)
/-! ProtoField.<init> (11R) -/
theorem pd11R_0 : parseMethodDescriptor "()V" = some ⟨[], none⟩ := by decide +kernel
theorem ef_11R (m : MethodId) (o0 : Addr) (o1 : Addr) (p2 : Int32) (o3 : Addr) (o4 : Addr) (o5 : Addr) (p6 : Int32) (p7 : Int32) (o8 : Addr) (o9 : Addr) (o10 : Addr) : entryFrame m #[(.ref o0), (.ref o1), (.int p2), (.ref o3), (.ref o4), (.ref o5), (.int p6), (.int p7), (.ref o8), (.ref o9), (.ref o10)] 11 = (mkF m 0 #[.val (.ref o0), .val (.ref o1), .val (.int p2), .val (.ref o3), .val (.ref o4), .val (.ref o5), .val (.int p6), .val (.int p7), .val (.ref o8), .val (.ref o9), .val (.ref o10)] []) := by first | (simp [entryFrame, mkF, argsToLocals, Value.category]; done) | rfl
def Q11R (Z : State) (o0 : Addr) (o1 : Addr) (p2 : Int32) (o3 : Addr) (o4 : Addr) (o5 : Addr) (p6 : Int32) (p7 : Int32) (o8 : Addr) (o9 : Addr) (o10 : Addr) (u2 : Value) (u5 : Value) (u10 : Value) (u15 : Value) (u20 : Value) (u25 : Value) (u30 : Value) (u35 : Value) (u40 : Value) (u45 : Value) (h0 : Heap) (n0 : Nat) (v : Option Value) (h : Heap) (L : List Loc) : Prop := v = none ∧ Fr n0 L ∧ Keep h0 h [o0] ∧ KF Z h0 h [(o0, Jvm.RoadKit.slotOf Z "com/example/araucaria/araucaria/proto/ProtoField" "name" "Ljava/lang/String;"), (o0, Jvm.RoadKit.slotOf Z "com/example/araucaria/araucaria/proto/ProtoField" "number" "I"), (o0, Jvm.RoadKit.slotOf Z "com/example/araucaria/araucaria/proto/ProtoField" "position" "Lcom/example/araucaria/araucaria/proto/SourcePosition;"), (o0, Jvm.RoadKit.slotOf Z "com/example/araucaria/araucaria/proto/ProtoField" "numberPosition" "Lcom/example/araucaria/araucaria/proto/SourcePosition;"), (o0, Jvm.RoadKit.slotOf Z "com/example/araucaria/araucaria/proto/ProtoField" "type" "Ljava/lang/String;"), (o0, Jvm.RoadKit.slotOf Z "com/example/araucaria/araucaria/proto/ProtoField" "repeated" "Z"), (o0, Jvm.RoadKit.slotOf Z "com/example/araucaria/araucaria/proto/ProtoField" "optional" "Z"), (o0, Jvm.RoadKit.slotOf Z "com/example/araucaria/araucaria/proto/ProtoField" "oneof" "Ljava/lang/String;"), (o0, Jvm.RoadKit.slotOf Z "com/example/araucaria/araucaria/proto/ProtoField" "behaviors" "Ljava/util/List;"), (o0, Jvm.RoadKit.slotOf Z "com/example/araucaria/araucaria/proto/ProtoField" "jsonName" "Ljava/lang/String;")] ∧ Fld Z h o0 "com/example/araucaria/araucaria/proto/ProtoField" "name" "Ljava/lang/String;" (.ref o1) ∧ Fld Z h o0 "com/example/araucaria/araucaria/proto/ProtoField" "number" "I" (.int p2) ∧ Fld Z h o0 "com/example/araucaria/araucaria/proto/ProtoField" "position" "Lcom/example/araucaria/araucaria/proto/SourcePosition;" (.ref o3) ∧ Fld Z h o0 "com/example/araucaria/araucaria/proto/ProtoField" "numberPosition" "Lcom/example/araucaria/araucaria/proto/SourcePosition;" (.ref o4) ∧ Fld Z h o0 "com/example/araucaria/araucaria/proto/ProtoField" "type" "Ljava/lang/String;" (.ref o5) ∧ Fld Z h o0 "com/example/araucaria/araucaria/proto/ProtoField" "repeated" "Z" (.int (p6 &&& 1)) ∧ Fld Z h o0 "com/example/araucaria/araucaria/proto/ProtoField" "optional" "Z" (.int (p7 &&& 1)) ∧ Fld Z h o0 "com/example/araucaria/araucaria/proto/ProtoField" "oneof" "Ljava/lang/String;" (.ref o8) ∧ Fld Z h o0 "com/example/araucaria/araucaria/proto/ProtoField" "behaviors" "Ljava/util/List;" (.ref o9) ∧ Fld Z h o0 "com/example/araucaria/araucaria/proto/ProtoField" "jsonName" "Ljava/lang/String;" (.ref o10)
set_option maxRecDepth 65536 in
set_option maxHeartbeats 40000000 in
theorem rm11R (l : Launch) (Z : State) (a0 : Array Value) (hw : ∀ d ∈ tables_1, d.before a0 Z = true) (ws : List Jvm.Cond) (o0 : Addr) (o1 : Addr) (p2 : Int32) (o3 : Addr) (o4 : Addr) (o5 : Addr) (p6 : Int32) (p7 : Int32) (o8 : Addr) (o9 : Addr) (o10 : Addr) (u2 : Value) (u5 : Value) (u10 : Value) (u15 : Value) (u20 : Value) (u25 : Value) (u30 : Value) (u35 : Value) (u40 : Value) (u45 : Value) (h0 : Heap) (n0 : Nat) (Z0 : n0 ≤ h0.size) (F_name_o0 : Fld Z h0 o0 "com/example/araucaria/araucaria/proto/ProtoField" "name" "Ljava/lang/String;" u2) (E_o0 : Exa Z h0 o0 "com/example/araucaria/araucaria/proto/ProtoField") (g_o0 : n0 ≤ o0) (F_number_o0 : Fld Z h0 o0 "com/example/araucaria/araucaria/proto/ProtoField" "number" "I" u5) (F_position_o0 : Fld Z h0 o0 "com/example/araucaria/araucaria/proto/ProtoField" "position" "Lcom/example/araucaria/araucaria/proto/SourcePosition;" u10) (F_numberPosition_o0 : Fld Z h0 o0 "com/example/araucaria/araucaria/proto/ProtoField" "numberPosition" "Lcom/example/araucaria/araucaria/proto/SourcePosition;" u15) (F_type_o0 : Fld Z h0 o0 "com/example/araucaria/araucaria/proto/ProtoField" "type" "Ljava/lang/String;" u20) (F_repeated_o0 : Fld Z h0 o0 "com/example/araucaria/araucaria/proto/ProtoField" "repeated" "Z" u25) (F_optional_o0 : Fld Z h0 o0 "com/example/araucaria/araucaria/proto/ProtoField" "optional" "Z" u30) (F_oneof_o0 : Fld Z h0 o0 "com/example/araucaria/araucaria/proto/ProtoField" "oneof" "Ljava/lang/String;" u35) (F_behaviors_o0 : Fld Z h0 o0 "com/example/araucaria/araucaria/proto/ProtoField" "behaviors" "Ljava/util/List;" u40) (F_jsonName_o0 : Fld Z h0 o0 "com/example/araucaria/araucaria/proto/ProtoField" "jsonName" "Ljava/lang/String;" u45) :
    MetFree l (⟨"com/example/araucaria/araucaria/proto/ProtoField", "<init>", "(Ljava/lang/String;ILcom/example/araucaria/araucaria/proto/SourcePosition;Lcom/example/araucaria/araucaria/proto/SourcePosition;Ljava/lang/String;ZZLjava/lang/String;Ljava/util/List;Ljava/lang/String;)V"⟩ : MethodName) (head1 (Jvm.Cond.code (⟨"com/example/araucaria/araucaria/proto/ProtoField", "<init>", "(Ljava/lang/String;ILcom/example/araucaria/araucaria/proto/SourcePosition;Lcom/example/araucaria/araucaria/proto/SourcePosition;Ljava/lang/String;ZZLjava/lang/String;Ljava/util/List;Ljava/lang/String;)V"⟩ : MethodName) prog_82_method_2_code 11 none :: ws) ({ frames := 2, cells := 0, slots := 0, locals := 24 } : Room)) (fun a U => a = #[(.ref o0), (.ref o1), (.int p2), (.ref o3), (.ref o4), (.ref o5), (.int p6), (.int p7), (.ref o8), (.ref o9), (.ref o10)] ∧ Z.Warmed39 U.vm ∧ U.heap = h0) (fun _ _ _ _ _ => True) (fun _ U o U' => ∃ v L, o = .returned v ∧ Q11R Z o0 o1 p2 o3 o4 o5 p6 p7 o8 o9 o10 u2 u5 u10 u15 u20 u25 u30 u35 u40 u45 h0 n0 v U'.heap L ∧ FrameEnd U o U' L ({ frames := 2, cells := 0, slots := 0, locals := 24 } : Room).cells ({ frames := 2, cells := 0, slots := 0, locals := 24 } : Room).slots) := by
  refine MetFree.of_bodySF (plainFor_of_name pn_11) hisR ?_
  intro p e s m args below meth c s₁ Bd hml0 hP hK
  obtain ⟨rfl, hZ, hh⟩ := hP
  have hx := Bd.exec
  have hby := Bd.bytes
  have hml : c.maxLocals = 11 := hml0
  have hown : s.vm.findClass "com/example/araucaria/araucaria/proto/ProtoField" = some m.cls := findClass_of_methodNamed Bd.named
  have hnm := (name_of_methodNamed Bd.named Bd.method).1
  have hrt := Bd.returns
  have hlk := Bd.notSynchronized
  have X0 : Stand p l e ({ frames := 2, cells := 0, slots := 0, locals := 24 } : Room) s m #[(.ref o0), (.ref o1), (.int p2), (.ref o3), (.ref o4), (.ref o5), (.int p6), (.int p7), (.ref o8), (.ref o9), (.ref o10)] below meth c s₁ [] 0 0 := Stand.of_body Bd
  have e0 : s₁.heap = h0 := by rw [← hh, Bd.state]; rfl
  have N0 := Fr.nil n0
  have lt_F_name_o0 : LT.lt (α := Nat) o0 h0.size := F_name_o0.lt
  have lt_E_o0 : LT.lt (α := Nat) o0 h0.size := E_o0.lt
  have lt_F_number_o0 : LT.lt (α := Nat) o0 h0.size := F_number_o0.lt
  have lt_F_position_o0 : LT.lt (α := Nat) o0 h0.size := F_position_o0.lt
  have lt_F_numberPosition_o0 : LT.lt (α := Nat) o0 h0.size := F_numberPosition_o0.lt
  have lt_F_type_o0 : LT.lt (α := Nat) o0 h0.size := F_type_o0.lt
  have lt_F_repeated_o0 : LT.lt (α := Nat) o0 h0.size := F_repeated_o0.lt
  have lt_F_optional_o0 : LT.lt (α := Nat) o0 h0.size := F_optional_o0.lt
  have lt_F_oneof_o0 : LT.lt (α := Nat) o0 h0.size := F_oneof_o0.lt
  have lt_F_behaviors_o0 : LT.lt (α := Nat) o0 h0.size := F_behaviors_o0.lt
  have lt_F_jsonName_o0 : LT.lt (α := Nat) o0 h0.size := F_jsonName_o0.lt
  show Go p e below s 0 0 (Q11R Z o0 o1 p2 o3 o4 o5 p6 p7 o8 o9 o10 u2 u5 u10 u15 u20 u25 u30 u35 u40 u45 h0 n0) (s₁.setTop (entryFrame m #[(.ref o0), (.ref o1), (.int p2), (.ref o3), (.ref o4), (.ref o5), (.int p6), (.int p7), (.ref o8), (.ref o9), (.ref o10)] 11))
  rw [ef_11R m o0 o1 p2 o3 o4 o5 p6 p7 o8 o9 o10]
  refine Go.pre (st' := s₁.setTop (mkF m 1 #[.val (.ref o0), .val (.ref o1), .val (.int p2), .val (.ref o3), .val (.ref o4), .val (.ref o5), .val (.int p6), .val (.int p7), .val (.ref o8), .val (.ref o9), .val (.ref o10)] [(.ref o0)])) (fun target kt => ?_) ?_
  · show Steps p.tables e below (s₁.setTop (mkF m 0 #[.val (.ref o0), .val (.ref o1), .val (.int p2), .val (.ref o3), .val (.ref o4), .val (.ref o5), .val (.int p6), .val (.int p7), .val (.ref o8), .val (.ref o9), .val (.ref o10)] [])) _
    refine XS.aloadN X0.here hx rfl (hb hby d11_0) rfl rfl ?_
    exact kt
  obtain ⟨_, _, ⟨T1, L1, k1, n1⟩, -, X1, ⟨Lc1, hQ1, l1, y1, z1⟩, st1⟩ := X0.specialBack hx (y := (⟨"java/lang/Record", "<init>", "()V"⟩ : MethodName)) rfl hown (mvT hZ (hw _ (List.mem_of_getElem? (i := 72) rfl))) (mvT hZ (hw _ (List.mem_of_getElem? (i := 57) rfl))) (mvT hZ (hw _ (List.mem_of_getElem? (i := 60) rfl))) (by decide) (backOf (W := 0) (rm10 l Z a0 hw [] o0 h0 n0 (by omega) ) hZ (hw _ (List.mem_of_getElem? (i := 60) rfl)) (hw _ (List.mem_of_getElem? (i := 59) rfl)) (by decide) (by decide)) (g := (mkF m 1 #[.val (.ref o0), .val (.ref o1), .val (.int p2), .val (.ref o3), .val (.ref o4), .val (.ref o5), .val (.int p6), .val (.int p7), .val (.ref o8), .val (.ref o9), .val (.ref o10)] [(.ref o0)])) rfl (by rw [hml]; rfl) (Steps.refl _) (a := o0) (argsL := []) (rest := []) (lenOf pd11R_0 rfl) rfl (by show 2 * 0 + _ ≤ _; exact Nat.le_of_eq rfl) (hb hby d11_1) (fun vm₁ hvm => ⟨rfl, e0, (by decide : 0 + 0 ≤ _), (by decide : 0 + 0 ≤ _)⟩)
  dsimp only [Pt.U, Pt.locs, Pt.cells, Pt.slots] at X1 l1 y1 z1 st1 hQ1
  subst l1 y1 z1
  obtain ⟨rfl, N1q, e1⟩ := hQ1
  have N1 := Fr.app N0 N1q
  refine Go.trans st1 ?_
  show Go p e below s _ _ _ (T1.setTop (mkF m 4 #[.val (.ref o0), .val (.ref o1), .val (.int p2), .val (.ref o3), .val (.ref o4), .val (.ref o5), .val (.int p6), .val (.int p7), .val (.ref o8), .val (.ref o9), .val (.ref o10)] []))
  refine Go.pre (st' := T1.setTop (mkF m 6 #[.val (.ref o0), .val (.ref o1), .val (.int p2), .val (.ref o3), .val (.ref o4), .val (.ref o5), .val (.int p6), .val (.int p7), .val (.ref o8), .val (.ref o9), .val (.ref o10)] [(.ref o1), (.ref o0)])) (fun target kt => ?_) ?_
  · show Steps p.tables e below (T1.setTop (mkF m 4 #[.val (.ref o0), .val (.ref o1), .val (.int p2), .val (.ref o3), .val (.ref o4), .val (.ref o5), .val (.int p6), .val (.int p7), .val (.ref o8), .val (.ref o9), .val (.ref o10)] [])) _
    refine XS.aloadN X1.here hx rfl (hb hby d11_4) rfl rfl ?_
    show Steps p.tables e below (T1.setTop (mkF m 5 #[.val (.ref o0), .val (.ref o1), .val (.int p2), .val (.ref o3), .val (.ref o4), .val (.ref o5), .val (.int p6), .val (.int p7), .val (.ref o8), .val (.ref o9), .val (.ref o10)] [(.ref o0)])) _
    refine XS.aloadN X1.here hx rfl (hb hby d11_5) rfl rfl ?_
    exact kt
  obtain ⟨T3, h3, X3, e3, W3, st3⟩ := putF X1 hx hZ hown (host := "") (Or.inl (hw _ (List.mem_of_getElem? (i := 73) rfl))) Via.refl e1 F_name_o0 E_o0 (Or.inr ⟨(hw _ (List.mem_of_getElem? (i := 74) rfl)), rfl, hnm⟩) (hw _ (List.mem_of_getElem? (i := 67) rfl)) (ty := (.object "java/lang/String")) (by decide) rfl rfl (g := (mkF m 6 #[.val (.ref o0), .val (.ref o1), .val (.int p2), .val (.ref o3), .val (.ref o4), .val (.ref o5), .val (.int p6), .val (.int p7), .val (.ref o8), .val (.ref o9), .val (.ref o10)] [(.ref o1), (.ref o0)])) rfl rfl (hb hby d11_6)
  have sz3 : h0.size ≤ h3.size := (Keep.of_wr W3).1
  have Y4 : Fld Z h3 o0 "com/example/araucaria/araucaria/proto/ProtoField" "name" "Ljava/lang/String;" (.ref o1) := F_name_o0.same W3
  have N3 := Fr.snoc X3 N1 (by omega)
  refine Go.pre st3 ?_
  show Go p e below s _ _ _ (T3.setTop (mkF m 9 #[.val (.ref o0), .val (.ref o1), .val (.int p2), .val (.ref o3), .val (.ref o4), .val (.ref o5), .val (.int p6), .val (.int p7), .val (.ref o8), .val (.ref o9), .val (.ref o10)] []))
  refine Go.pre (st' := T3.setTop (mkF m 11 #[.val (.ref o0), .val (.ref o1), .val (.int p2), .val (.ref o3), .val (.ref o4), .val (.ref o5), .val (.int p6), .val (.int p7), .val (.ref o8), .val (.ref o9), .val (.ref o10)] [(.int p2), (.ref o0)])) (fun target kt => ?_) ?_
  · show Steps p.tables e below (T3.setTop (mkF m 9 #[.val (.ref o0), .val (.ref o1), .val (.int p2), .val (.ref o3), .val (.ref o4), .val (.ref o5), .val (.int p6), .val (.int p7), .val (.ref o8), .val (.ref o9), .val (.ref o10)] [])) _
    refine XS.aloadN X3.here hx rfl (hb hby d11_9) rfl rfl ?_
    show Steps p.tables e below (T3.setTop (mkF m 10 #[.val (.ref o0), .val (.ref o1), .val (.int p2), .val (.ref o3), .val (.ref o4), .val (.ref o5), .val (.int p6), .val (.int p7), .val (.ref o8), .val (.ref o9), .val (.ref o10)] [(.ref o0)])) _
    refine XS.iloadN X3.here hx rfl (hb hby d11_10) rfl ?_
    exact kt
  have Y6 : Fld Z h3 o0 "com/example/araucaria/araucaria/proto/ProtoField" "number" "I" u5 := (F_number_o0.other W3 (Or.inr (slot_ne (Or.inr (hw _ (List.mem_of_getElem? (i := 76) rfl))) (Or.inr (hw _ (List.mem_of_getElem? (i := 74) rfl))) (by decide) (t := .int) (t' := (.object "java/lang/String")) (by decide) (by decide))))
  have Y7 : Exa Z h3 o0 "com/example/araucaria/araucaria/proto/ProtoField" := (E_o0.wr W3)
  obtain ⟨T8, h8, X8, e8, W8, st8⟩ := putF X3 hx hZ hown (host := "") (Or.inl (hw _ (List.mem_of_getElem? (i := 75) rfl))) Via.refl e3 Y6 Y7 (Or.inr ⟨(hw _ (List.mem_of_getElem? (i := 76) rfl)), rfl, hnm⟩) (hw _ (List.mem_of_getElem? (i := 67) rfl)) (ty := .int) (by decide) rfl rfl (g := (mkF m 11 #[.val (.ref o0), .val (.ref o1), .val (.int p2), .val (.ref o3), .val (.ref o4), .val (.ref o5), .val (.int p6), .val (.int p7), .val (.ref o8), .val (.ref o9), .val (.ref o10)] [(.int p2), (.ref o0)])) rfl rfl (hb hby d11_11)
  have sz8 : h3.size ≤ h8.size := (Keep.of_wr W8).1
  have Y9 : Fld Z h8 o0 "com/example/araucaria/araucaria/proto/ProtoField" "number" "I" (.int p2) := Y6.same W8
  have N8 := Fr.snoc X8 N3 (by omega)
  refine Go.pre st8 ?_
  show Go p e below s _ _ _ (T8.setTop (mkF m 14 #[.val (.ref o0), .val (.ref o1), .val (.int p2), .val (.ref o3), .val (.ref o4), .val (.ref o5), .val (.int p6), .val (.int p7), .val (.ref o8), .val (.ref o9), .val (.ref o10)] []))
  refine Go.pre (st' := T8.setTop (mkF m 16 #[.val (.ref o0), .val (.ref o1), .val (.int p2), .val (.ref o3), .val (.ref o4), .val (.ref o5), .val (.int p6), .val (.int p7), .val (.ref o8), .val (.ref o9), .val (.ref o10)] [(.ref o3), (.ref o0)])) (fun target kt => ?_) ?_
  · show Steps p.tables e below (T8.setTop (mkF m 14 #[.val (.ref o0), .val (.ref o1), .val (.int p2), .val (.ref o3), .val (.ref o4), .val (.ref o5), .val (.int p6), .val (.int p7), .val (.ref o8), .val (.ref o9), .val (.ref o10)] [])) _
    refine XS.aloadN X8.here hx rfl (hb hby d11_14) rfl rfl ?_
    show Steps p.tables e below (T8.setTop (mkF m 15 #[.val (.ref o0), .val (.ref o1), .val (.int p2), .val (.ref o3), .val (.ref o4), .val (.ref o5), .val (.int p6), .val (.int p7), .val (.ref o8), .val (.ref o9), .val (.ref o10)] [(.ref o0)])) _
    refine XS.aloadN X8.here hx rfl (hb hby d11_15) rfl rfl ?_
    exact kt
  have Y11 : Fld Z h8 o0 "com/example/araucaria/araucaria/proto/ProtoField" "position" "Lcom/example/araucaria/araucaria/proto/SourcePosition;" u10 := ((F_position_o0.other W3 (Or.inr (slot_ne (Or.inr (hw _ (List.mem_of_getElem? (i := 78) rfl))) (Or.inr (hw _ (List.mem_of_getElem? (i := 74) rfl))) (by decide) (t := (.object "com/example/araucaria/araucaria/proto/SourcePosition")) (t' := (.object "java/lang/String")) (by decide) (by decide)))).other W8 (Or.inr (slot_ne (Or.inr (hw _ (List.mem_of_getElem? (i := 78) rfl))) (Or.inr (hw _ (List.mem_of_getElem? (i := 76) rfl))) (by decide) (t := (.object "com/example/araucaria/araucaria/proto/SourcePosition")) (t' := .int) (by decide) (by decide))))
  have Y12 : Exa Z h8 o0 "com/example/araucaria/araucaria/proto/ProtoField" := (Y7.wr W8)
  obtain ⟨T13, h13, X13, e13, W13, st13⟩ := putF X8 hx hZ hown (host := "") (Or.inl (hw _ (List.mem_of_getElem? (i := 77) rfl))) Via.refl e8 Y11 Y12 (Or.inr ⟨(hw _ (List.mem_of_getElem? (i := 78) rfl)), rfl, hnm⟩) (hw _ (List.mem_of_getElem? (i := 67) rfl)) (ty := (.object "com/example/araucaria/araucaria/proto/SourcePosition")) (by decide) rfl rfl (g := (mkF m 16 #[.val (.ref o0), .val (.ref o1), .val (.int p2), .val (.ref o3), .val (.ref o4), .val (.ref o5), .val (.int p6), .val (.int p7), .val (.ref o8), .val (.ref o9), .val (.ref o10)] [(.ref o3), (.ref o0)])) rfl rfl (hb hby d11_16)
  have sz13 : h8.size ≤ h13.size := (Keep.of_wr W13).1
  have Y14 : Fld Z h13 o0 "com/example/araucaria/araucaria/proto/ProtoField" "position" "Lcom/example/araucaria/araucaria/proto/SourcePosition;" (.ref o3) := Y11.same W13
  have N13 := Fr.snoc X13 N8 (by omega)
  refine Go.pre st13 ?_
  show Go p e below s _ _ _ (T13.setTop (mkF m 19 #[.val (.ref o0), .val (.ref o1), .val (.int p2), .val (.ref o3), .val (.ref o4), .val (.ref o5), .val (.int p6), .val (.int p7), .val (.ref o8), .val (.ref o9), .val (.ref o10)] []))
  refine Go.pre (st' := T13.setTop (mkF m 22 #[.val (.ref o0), .val (.ref o1), .val (.int p2), .val (.ref o3), .val (.ref o4), .val (.ref o5), .val (.int p6), .val (.int p7), .val (.ref o8), .val (.ref o9), .val (.ref o10)] [(.ref o4), (.ref o0)])) (fun target kt => ?_) ?_
  · show Steps p.tables e below (T13.setTop (mkF m 19 #[.val (.ref o0), .val (.ref o1), .val (.int p2), .val (.ref o3), .val (.ref o4), .val (.ref o5), .val (.int p6), .val (.int p7), .val (.ref o8), .val (.ref o9), .val (.ref o10)] [])) _
    refine XS.aloadN X13.here hx rfl (hb hby d11_19) rfl rfl ?_
    show Steps p.tables e below (T13.setTop (mkF m 20 #[.val (.ref o0), .val (.ref o1), .val (.int p2), .val (.ref o3), .val (.ref o4), .val (.ref o5), .val (.int p6), .val (.int p7), .val (.ref o8), .val (.ref o9), .val (.ref o10)] [(.ref o0)])) _
    refine XS.aload X13.here hx rfl (hb hby d11_20) rfl rfl ?_
    exact kt
  have Y16 : Fld Z h13 o0 "com/example/araucaria/araucaria/proto/ProtoField" "numberPosition" "Lcom/example/araucaria/araucaria/proto/SourcePosition;" u15 := (((F_numberPosition_o0.other W3 (Or.inr (slot_ne (Or.inr (hw _ (List.mem_of_getElem? (i := 80) rfl))) (Or.inr (hw _ (List.mem_of_getElem? (i := 74) rfl))) (by decide) (t := (.object "com/example/araucaria/araucaria/proto/SourcePosition")) (t' := (.object "java/lang/String")) (by decide) (by decide)))).other W8 (Or.inr (slot_ne (Or.inr (hw _ (List.mem_of_getElem? (i := 80) rfl))) (Or.inr (hw _ (List.mem_of_getElem? (i := 76) rfl))) (by decide) (t := (.object "com/example/araucaria/araucaria/proto/SourcePosition")) (t' := .int) (by decide) (by decide)))).other W13 (Or.inr (slot_ne (Or.inr (hw _ (List.mem_of_getElem? (i := 80) rfl))) (Or.inr (hw _ (List.mem_of_getElem? (i := 78) rfl))) (by decide) (t := (.object "com/example/araucaria/araucaria/proto/SourcePosition")) (t' := (.object "com/example/araucaria/araucaria/proto/SourcePosition")) (by decide) (by decide))))
  have Y17 : Exa Z h13 o0 "com/example/araucaria/araucaria/proto/ProtoField" := (Y12.wr W13)
  obtain ⟨T18, h18, X18, e18, W18, st18⟩ := putF X13 hx hZ hown (host := "") (Or.inl (hw _ (List.mem_of_getElem? (i := 79) rfl))) Via.refl e13 Y16 Y17 (Or.inr ⟨(hw _ (List.mem_of_getElem? (i := 80) rfl)), rfl, hnm⟩) (hw _ (List.mem_of_getElem? (i := 67) rfl)) (ty := (.object "com/example/araucaria/araucaria/proto/SourcePosition")) (by decide) rfl rfl (g := (mkF m 22 #[.val (.ref o0), .val (.ref o1), .val (.int p2), .val (.ref o3), .val (.ref o4), .val (.ref o5), .val (.int p6), .val (.int p7), .val (.ref o8), .val (.ref o9), .val (.ref o10)] [(.ref o4), (.ref o0)])) rfl rfl (hb hby d11_22)
  have sz18 : h13.size ≤ h18.size := (Keep.of_wr W18).1
  have Y19 : Fld Z h18 o0 "com/example/araucaria/araucaria/proto/ProtoField" "numberPosition" "Lcom/example/araucaria/araucaria/proto/SourcePosition;" (.ref o4) := Y16.same W18
  have N18 := Fr.snoc X18 N13 (by omega)
  refine Go.pre st18 ?_
  show Go p e below s _ _ _ (T18.setTop (mkF m 25 #[.val (.ref o0), .val (.ref o1), .val (.int p2), .val (.ref o3), .val (.ref o4), .val (.ref o5), .val (.int p6), .val (.int p7), .val (.ref o8), .val (.ref o9), .val (.ref o10)] []))
  refine Go.pre (st' := T18.setTop (mkF m 28 #[.val (.ref o0), .val (.ref o1), .val (.int p2), .val (.ref o3), .val (.ref o4), .val (.ref o5), .val (.int p6), .val (.int p7), .val (.ref o8), .val (.ref o9), .val (.ref o10)] [(.ref o5), (.ref o0)])) (fun target kt => ?_) ?_
  · show Steps p.tables e below (T18.setTop (mkF m 25 #[.val (.ref o0), .val (.ref o1), .val (.int p2), .val (.ref o3), .val (.ref o4), .val (.ref o5), .val (.int p6), .val (.int p7), .val (.ref o8), .val (.ref o9), .val (.ref o10)] [])) _
    refine XS.aloadN X18.here hx rfl (hb hby d11_25) rfl rfl ?_
    show Steps p.tables e below (T18.setTop (mkF m 26 #[.val (.ref o0), .val (.ref o1), .val (.int p2), .val (.ref o3), .val (.ref o4), .val (.ref o5), .val (.int p6), .val (.int p7), .val (.ref o8), .val (.ref o9), .val (.ref o10)] [(.ref o0)])) _
    refine XS.aload X18.here hx rfl (hb hby d11_26) rfl rfl ?_
    exact kt
  have Y21 : Fld Z h18 o0 "com/example/araucaria/araucaria/proto/ProtoField" "type" "Ljava/lang/String;" u20 := ((((F_type_o0.other W3 (Or.inr (slot_ne (Or.inr (hw _ (List.mem_of_getElem? (i := 82) rfl))) (Or.inr (hw _ (List.mem_of_getElem? (i := 74) rfl))) (by decide) (t := (.object "java/lang/String")) (t' := (.object "java/lang/String")) (by decide) (by decide)))).other W8 (Or.inr (slot_ne (Or.inr (hw _ (List.mem_of_getElem? (i := 82) rfl))) (Or.inr (hw _ (List.mem_of_getElem? (i := 76) rfl))) (by decide) (t := (.object "java/lang/String")) (t' := .int) (by decide) (by decide)))).other W13 (Or.inr (slot_ne (Or.inr (hw _ (List.mem_of_getElem? (i := 82) rfl))) (Or.inr (hw _ (List.mem_of_getElem? (i := 78) rfl))) (by decide) (t := (.object "java/lang/String")) (t' := (.object "com/example/araucaria/araucaria/proto/SourcePosition")) (by decide) (by decide)))).other W18 (Or.inr (slot_ne (Or.inr (hw _ (List.mem_of_getElem? (i := 82) rfl))) (Or.inr (hw _ (List.mem_of_getElem? (i := 80) rfl))) (by decide) (t := (.object "java/lang/String")) (t' := (.object "com/example/araucaria/araucaria/proto/SourcePosition")) (by decide) (by decide))))
  have Y22 : Exa Z h18 o0 "com/example/araucaria/araucaria/proto/ProtoField" := (Y17.wr W18)
  obtain ⟨T23, h23, X23, e23, W23, st23⟩ := putF X18 hx hZ hown (host := "") (Or.inl (hw _ (List.mem_of_getElem? (i := 81) rfl))) Via.refl e18 Y21 Y22 (Or.inr ⟨(hw _ (List.mem_of_getElem? (i := 82) rfl)), rfl, hnm⟩) (hw _ (List.mem_of_getElem? (i := 67) rfl)) (ty := (.object "java/lang/String")) (by decide) rfl rfl (g := (mkF m 28 #[.val (.ref o0), .val (.ref o1), .val (.int p2), .val (.ref o3), .val (.ref o4), .val (.ref o5), .val (.int p6), .val (.int p7), .val (.ref o8), .val (.ref o9), .val (.ref o10)] [(.ref o5), (.ref o0)])) rfl rfl (hb hby d11_28)
  have sz23 : h18.size ≤ h23.size := (Keep.of_wr W23).1
  have Y24 : Fld Z h23 o0 "com/example/araucaria/araucaria/proto/ProtoField" "type" "Ljava/lang/String;" (.ref o5) := Y21.same W23
  have N23 := Fr.snoc X23 N18 (by omega)
  refine Go.pre st23 ?_
  show Go p e below s _ _ _ (T23.setTop (mkF m 31 #[.val (.ref o0), .val (.ref o1), .val (.int p2), .val (.ref o3), .val (.ref o4), .val (.ref o5), .val (.int p6), .val (.int p7), .val (.ref o8), .val (.ref o9), .val (.ref o10)] []))
  refine Go.pre (st' := T23.setTop (mkF m 34 #[.val (.ref o0), .val (.ref o1), .val (.int p2), .val (.ref o3), .val (.ref o4), .val (.ref o5), .val (.int p6), .val (.int p7), .val (.ref o8), .val (.ref o9), .val (.ref o10)] [(.int p6), (.ref o0)])) (fun target kt => ?_) ?_
  · show Steps p.tables e below (T23.setTop (mkF m 31 #[.val (.ref o0), .val (.ref o1), .val (.int p2), .val (.ref o3), .val (.ref o4), .val (.ref o5), .val (.int p6), .val (.int p7), .val (.ref o8), .val (.ref o9), .val (.ref o10)] [])) _
    refine XS.aloadN X23.here hx rfl (hb hby d11_31) rfl rfl ?_
    show Steps p.tables e below (T23.setTop (mkF m 32 #[.val (.ref o0), .val (.ref o1), .val (.int p2), .val (.ref o3), .val (.ref o4), .val (.ref o5), .val (.int p6), .val (.int p7), .val (.ref o8), .val (.ref o9), .val (.ref o10)] [(.ref o0)])) _
    refine XS.iload X23.here hx rfl (hb hby d11_32) rfl ?_
    exact kt
  have Y26 : Fld Z h23 o0 "com/example/araucaria/araucaria/proto/ProtoField" "repeated" "Z" u25 := (((((F_repeated_o0.other W3 (Or.inr (slot_ne (Or.inr (hw _ (List.mem_of_getElem? (i := 84) rfl))) (Or.inr (hw _ (List.mem_of_getElem? (i := 74) rfl))) (by decide) (t := .boolean) (t' := (.object "java/lang/String")) (by decide) (by decide)))).other W8 (Or.inr (slot_ne (Or.inr (hw _ (List.mem_of_getElem? (i := 84) rfl))) (Or.inr (hw _ (List.mem_of_getElem? (i := 76) rfl))) (by decide) (t := .boolean) (t' := .int) (by decide) (by decide)))).other W13 (Or.inr (slot_ne (Or.inr (hw _ (List.mem_of_getElem? (i := 84) rfl))) (Or.inr (hw _ (List.mem_of_getElem? (i := 78) rfl))) (by decide) (t := .boolean) (t' := (.object "com/example/araucaria/araucaria/proto/SourcePosition")) (by decide) (by decide)))).other W18 (Or.inr (slot_ne (Or.inr (hw _ (List.mem_of_getElem? (i := 84) rfl))) (Or.inr (hw _ (List.mem_of_getElem? (i := 80) rfl))) (by decide) (t := .boolean) (t' := (.object "com/example/araucaria/araucaria/proto/SourcePosition")) (by decide) (by decide)))).other W23 (Or.inr (slot_ne (Or.inr (hw _ (List.mem_of_getElem? (i := 84) rfl))) (Or.inr (hw _ (List.mem_of_getElem? (i := 82) rfl))) (by decide) (t := .boolean) (t' := (.object "java/lang/String")) (by decide) (by decide))))
  have Y27 : Exa Z h23 o0 "com/example/araucaria/araucaria/proto/ProtoField" := (Y22.wr W23)
  obtain ⟨T28, h28, X28, e28, W28, st28⟩ := putFN X23 hx hZ hown (hw _ (List.mem_of_getElem? (i := 83) rfl)) Via.refl e23 Y26 Y27 (Or.inr ⟨(hw _ (List.mem_of_getElem? (i := 84) rfl)), rfl, hnm⟩) (hw _ (List.mem_of_getElem? (i := 67) rfl)) (ty := .boolean) (v' := (.int (p6 &&& 1))) (by decide) rfl (fits_nar_bool _) (g := (mkF m 34 #[.val (.ref o0), .val (.ref o1), .val (.int p2), .val (.ref o3), .val (.ref o4), .val (.ref o5), .val (.int p6), .val (.int p7), .val (.ref o8), .val (.ref o9), .val (.ref o10)] [(.int p6), (.ref o0)])) rfl rfl (hb hby d11_34)
  have sz28 : h23.size ≤ h28.size := (Keep.of_wr W28).1
  have Y29 : Fld Z h28 o0 "com/example/araucaria/araucaria/proto/ProtoField" "repeated" "Z" (.int (p6 &&& 1)) := Y26.same W28
  have N28 := Fr.snoc X28 N23 (by omega)
  refine Go.pre st28 ?_
  show Go p e below s _ _ _ (T28.setTop (mkF m 37 #[.val (.ref o0), .val (.ref o1), .val (.int p2), .val (.ref o3), .val (.ref o4), .val (.ref o5), .val (.int p6), .val (.int p7), .val (.ref o8), .val (.ref o9), .val (.ref o10)] []))
  refine Go.pre (st' := T28.setTop (mkF m 40 #[.val (.ref o0), .val (.ref o1), .val (.int p2), .val (.ref o3), .val (.ref o4), .val (.ref o5), .val (.int p6), .val (.int p7), .val (.ref o8), .val (.ref o9), .val (.ref o10)] [(.int p7), (.ref o0)])) (fun target kt => ?_) ?_
  · show Steps p.tables e below (T28.setTop (mkF m 37 #[.val (.ref o0), .val (.ref o1), .val (.int p2), .val (.ref o3), .val (.ref o4), .val (.ref o5), .val (.int p6), .val (.int p7), .val (.ref o8), .val (.ref o9), .val (.ref o10)] [])) _
    refine XS.aloadN X28.here hx rfl (hb hby d11_37) rfl rfl ?_
    show Steps p.tables e below (T28.setTop (mkF m 38 #[.val (.ref o0), .val (.ref o1), .val (.int p2), .val (.ref o3), .val (.ref o4), .val (.ref o5), .val (.int p6), .val (.int p7), .val (.ref o8), .val (.ref o9), .val (.ref o10)] [(.ref o0)])) _
    refine XS.iload X28.here hx rfl (hb hby d11_38) rfl ?_
    exact kt
  have Y31 : Fld Z h28 o0 "com/example/araucaria/araucaria/proto/ProtoField" "optional" "Z" u30 := ((((((F_optional_o0.other W3 (Or.inr (slot_ne (Or.inr (hw _ (List.mem_of_getElem? (i := 86) rfl))) (Or.inr (hw _ (List.mem_of_getElem? (i := 74) rfl))) (by decide) (t := .boolean) (t' := (.object "java/lang/String")) (by decide) (by decide)))).other W8 (Or.inr (slot_ne (Or.inr (hw _ (List.mem_of_getElem? (i := 86) rfl))) (Or.inr (hw _ (List.mem_of_getElem? (i := 76) rfl))) (by decide) (t := .boolean) (t' := .int) (by decide) (by decide)))).other W13 (Or.inr (slot_ne (Or.inr (hw _ (List.mem_of_getElem? (i := 86) rfl))) (Or.inr (hw _ (List.mem_of_getElem? (i := 78) rfl))) (by decide) (t := .boolean) (t' := (.object "com/example/araucaria/araucaria/proto/SourcePosition")) (by decide) (by decide)))).other W18 (Or.inr (slot_ne (Or.inr (hw _ (List.mem_of_getElem? (i := 86) rfl))) (Or.inr (hw _ (List.mem_of_getElem? (i := 80) rfl))) (by decide) (t := .boolean) (t' := (.object "com/example/araucaria/araucaria/proto/SourcePosition")) (by decide) (by decide)))).other W23 (Or.inr (slot_ne (Or.inr (hw _ (List.mem_of_getElem? (i := 86) rfl))) (Or.inr (hw _ (List.mem_of_getElem? (i := 82) rfl))) (by decide) (t := .boolean) (t' := (.object "java/lang/String")) (by decide) (by decide)))).other W28 (Or.inr (slot_ne (Or.inr (hw _ (List.mem_of_getElem? (i := 86) rfl))) (Or.inr (hw _ (List.mem_of_getElem? (i := 84) rfl))) (by decide) (t := .boolean) (t' := .boolean) (by decide) (by decide))))
  have Y32 : Exa Z h28 o0 "com/example/araucaria/araucaria/proto/ProtoField" := (Y27.wr W28)
  obtain ⟨T33, h33, X33, e33, W33, st33⟩ := putFN X28 hx hZ hown (hw _ (List.mem_of_getElem? (i := 85) rfl)) Via.refl e28 Y31 Y32 (Or.inr ⟨(hw _ (List.mem_of_getElem? (i := 86) rfl)), rfl, hnm⟩) (hw _ (List.mem_of_getElem? (i := 67) rfl)) (ty := .boolean) (v' := (.int (p7 &&& 1))) (by decide) rfl (fits_nar_bool _) (g := (mkF m 40 #[.val (.ref o0), .val (.ref o1), .val (.int p2), .val (.ref o3), .val (.ref o4), .val (.ref o5), .val (.int p6), .val (.int p7), .val (.ref o8), .val (.ref o9), .val (.ref o10)] [(.int p7), (.ref o0)])) rfl rfl (hb hby d11_40)
  have sz33 : h28.size ≤ h33.size := (Keep.of_wr W33).1
  have Y34 : Fld Z h33 o0 "com/example/araucaria/araucaria/proto/ProtoField" "optional" "Z" (.int (p7 &&& 1)) := Y31.same W33
  have N33 := Fr.snoc X33 N28 (by omega)
  refine Go.pre st33 ?_
  show Go p e below s _ _ _ (T33.setTop (mkF m 43 #[.val (.ref o0), .val (.ref o1), .val (.int p2), .val (.ref o3), .val (.ref o4), .val (.ref o5), .val (.int p6), .val (.int p7), .val (.ref o8), .val (.ref o9), .val (.ref o10)] []))
  refine Go.pre (st' := T33.setTop (mkF m 46 #[.val (.ref o0), .val (.ref o1), .val (.int p2), .val (.ref o3), .val (.ref o4), .val (.ref o5), .val (.int p6), .val (.int p7), .val (.ref o8), .val (.ref o9), .val (.ref o10)] [(.ref o8), (.ref o0)])) (fun target kt => ?_) ?_
  · show Steps p.tables e below (T33.setTop (mkF m 43 #[.val (.ref o0), .val (.ref o1), .val (.int p2), .val (.ref o3), .val (.ref o4), .val (.ref o5), .val (.int p6), .val (.int p7), .val (.ref o8), .val (.ref o9), .val (.ref o10)] [])) _
    refine XS.aloadN X33.here hx rfl (hb hby d11_43) rfl rfl ?_
    show Steps p.tables e below (T33.setTop (mkF m 44 #[.val (.ref o0), .val (.ref o1), .val (.int p2), .val (.ref o3), .val (.ref o4), .val (.ref o5), .val (.int p6), .val (.int p7), .val (.ref o8), .val (.ref o9), .val (.ref o10)] [(.ref o0)])) _
    refine XS.aload X33.here hx rfl (hb hby d11_44) rfl rfl ?_
    exact kt
  have Y36 : Fld Z h33 o0 "com/example/araucaria/araucaria/proto/ProtoField" "oneof" "Ljava/lang/String;" u35 := (((((((F_oneof_o0.other W3 (Or.inr (slot_ne (Or.inr (hw _ (List.mem_of_getElem? (i := 88) rfl))) (Or.inr (hw _ (List.mem_of_getElem? (i := 74) rfl))) (by decide) (t := (.object "java/lang/String")) (t' := (.object "java/lang/String")) (by decide) (by decide)))).other W8 (Or.inr (slot_ne (Or.inr (hw _ (List.mem_of_getElem? (i := 88) rfl))) (Or.inr (hw _ (List.mem_of_getElem? (i := 76) rfl))) (by decide) (t := (.object "java/lang/String")) (t' := .int) (by decide) (by decide)))).other W13 (Or.inr (slot_ne (Or.inr (hw _ (List.mem_of_getElem? (i := 88) rfl))) (Or.inr (hw _ (List.mem_of_getElem? (i := 78) rfl))) (by decide) (t := (.object "java/lang/String")) (t' := (.object "com/example/araucaria/araucaria/proto/SourcePosition")) (by decide) (by decide)))).other W18 (Or.inr (slot_ne (Or.inr (hw _ (List.mem_of_getElem? (i := 88) rfl))) (Or.inr (hw _ (List.mem_of_getElem? (i := 80) rfl))) (by decide) (t := (.object "java/lang/String")) (t' := (.object "com/example/araucaria/araucaria/proto/SourcePosition")) (by decide) (by decide)))).other W23 (Or.inr (slot_ne (Or.inr (hw _ (List.mem_of_getElem? (i := 88) rfl))) (Or.inr (hw _ (List.mem_of_getElem? (i := 82) rfl))) (by decide) (t := (.object "java/lang/String")) (t' := (.object "java/lang/String")) (by decide) (by decide)))).other W28 (Or.inr (slot_ne (Or.inr (hw _ (List.mem_of_getElem? (i := 88) rfl))) (Or.inr (hw _ (List.mem_of_getElem? (i := 84) rfl))) (by decide) (t := (.object "java/lang/String")) (t' := .boolean) (by decide) (by decide)))).other W33 (Or.inr (slot_ne (Or.inr (hw _ (List.mem_of_getElem? (i := 88) rfl))) (Or.inr (hw _ (List.mem_of_getElem? (i := 86) rfl))) (by decide) (t := (.object "java/lang/String")) (t' := .boolean) (by decide) (by decide))))
  have Y37 : Exa Z h33 o0 "com/example/araucaria/araucaria/proto/ProtoField" := (Y32.wr W33)
  obtain ⟨T38, h38, X38, e38, W38, st38⟩ := putF X33 hx hZ hown (host := "") (Or.inl (hw _ (List.mem_of_getElem? (i := 87) rfl))) Via.refl e33 Y36 Y37 (Or.inr ⟨(hw _ (List.mem_of_getElem? (i := 88) rfl)), rfl, hnm⟩) (hw _ (List.mem_of_getElem? (i := 67) rfl)) (ty := (.object "java/lang/String")) (by decide) rfl rfl (g := (mkF m 46 #[.val (.ref o0), .val (.ref o1), .val (.int p2), .val (.ref o3), .val (.ref o4), .val (.ref o5), .val (.int p6), .val (.int p7), .val (.ref o8), .val (.ref o9), .val (.ref o10)] [(.ref o8), (.ref o0)])) rfl rfl (hb hby d11_46)
  have sz38 : h33.size ≤ h38.size := (Keep.of_wr W38).1
  have Y39 : Fld Z h38 o0 "com/example/araucaria/araucaria/proto/ProtoField" "oneof" "Ljava/lang/String;" (.ref o8) := Y36.same W38
  have N38 := Fr.snoc X38 N33 (by omega)
  refine Go.pre st38 ?_
  show Go p e below s _ _ _ (T38.setTop (mkF m 49 #[.val (.ref o0), .val (.ref o1), .val (.int p2), .val (.ref o3), .val (.ref o4), .val (.ref o5), .val (.int p6), .val (.int p7), .val (.ref o8), .val (.ref o9), .val (.ref o10)] []))
  refine Go.pre (st' := T38.setTop (mkF m 52 #[.val (.ref o0), .val (.ref o1), .val (.int p2), .val (.ref o3), .val (.ref o4), .val (.ref o5), .val (.int p6), .val (.int p7), .val (.ref o8), .val (.ref o9), .val (.ref o10)] [(.ref o9), (.ref o0)])) (fun target kt => ?_) ?_
  · show Steps p.tables e below (T38.setTop (mkF m 49 #[.val (.ref o0), .val (.ref o1), .val (.int p2), .val (.ref o3), .val (.ref o4), .val (.ref o5), .val (.int p6), .val (.int p7), .val (.ref o8), .val (.ref o9), .val (.ref o10)] [])) _
    refine XS.aloadN X38.here hx rfl (hb hby d11_49) rfl rfl ?_
    show Steps p.tables e below (T38.setTop (mkF m 50 #[.val (.ref o0), .val (.ref o1), .val (.int p2), .val (.ref o3), .val (.ref o4), .val (.ref o5), .val (.int p6), .val (.int p7), .val (.ref o8), .val (.ref o9), .val (.ref o10)] [(.ref o0)])) _
    refine XS.aload X38.here hx rfl (hb hby d11_50) rfl rfl ?_
    exact kt
  have Y41 : Fld Z h38 o0 "com/example/araucaria/araucaria/proto/ProtoField" "behaviors" "Ljava/util/List;" u40 := ((((((((F_behaviors_o0.other W3 (Or.inr (slot_ne (Or.inr (hw _ (List.mem_of_getElem? (i := 90) rfl))) (Or.inr (hw _ (List.mem_of_getElem? (i := 74) rfl))) (by decide) (t := (.object "java/util/List")) (t' := (.object "java/lang/String")) (by decide) (by decide)))).other W8 (Or.inr (slot_ne (Or.inr (hw _ (List.mem_of_getElem? (i := 90) rfl))) (Or.inr (hw _ (List.mem_of_getElem? (i := 76) rfl))) (by decide) (t := (.object "java/util/List")) (t' := .int) (by decide) (by decide)))).other W13 (Or.inr (slot_ne (Or.inr (hw _ (List.mem_of_getElem? (i := 90) rfl))) (Or.inr (hw _ (List.mem_of_getElem? (i := 78) rfl))) (by decide) (t := (.object "java/util/List")) (t' := (.object "com/example/araucaria/araucaria/proto/SourcePosition")) (by decide) (by decide)))).other W18 (Or.inr (slot_ne (Or.inr (hw _ (List.mem_of_getElem? (i := 90) rfl))) (Or.inr (hw _ (List.mem_of_getElem? (i := 80) rfl))) (by decide) (t := (.object "java/util/List")) (t' := (.object "com/example/araucaria/araucaria/proto/SourcePosition")) (by decide) (by decide)))).other W23 (Or.inr (slot_ne (Or.inr (hw _ (List.mem_of_getElem? (i := 90) rfl))) (Or.inr (hw _ (List.mem_of_getElem? (i := 82) rfl))) (by decide) (t := (.object "java/util/List")) (t' := (.object "java/lang/String")) (by decide) (by decide)))).other W28 (Or.inr (slot_ne (Or.inr (hw _ (List.mem_of_getElem? (i := 90) rfl))) (Or.inr (hw _ (List.mem_of_getElem? (i := 84) rfl))) (by decide) (t := (.object "java/util/List")) (t' := .boolean) (by decide) (by decide)))).other W33 (Or.inr (slot_ne (Or.inr (hw _ (List.mem_of_getElem? (i := 90) rfl))) (Or.inr (hw _ (List.mem_of_getElem? (i := 86) rfl))) (by decide) (t := (.object "java/util/List")) (t' := .boolean) (by decide) (by decide)))).other W38 (Or.inr (slot_ne (Or.inr (hw _ (List.mem_of_getElem? (i := 90) rfl))) (Or.inr (hw _ (List.mem_of_getElem? (i := 88) rfl))) (by decide) (t := (.object "java/util/List")) (t' := (.object "java/lang/String")) (by decide) (by decide))))
  have Y42 : Exa Z h38 o0 "com/example/araucaria/araucaria/proto/ProtoField" := (Y37.wr W38)
  obtain ⟨T43, h43, X43, e43, W43, st43⟩ := putF X38 hx hZ hown (host := "") (Or.inl (hw _ (List.mem_of_getElem? (i := 89) rfl))) Via.refl e38 Y41 Y42 (Or.inr ⟨(hw _ (List.mem_of_getElem? (i := 90) rfl)), rfl, hnm⟩) (hw _ (List.mem_of_getElem? (i := 67) rfl)) (ty := (.object "java/util/List")) (by decide) rfl rfl (g := (mkF m 52 #[.val (.ref o0), .val (.ref o1), .val (.int p2), .val (.ref o3), .val (.ref o4), .val (.ref o5), .val (.int p6), .val (.int p7), .val (.ref o8), .val (.ref o9), .val (.ref o10)] [(.ref o9), (.ref o0)])) rfl rfl (hb hby d11_52)
  have sz43 : h38.size ≤ h43.size := (Keep.of_wr W43).1
  have Y44 : Fld Z h43 o0 "com/example/araucaria/araucaria/proto/ProtoField" "behaviors" "Ljava/util/List;" (.ref o9) := Y41.same W43
  have N43 := Fr.snoc X43 N38 (by omega)
  refine Go.pre st43 ?_
  show Go p e below s _ _ _ (T43.setTop (mkF m 55 #[.val (.ref o0), .val (.ref o1), .val (.int p2), .val (.ref o3), .val (.ref o4), .val (.ref o5), .val (.int p6), .val (.int p7), .val (.ref o8), .val (.ref o9), .val (.ref o10)] []))
  refine Go.pre (st' := T43.setTop (mkF m 58 #[.val (.ref o0), .val (.ref o1), .val (.int p2), .val (.ref o3), .val (.ref o4), .val (.ref o5), .val (.int p6), .val (.int p7), .val (.ref o8), .val (.ref o9), .val (.ref o10)] [(.ref o10), (.ref o0)])) (fun target kt => ?_) ?_
  · show Steps p.tables e below (T43.setTop (mkF m 55 #[.val (.ref o0), .val (.ref o1), .val (.int p2), .val (.ref o3), .val (.ref o4), .val (.ref o5), .val (.int p6), .val (.int p7), .val (.ref o8), .val (.ref o9), .val (.ref o10)] [])) _
    refine XS.aloadN X43.here hx rfl (hb hby d11_55) rfl rfl ?_
    show Steps p.tables e below (T43.setTop (mkF m 56 #[.val (.ref o0), .val (.ref o1), .val (.int p2), .val (.ref o3), .val (.ref o4), .val (.ref o5), .val (.int p6), .val (.int p7), .val (.ref o8), .val (.ref o9), .val (.ref o10)] [(.ref o0)])) _
    refine XS.aload X43.here hx rfl (hb hby d11_56) rfl rfl ?_
    exact kt
  have Y46 : Fld Z h43 o0 "com/example/araucaria/araucaria/proto/ProtoField" "jsonName" "Ljava/lang/String;" u45 := (((((((((F_jsonName_o0.other W3 (Or.inr (slot_ne (Or.inr (hw _ (List.mem_of_getElem? (i := 92) rfl))) (Or.inr (hw _ (List.mem_of_getElem? (i := 74) rfl))) (by decide) (t := (.object "java/lang/String")) (t' := (.object "java/lang/String")) (by decide) (by decide)))).other W8 (Or.inr (slot_ne (Or.inr (hw _ (List.mem_of_getElem? (i := 92) rfl))) (Or.inr (hw _ (List.mem_of_getElem? (i := 76) rfl))) (by decide) (t := (.object "java/lang/String")) (t' := .int) (by decide) (by decide)))).other W13 (Or.inr (slot_ne (Or.inr (hw _ (List.mem_of_getElem? (i := 92) rfl))) (Or.inr (hw _ (List.mem_of_getElem? (i := 78) rfl))) (by decide) (t := (.object "java/lang/String")) (t' := (.object "com/example/araucaria/araucaria/proto/SourcePosition")) (by decide) (by decide)))).other W18 (Or.inr (slot_ne (Or.inr (hw _ (List.mem_of_getElem? (i := 92) rfl))) (Or.inr (hw _ (List.mem_of_getElem? (i := 80) rfl))) (by decide) (t := (.object "java/lang/String")) (t' := (.object "com/example/araucaria/araucaria/proto/SourcePosition")) (by decide) (by decide)))).other W23 (Or.inr (slot_ne (Or.inr (hw _ (List.mem_of_getElem? (i := 92) rfl))) (Or.inr (hw _ (List.mem_of_getElem? (i := 82) rfl))) (by decide) (t := (.object "java/lang/String")) (t' := (.object "java/lang/String")) (by decide) (by decide)))).other W28 (Or.inr (slot_ne (Or.inr (hw _ (List.mem_of_getElem? (i := 92) rfl))) (Or.inr (hw _ (List.mem_of_getElem? (i := 84) rfl))) (by decide) (t := (.object "java/lang/String")) (t' := .boolean) (by decide) (by decide)))).other W33 (Or.inr (slot_ne (Or.inr (hw _ (List.mem_of_getElem? (i := 92) rfl))) (Or.inr (hw _ (List.mem_of_getElem? (i := 86) rfl))) (by decide) (t := (.object "java/lang/String")) (t' := .boolean) (by decide) (by decide)))).other W38 (Or.inr (slot_ne (Or.inr (hw _ (List.mem_of_getElem? (i := 92) rfl))) (Or.inr (hw _ (List.mem_of_getElem? (i := 88) rfl))) (by decide) (t := (.object "java/lang/String")) (t' := (.object "java/lang/String")) (by decide) (by decide)))).other W43 (Or.inr (slot_ne (Or.inr (hw _ (List.mem_of_getElem? (i := 92) rfl))) (Or.inr (hw _ (List.mem_of_getElem? (i := 90) rfl))) (by decide) (t := (.object "java/lang/String")) (t' := (.object "java/util/List")) (by decide) (by decide))))
  have Y47 : Exa Z h43 o0 "com/example/araucaria/araucaria/proto/ProtoField" := (Y42.wr W43)
  obtain ⟨T48, h48, X48, e48, W48, st48⟩ := putF X43 hx hZ hown (host := "") (Or.inl (hw _ (List.mem_of_getElem? (i := 91) rfl))) Via.refl e43 Y46 Y47 (Or.inr ⟨(hw _ (List.mem_of_getElem? (i := 92) rfl)), rfl, hnm⟩) (hw _ (List.mem_of_getElem? (i := 67) rfl)) (ty := (.object "java/lang/String")) (by decide) rfl rfl (g := (mkF m 58 #[.val (.ref o0), .val (.ref o1), .val (.int p2), .val (.ref o3), .val (.ref o4), .val (.ref o5), .val (.int p6), .val (.int p7), .val (.ref o8), .val (.ref o9), .val (.ref o10)] [(.ref o10), (.ref o0)])) rfl rfl (hb hby d11_58)
  have sz48 : h43.size ≤ h48.size := (Keep.of_wr W48).1
  have Y49 : Fld Z h48 o0 "com/example/araucaria/araucaria/proto/ProtoField" "jsonName" "Ljava/lang/String;" (.ref o10) := Y46.same W48
  have N48 := Fr.snoc X48 N43 (by omega)
  refine Go.pre st48 ?_
  show Go p e below s _ _ _ (T48.setTop (mkF m 61 #[.val (.ref o0), .val (.ref o1), .val (.int p2), .val (.ref o3), .val (.ref o4), .val (.ref o5), .val (.int p6), .val (.int p7), .val (.ref o8), .val (.ref o9), .val (.ref o10)] []))
  have Y50 : Fld Z h48 o0 "com/example/araucaria/araucaria/proto/ProtoField" "name" "Ljava/lang/String;" (.ref o1) := (((((((((Y4.other W8 (Or.inr (slot_ne (Or.inr (hw _ (List.mem_of_getElem? (i := 74) rfl))) (Or.inr (hw _ (List.mem_of_getElem? (i := 76) rfl))) (by decide) (t := (.object "java/lang/String")) (t' := .int) (by decide) (by decide)))).other W13 (Or.inr (slot_ne (Or.inr (hw _ (List.mem_of_getElem? (i := 74) rfl))) (Or.inr (hw _ (List.mem_of_getElem? (i := 78) rfl))) (by decide) (t := (.object "java/lang/String")) (t' := (.object "com/example/araucaria/araucaria/proto/SourcePosition")) (by decide) (by decide)))).other W18 (Or.inr (slot_ne (Or.inr (hw _ (List.mem_of_getElem? (i := 74) rfl))) (Or.inr (hw _ (List.mem_of_getElem? (i := 80) rfl))) (by decide) (t := (.object "java/lang/String")) (t' := (.object "com/example/araucaria/araucaria/proto/SourcePosition")) (by decide) (by decide)))).other W23 (Or.inr (slot_ne (Or.inr (hw _ (List.mem_of_getElem? (i := 74) rfl))) (Or.inr (hw _ (List.mem_of_getElem? (i := 82) rfl))) (by decide) (t := (.object "java/lang/String")) (t' := (.object "java/lang/String")) (by decide) (by decide)))).other W28 (Or.inr (slot_ne (Or.inr (hw _ (List.mem_of_getElem? (i := 74) rfl))) (Or.inr (hw _ (List.mem_of_getElem? (i := 84) rfl))) (by decide) (t := (.object "java/lang/String")) (t' := .boolean) (by decide) (by decide)))).other W33 (Or.inr (slot_ne (Or.inr (hw _ (List.mem_of_getElem? (i := 74) rfl))) (Or.inr (hw _ (List.mem_of_getElem? (i := 86) rfl))) (by decide) (t := (.object "java/lang/String")) (t' := .boolean) (by decide) (by decide)))).other W38 (Or.inr (slot_ne (Or.inr (hw _ (List.mem_of_getElem? (i := 74) rfl))) (Or.inr (hw _ (List.mem_of_getElem? (i := 88) rfl))) (by decide) (t := (.object "java/lang/String")) (t' := (.object "java/lang/String")) (by decide) (by decide)))).other W43 (Or.inr (slot_ne (Or.inr (hw _ (List.mem_of_getElem? (i := 74) rfl))) (Or.inr (hw _ (List.mem_of_getElem? (i := 90) rfl))) (by decide) (t := (.object "java/lang/String")) (t' := (.object "java/util/List")) (by decide) (by decide)))).other W48 (Or.inr (slot_ne (Or.inr (hw _ (List.mem_of_getElem? (i := 74) rfl))) (Or.inr (hw _ (List.mem_of_getElem? (i := 92) rfl))) (by decide) (t := (.object "java/lang/String")) (t' := (.object "java/lang/String")) (by decide) (by decide))))
  have Y51 : Fld Z h48 o0 "com/example/araucaria/araucaria/proto/ProtoField" "number" "I" (.int p2) := ((((((((Y9.other W13 (Or.inr (slot_ne (Or.inr (hw _ (List.mem_of_getElem? (i := 76) rfl))) (Or.inr (hw _ (List.mem_of_getElem? (i := 78) rfl))) (by decide) (t := .int) (t' := (.object "com/example/araucaria/araucaria/proto/SourcePosition")) (by decide) (by decide)))).other W18 (Or.inr (slot_ne (Or.inr (hw _ (List.mem_of_getElem? (i := 76) rfl))) (Or.inr (hw _ (List.mem_of_getElem? (i := 80) rfl))) (by decide) (t := .int) (t' := (.object "com/example/araucaria/araucaria/proto/SourcePosition")) (by decide) (by decide)))).other W23 (Or.inr (slot_ne (Or.inr (hw _ (List.mem_of_getElem? (i := 76) rfl))) (Or.inr (hw _ (List.mem_of_getElem? (i := 82) rfl))) (by decide) (t := .int) (t' := (.object "java/lang/String")) (by decide) (by decide)))).other W28 (Or.inr (slot_ne (Or.inr (hw _ (List.mem_of_getElem? (i := 76) rfl))) (Or.inr (hw _ (List.mem_of_getElem? (i := 84) rfl))) (by decide) (t := .int) (t' := .boolean) (by decide) (by decide)))).other W33 (Or.inr (slot_ne (Or.inr (hw _ (List.mem_of_getElem? (i := 76) rfl))) (Or.inr (hw _ (List.mem_of_getElem? (i := 86) rfl))) (by decide) (t := .int) (t' := .boolean) (by decide) (by decide)))).other W38 (Or.inr (slot_ne (Or.inr (hw _ (List.mem_of_getElem? (i := 76) rfl))) (Or.inr (hw _ (List.mem_of_getElem? (i := 88) rfl))) (by decide) (t := .int) (t' := (.object "java/lang/String")) (by decide) (by decide)))).other W43 (Or.inr (slot_ne (Or.inr (hw _ (List.mem_of_getElem? (i := 76) rfl))) (Or.inr (hw _ (List.mem_of_getElem? (i := 90) rfl))) (by decide) (t := .int) (t' := (.object "java/util/List")) (by decide) (by decide)))).other W48 (Or.inr (slot_ne (Or.inr (hw _ (List.mem_of_getElem? (i := 76) rfl))) (Or.inr (hw _ (List.mem_of_getElem? (i := 92) rfl))) (by decide) (t := .int) (t' := (.object "java/lang/String")) (by decide) (by decide))))
  have Y52 : Fld Z h48 o0 "com/example/araucaria/araucaria/proto/ProtoField" "position" "Lcom/example/araucaria/araucaria/proto/SourcePosition;" (.ref o3) := (((((((Y14.other W18 (Or.inr (slot_ne (Or.inr (hw _ (List.mem_of_getElem? (i := 78) rfl))) (Or.inr (hw _ (List.mem_of_getElem? (i := 80) rfl))) (by decide) (t := (.object "com/example/araucaria/araucaria/proto/SourcePosition")) (t' := (.object "com/example/araucaria/araucaria/proto/SourcePosition")) (by decide) (by decide)))).other W23 (Or.inr (slot_ne (Or.inr (hw _ (List.mem_of_getElem? (i := 78) rfl))) (Or.inr (hw _ (List.mem_of_getElem? (i := 82) rfl))) (by decide) (t := (.object "com/example/araucaria/araucaria/proto/SourcePosition")) (t' := (.object "java/lang/String")) (by decide) (by decide)))).other W28 (Or.inr (slot_ne (Or.inr (hw _ (List.mem_of_getElem? (i := 78) rfl))) (Or.inr (hw _ (List.mem_of_getElem? (i := 84) rfl))) (by decide) (t := (.object "com/example/araucaria/araucaria/proto/SourcePosition")) (t' := .boolean) (by decide) (by decide)))).other W33 (Or.inr (slot_ne (Or.inr (hw _ (List.mem_of_getElem? (i := 78) rfl))) (Or.inr (hw _ (List.mem_of_getElem? (i := 86) rfl))) (by decide) (t := (.object "com/example/araucaria/araucaria/proto/SourcePosition")) (t' := .boolean) (by decide) (by decide)))).other W38 (Or.inr (slot_ne (Or.inr (hw _ (List.mem_of_getElem? (i := 78) rfl))) (Or.inr (hw _ (List.mem_of_getElem? (i := 88) rfl))) (by decide) (t := (.object "com/example/araucaria/araucaria/proto/SourcePosition")) (t' := (.object "java/lang/String")) (by decide) (by decide)))).other W43 (Or.inr (slot_ne (Or.inr (hw _ (List.mem_of_getElem? (i := 78) rfl))) (Or.inr (hw _ (List.mem_of_getElem? (i := 90) rfl))) (by decide) (t := (.object "com/example/araucaria/araucaria/proto/SourcePosition")) (t' := (.object "java/util/List")) (by decide) (by decide)))).other W48 (Or.inr (slot_ne (Or.inr (hw _ (List.mem_of_getElem? (i := 78) rfl))) (Or.inr (hw _ (List.mem_of_getElem? (i := 92) rfl))) (by decide) (t := (.object "com/example/araucaria/araucaria/proto/SourcePosition")) (t' := (.object "java/lang/String")) (by decide) (by decide))))
  have Y53 : Fld Z h48 o0 "com/example/araucaria/araucaria/proto/ProtoField" "numberPosition" "Lcom/example/araucaria/araucaria/proto/SourcePosition;" (.ref o4) := ((((((Y19.other W23 (Or.inr (slot_ne (Or.inr (hw _ (List.mem_of_getElem? (i := 80) rfl))) (Or.inr (hw _ (List.mem_of_getElem? (i := 82) rfl))) (by decide) (t := (.object "com/example/araucaria/araucaria/proto/SourcePosition")) (t' := (.object "java/lang/String")) (by decide) (by decide)))).other W28 (Or.inr (slot_ne (Or.inr (hw _ (List.mem_of_getElem? (i := 80) rfl))) (Or.inr (hw _ (List.mem_of_getElem? (i := 84) rfl))) (by decide) (t := (.object "com/example/araucaria/araucaria/proto/SourcePosition")) (t' := .boolean) (by decide) (by decide)))).other W33 (Or.inr (slot_ne (Or.inr (hw _ (List.mem_of_getElem? (i := 80) rfl))) (Or.inr (hw _ (List.mem_of_getElem? (i := 86) rfl))) (by decide) (t := (.object "com/example/araucaria/araucaria/proto/SourcePosition")) (t' := .boolean) (by decide) (by decide)))).other W38 (Or.inr (slot_ne (Or.inr (hw _ (List.mem_of_getElem? (i := 80) rfl))) (Or.inr (hw _ (List.mem_of_getElem? (i := 88) rfl))) (by decide) (t := (.object "com/example/araucaria/araucaria/proto/SourcePosition")) (t' := (.object "java/lang/String")) (by decide) (by decide)))).other W43 (Or.inr (slot_ne (Or.inr (hw _ (List.mem_of_getElem? (i := 80) rfl))) (Or.inr (hw _ (List.mem_of_getElem? (i := 90) rfl))) (by decide) (t := (.object "com/example/araucaria/araucaria/proto/SourcePosition")) (t' := (.object "java/util/List")) (by decide) (by decide)))).other W48 (Or.inr (slot_ne (Or.inr (hw _ (List.mem_of_getElem? (i := 80) rfl))) (Or.inr (hw _ (List.mem_of_getElem? (i := 92) rfl))) (by decide) (t := (.object "com/example/araucaria/araucaria/proto/SourcePosition")) (t' := (.object "java/lang/String")) (by decide) (by decide))))
  have Y54 : Fld Z h48 o0 "com/example/araucaria/araucaria/proto/ProtoField" "type" "Ljava/lang/String;" (.ref o5) := (((((Y24.other W28 (Or.inr (slot_ne (Or.inr (hw _ (List.mem_of_getElem? (i := 82) rfl))) (Or.inr (hw _ (List.mem_of_getElem? (i := 84) rfl))) (by decide) (t := (.object "java/lang/String")) (t' := .boolean) (by decide) (by decide)))).other W33 (Or.inr (slot_ne (Or.inr (hw _ (List.mem_of_getElem? (i := 82) rfl))) (Or.inr (hw _ (List.mem_of_getElem? (i := 86) rfl))) (by decide) (t := (.object "java/lang/String")) (t' := .boolean) (by decide) (by decide)))).other W38 (Or.inr (slot_ne (Or.inr (hw _ (List.mem_of_getElem? (i := 82) rfl))) (Or.inr (hw _ (List.mem_of_getElem? (i := 88) rfl))) (by decide) (t := (.object "java/lang/String")) (t' := (.object "java/lang/String")) (by decide) (by decide)))).other W43 (Or.inr (slot_ne (Or.inr (hw _ (List.mem_of_getElem? (i := 82) rfl))) (Or.inr (hw _ (List.mem_of_getElem? (i := 90) rfl))) (by decide) (t := (.object "java/lang/String")) (t' := (.object "java/util/List")) (by decide) (by decide)))).other W48 (Or.inr (slot_ne (Or.inr (hw _ (List.mem_of_getElem? (i := 82) rfl))) (Or.inr (hw _ (List.mem_of_getElem? (i := 92) rfl))) (by decide) (t := (.object "java/lang/String")) (t' := (.object "java/lang/String")) (by decide) (by decide))))
  have Y55 : Fld Z h48 o0 "com/example/araucaria/araucaria/proto/ProtoField" "repeated" "Z" (.int (p6 &&& 1)) := ((((Y29.other W33 (Or.inr (slot_ne (Or.inr (hw _ (List.mem_of_getElem? (i := 84) rfl))) (Or.inr (hw _ (List.mem_of_getElem? (i := 86) rfl))) (by decide) (t := .boolean) (t' := .boolean) (by decide) (by decide)))).other W38 (Or.inr (slot_ne (Or.inr (hw _ (List.mem_of_getElem? (i := 84) rfl))) (Or.inr (hw _ (List.mem_of_getElem? (i := 88) rfl))) (by decide) (t := .boolean) (t' := (.object "java/lang/String")) (by decide) (by decide)))).other W43 (Or.inr (slot_ne (Or.inr (hw _ (List.mem_of_getElem? (i := 84) rfl))) (Or.inr (hw _ (List.mem_of_getElem? (i := 90) rfl))) (by decide) (t := .boolean) (t' := (.object "java/util/List")) (by decide) (by decide)))).other W48 (Or.inr (slot_ne (Or.inr (hw _ (List.mem_of_getElem? (i := 84) rfl))) (Or.inr (hw _ (List.mem_of_getElem? (i := 92) rfl))) (by decide) (t := .boolean) (t' := (.object "java/lang/String")) (by decide) (by decide))))
  have Y56 : Fld Z h48 o0 "com/example/araucaria/araucaria/proto/ProtoField" "optional" "Z" (.int (p7 &&& 1)) := (((Y34.other W38 (Or.inr (slot_ne (Or.inr (hw _ (List.mem_of_getElem? (i := 86) rfl))) (Or.inr (hw _ (List.mem_of_getElem? (i := 88) rfl))) (by decide) (t := .boolean) (t' := (.object "java/lang/String")) (by decide) (by decide)))).other W43 (Or.inr (slot_ne (Or.inr (hw _ (List.mem_of_getElem? (i := 86) rfl))) (Or.inr (hw _ (List.mem_of_getElem? (i := 90) rfl))) (by decide) (t := .boolean) (t' := (.object "java/util/List")) (by decide) (by decide)))).other W48 (Or.inr (slot_ne (Or.inr (hw _ (List.mem_of_getElem? (i := 86) rfl))) (Or.inr (hw _ (List.mem_of_getElem? (i := 92) rfl))) (by decide) (t := .boolean) (t' := (.object "java/lang/String")) (by decide) (by decide))))
  have Y57 : Fld Z h48 o0 "com/example/araucaria/araucaria/proto/ProtoField" "oneof" "Ljava/lang/String;" (.ref o8) := ((Y39.other W43 (Or.inr (slot_ne (Or.inr (hw _ (List.mem_of_getElem? (i := 88) rfl))) (Or.inr (hw _ (List.mem_of_getElem? (i := 90) rfl))) (by decide) (t := (.object "java/lang/String")) (t' := (.object "java/util/List")) (by decide) (by decide)))).other W48 (Or.inr (slot_ne (Or.inr (hw _ (List.mem_of_getElem? (i := 88) rfl))) (Or.inr (hw _ (List.mem_of_getElem? (i := 92) rfl))) (by decide) (t := (.object "java/lang/String")) (t' := (.object "java/lang/String")) (by decide) (by decide))))
  have Y58 : Fld Z h48 o0 "com/example/araucaria/araucaria/proto/ProtoField" "behaviors" "Ljava/util/List;" (.ref o9) := (Y44.other W48 (Or.inr (slot_ne (Or.inr (hw _ (List.mem_of_getElem? (i := 90) rfl))) (Or.inr (hw _ (List.mem_of_getElem? (i := 92) rfl))) (by decide) (t := (.object "java/util/List")) (t' := (.object "java/lang/String")) (by decide) (by decide))))
  exact Go.ret0 X48 hx hlk hrt (hb hby d11_61) (by decide) (by decide) (by rw [e48]; exact ⟨rfl, N48, (((((((((((Keep.refl h0 [o0]).wr W3 (Or.inl (List.mem_of_getElem? (i := 0) rfl))).wr W8 (Or.inl (List.mem_of_getElem? (i := 0) rfl))).wr W13 (Or.inl (List.mem_of_getElem? (i := 0) rfl))).wr W18 (Or.inl (List.mem_of_getElem? (i := 0) rfl))).wr W23 (Or.inl (List.mem_of_getElem? (i := 0) rfl))).wr W28 (Or.inl (List.mem_of_getElem? (i := 0) rfl))).wr W33 (Or.inl (List.mem_of_getElem? (i := 0) rfl))).wr W38 (Or.inl (List.mem_of_getElem? (i := 0) rfl))).wr W43 (Or.inl (List.mem_of_getElem? (i := 0) rfl))).wr W48 (Or.inl (List.mem_of_getElem? (i := 0) rfl))), (((((((((((KF.refl Z h0 [(o0, Jvm.RoadKit.slotOf Z "com/example/araucaria/araucaria/proto/ProtoField" "name" "Ljava/lang/String;"), (o0, Jvm.RoadKit.slotOf Z "com/example/araucaria/araucaria/proto/ProtoField" "number" "I"), (o0, Jvm.RoadKit.slotOf Z "com/example/araucaria/araucaria/proto/ProtoField" "position" "Lcom/example/araucaria/araucaria/proto/SourcePosition;"), (o0, Jvm.RoadKit.slotOf Z "com/example/araucaria/araucaria/proto/ProtoField" "numberPosition" "Lcom/example/araucaria/araucaria/proto/SourcePosition;"), (o0, Jvm.RoadKit.slotOf Z "com/example/araucaria/araucaria/proto/ProtoField" "type" "Ljava/lang/String;"), (o0, Jvm.RoadKit.slotOf Z "com/example/araucaria/araucaria/proto/ProtoField" "repeated" "Z"), (o0, Jvm.RoadKit.slotOf Z "com/example/araucaria/araucaria/proto/ProtoField" "optional" "Z"), (o0, Jvm.RoadKit.slotOf Z "com/example/araucaria/araucaria/proto/ProtoField" "oneof" "Ljava/lang/String;"), (o0, Jvm.RoadKit.slotOf Z "com/example/araucaria/araucaria/proto/ProtoField" "behaviors" "Ljava/util/List;"), (o0, Jvm.RoadKit.slotOf Z "com/example/araucaria/araucaria/proto/ProtoField" "jsonName" "Ljava/lang/String;")]).wr W3 (Or.inl (List.mem_of_getElem? (i := 0) rfl))).wr W8 (Or.inl (List.mem_of_getElem? (i := 1) rfl))).wr W13 (Or.inl (List.mem_of_getElem? (i := 2) rfl))).wr W18 (Or.inl (List.mem_of_getElem? (i := 3) rfl))).wr W23 (Or.inl (List.mem_of_getElem? (i := 4) rfl))).wr W28 (Or.inl (List.mem_of_getElem? (i := 5) rfl))).wr W33 (Or.inl (List.mem_of_getElem? (i := 6) rfl))).wr W38 (Or.inl (List.mem_of_getElem? (i := 7) rfl))).wr W43 (Or.inl (List.mem_of_getElem? (i := 8) rfl))).wr W48 (Or.inl (List.mem_of_getElem? (i := 9) rfl))), Y50, Y51, Y52, Y53, Y54, Y55, Y56, Y57, Y58, Y49⟩)
/-! ProtoField.hasPresence (12t) -/
theorem d12_0 : decode prog_82_method_5_code 0 = .ok (.aload_n 0, 1) := by decide +kernel
theorem d12_1 : decode prog_82_method_5_code 1 = .ok (.getfield 31, 3) := by decide +kernel
theorem d12_4 : decode prog_82_method_5_code 4 = .ok (.ifCond .ne 10, 3) := by decide +kernel
theorem d12_14 : decode prog_82_method_5_code 14 = .ok (.iconst 1, 1) := by decide +kernel
theorem d12_15 : decode prog_82_method_5_code 15 = .ok (.goto 4, 3) := by decide +kernel
theorem d12_19 : decode prog_82_method_5_code 19 = .ok (.ireturn, 1) := by decide +kernel
theorem pn_12 : plainName "com/example/araucaria/araucaria/proto/ProtoField" = true := by first | (simp [plainName, overriddenIn]; done) | decide +kernel
theorem ef_12t (m : MethodId) (o0 : Addr) : entryFrame m #[(.ref o0)] 1 = (mkF m 0 #[.val (.ref o0)] []) := by first | (simp [entryFrame, mkF, argsToLocals, Value.category]; done) | rfl
def Q12t (Z : State) (o0 : Addr) (w1 : Int32) (h0 : Heap) (n0 : Nat) (v : Option Value) (h : Heap) (L : List Loc) : Prop := v = some (.int (1 : Int32)) ∧ Fr n0 L ∧ h = h0
set_option maxRecDepth 65536 in
set_option maxHeartbeats 40000000 in
theorem rm12t (l : Launch) (Z : State) (a0 : Array Value) (hw : ∀ d ∈ tables_1, d.before a0 Z = true) (ws : List Jvm.Cond) (o0 : Addr) (w1 : Int32) (h0 : Heap) (n0 : Nat) (Z0 : n0 ≤ h0.size) (F_optional_o0 : Fld Z h0 o0 "com/example/araucaria/araucaria/proto/ProtoField" "optional" "Z" (.int w1)) (hc4 : ¬ (w1 = (0 : Int32))) :
    MetFree l (⟨"com/example/araucaria/araucaria/proto/ProtoField", "hasPresence", "()Z"⟩ : MethodName) (head1 (Jvm.Cond.code (⟨"com/example/araucaria/araucaria/proto/ProtoField", "hasPresence", "()Z"⟩ : MethodName) prog_82_method_5_code 1 (some .boolean) :: ws) ({ frames := 0, cells := 0, slots := 0, locals := 0 } : Room)) (fun a U => a = #[(.ref o0)] ∧ Z.Warmed39 U.vm ∧ U.heap = h0) (fun _ _ _ _ _ => True) (fun _ U o U' => ∃ v L, o = .returned v ∧ Q12t Z o0 w1 h0 n0 v U'.heap L ∧ FrameEnd U o U' L ({ frames := 0, cells := 0, slots := 0, locals := 0 } : Room).cells ({ frames := 0, cells := 0, slots := 0, locals := 0 } : Room).slots) := by
  refine MetFree.of_bodySF (plainFor_of_name pn_12) hisR ?_
  intro p e s m args below meth c s₁ Bd hml0 hP hK
  obtain ⟨rfl, hZ, hh⟩ := hP
  have hx := Bd.exec
  have hby := Bd.bytes
  have hml : c.maxLocals = 1 := hml0
  have hown : s.vm.findClass "com/example/araucaria/araucaria/proto/ProtoField" = some m.cls := findClass_of_methodNamed Bd.named
  have hnm := (name_of_methodNamed Bd.named Bd.method).1
  have hrt := Bd.returns
  have hlk := Bd.notSynchronized
  have X0 : Stand p l e ({ frames := 0, cells := 0, slots := 0, locals := 0 } : Room) s m #[(.ref o0)] below meth c s₁ [] 0 0 := Stand.of_body Bd
  have e0 : s₁.heap = h0 := by rw [← hh, Bd.state]; rfl
  have N0 := Fr.nil n0
  have lt_F_optional_o0 : LT.lt (α := Nat) o0 h0.size := F_optional_o0.lt
  show Go p e below s 0 0 (Q12t Z o0 w1 h0 n0) (s₁.setTop (entryFrame m #[(.ref o0)] 1))
  rw [ef_12t m o0]
  refine Go.pre (st' := s₁.setTop (mkF m 1 #[.val (.ref o0)] [(.ref o0)])) (fun target kt => ?_) ?_
  · show Steps p.tables e below (s₁.setTop (mkF m 0 #[.val (.ref o0)] [])) _
    refine XS.aloadN X0.here hx rfl (hb hby d12_0) rfl rfl ?_
    exact kt
  obtain ⟨T2, X2, e2, st2⟩ := getF X0 hx hZ hown (host := "") (Or.inl (hw _ (List.mem_of_getElem? (i := 85) rfl))) Via.refl e0 F_optional_o0 (g := (mkF m 1 #[.val (.ref o0)] [(.ref o0)])) rfl rfl (hb hby d12_1)
  refine Go.pre st2 ?_
  show Go p e below s _ _ _ (T2.setTop (mkF m 4 #[.val (.ref o0)] [(.int w1)]))
  refine Go.pre (st' := T2.setTop (mkF m 19 #[.val (.ref o0)] [(.int (1 : Int32))])) (fun target kt => ?_) ?_
  · show Steps p.tables e below (T2.setTop (mkF m 4 #[.val (.ref o0)] [(.int w1)])) _
    refine XS.ifYes X2.here hx rfl (pc0 := 4) (pc' := 14) rfl (hb hby d12_4) rfl ((if0 _ _).trans (feq hc4).2) (by decide) (by decide) ?_
    show Steps p.tables e below (T2.setTop (mkF m 14 #[.val (.ref o0)] [])) _
    refine XS.iconst X2.here hx rfl (hb hby d12_14) ?_
    show Steps p.tables e below (T2.setTop (mkF m 15 #[.val (.ref o0)] [(.int (1 : Int32))])) _
    refine XS.goto X2.here hx rfl (pc0 := 15) (pc' := 19) rfl (hb hby d12_15) (by decide) (by decide) ?_
    exact kt
  exact Go.retN X2 hx hlk hrt (z' := (1 : Int32)) (by simp) (hb hby d12_19) rfl (by decide) (by decide) (by rw [e2]; exact ⟨rfl, N0, rfl⟩)
/-! ProtoField.hasPresence (12fN) -/
theorem d12_7 : decode prog_82_method_5_code 7 = .ok (.aload_n 0, 1) := by decide +kernel
theorem d12_8 : decode prog_82_method_5_code 8 = .ok (.getfield 34, 3) := by decide +kernel
theorem d12_11 : decode prog_82_method_5_code 11 = .ok (.ifnull 7, 3) := by decide +kernel
theorem d12_18 : decode prog_82_method_5_code 18 = .ok (.iconst 0, 1) := by decide +kernel
theorem ef_12fN (m : MethodId) (o0 : Addr) : entryFrame m #[(.ref o0)] 1 = (mkF m 0 #[.val (.ref o0)] []) := by first | (simp [entryFrame, mkF, argsToLocals, Value.category]; done) | rfl
def Q12fN (Z : State) (o0 : Addr) (w1 : Int32) (h0 : Heap) (n0 : Nat) (v : Option Value) (h : Heap) (L : List Loc) : Prop := v = some (.int (0 : Int32)) ∧ Fr n0 L ∧ h = h0
set_option maxRecDepth 65536 in
set_option maxHeartbeats 40000000 in
theorem rm12fN (l : Launch) (Z : State) (a0 : Array Value) (hw : ∀ d ∈ tables_1, d.before a0 Z = true) (ws : List Jvm.Cond) (o0 : Addr) (w1 : Int32) (h0 : Heap) (n0 : Nat) (Z0 : n0 ≤ h0.size) (F_oneof : Fld Z h0 o0 "com/example/araucaria/araucaria/proto/ProtoField" "oneof" "Ljava/lang/String;" .null) (F_optional_o0 : Fld Z h0 o0 "com/example/araucaria/araucaria/proto/ProtoField" "optional" "Z" (.int w1)) (hc4 : w1 = (0 : Int32)) :
    MetFree l (⟨"com/example/araucaria/araucaria/proto/ProtoField", "hasPresence", "()Z"⟩ : MethodName) (head1 (Jvm.Cond.code (⟨"com/example/araucaria/araucaria/proto/ProtoField", "hasPresence", "()Z"⟩ : MethodName) prog_82_method_5_code 1 (some .boolean) :: ws) ({ frames := 0, cells := 0, slots := 0, locals := 0 } : Room)) (fun a U => a = #[(.ref o0)] ∧ Z.Warmed39 U.vm ∧ U.heap = h0) (fun _ _ _ _ _ => True) (fun _ U o U' => ∃ v L, o = .returned v ∧ Q12fN Z o0 w1 h0 n0 v U'.heap L ∧ FrameEnd U o U' L ({ frames := 0, cells := 0, slots := 0, locals := 0 } : Room).cells ({ frames := 0, cells := 0, slots := 0, locals := 0 } : Room).slots) := by
  refine MetFree.of_bodySF (plainFor_of_name pn_12) hisR ?_
  intro p e s m args below meth c s₁ Bd hml0 hP hK
  obtain ⟨rfl, hZ, hh⟩ := hP
  have hx := Bd.exec
  have hby := Bd.bytes
  have hml : c.maxLocals = 1 := hml0
  have hown : s.vm.findClass "com/example/araucaria/araucaria/proto/ProtoField" = some m.cls := findClass_of_methodNamed Bd.named
  have hnm := (name_of_methodNamed Bd.named Bd.method).1
  have hrt := Bd.returns
  have hlk := Bd.notSynchronized
  have X0 : Stand p l e ({ frames := 0, cells := 0, slots := 0, locals := 0 } : Room) s m #[(.ref o0)] below meth c s₁ [] 0 0 := Stand.of_body Bd
  have e0 : s₁.heap = h0 := by rw [← hh, Bd.state]; rfl
  have N0 := Fr.nil n0
  have lt_F_oneof : LT.lt (α := Nat) o0 h0.size := F_oneof.lt
  have lt_F_optional_o0 : LT.lt (α := Nat) o0 h0.size := F_optional_o0.lt
  show Go p e below s 0 0 (Q12fN Z o0 w1 h0 n0) (s₁.setTop (entryFrame m #[(.ref o0)] 1))
  rw [ef_12fN m o0]
  refine Go.pre (st' := s₁.setTop (mkF m 1 #[.val (.ref o0)] [(.ref o0)])) (fun target kt => ?_) ?_
  · show Steps p.tables e below (s₁.setTop (mkF m 0 #[.val (.ref o0)] [])) _
    refine XS.aloadN X0.here hx rfl (hb hby d12_0) rfl rfl ?_
    exact kt
  obtain ⟨T2, X2, e2, st2⟩ := getF X0 hx hZ hown (host := "") (Or.inl (hw _ (List.mem_of_getElem? (i := 85) rfl))) Via.refl e0 F_optional_o0 (g := (mkF m 1 #[.val (.ref o0)] [(.ref o0)])) rfl rfl (hb hby d12_1)
  refine Go.pre st2 ?_
  show Go p e below s _ _ _ (T2.setTop (mkF m 4 #[.val (.ref o0)] [(.int w1)]))
  refine Go.pre (st' := T2.setTop (mkF m 8 #[.val (.ref o0)] [(.ref o0)])) (fun target kt => ?_) ?_
  · show Steps p.tables e below (T2.setTop (mkF m 4 #[.val (.ref o0)] [(.int w1)])) _
    refine XS.ifNo X2.here hx rfl (hb hby d12_4) rfl ((if0 _ _).trans (teq hc4).2) ?_
    show Steps p.tables e below (T2.setTop (mkF m 7 #[.val (.ref o0)] [])) _
    refine XS.aloadN X2.here hx rfl (hb hby d12_7) rfl rfl ?_
    exact kt
  obtain ⟨T3, X3, e3, st3⟩ := getF X2 hx hZ hown (host := "") (Or.inl (hw _ (List.mem_of_getElem? (i := 87) rfl))) Via.refl e2 F_oneof (g := (mkF m 8 #[.val (.ref o0)] [(.ref o0)])) rfl rfl (hb hby d12_8)
  refine Go.pre st3 ?_
  show Go p e below s _ _ _ (T3.setTop (mkF m 11 #[.val (.ref o0)] [.null]))
  refine Go.pre (st' := T3.setTop (mkF m 19 #[.val (.ref o0)] [(.int (0 : Int32))])) (fun target kt => ?_) ?_
  · show Steps p.tables e below (T3.setTop (mkF m 11 #[.val (.ref o0)] [.null])) _
    refine XS.ifnullYes X3.here hx rfl (pc0 := 11) (pc' := 18) rfl (hb hby d12_11) rfl (by decide) (by decide) ?_
    show Steps p.tables e below (T3.setTop (mkF m 18 #[.val (.ref o0)] [])) _
    refine XS.iconst X3.here hx rfl (hb hby d12_18) ?_
    exact kt
  exact Go.retN X3 hx hlk hrt (z' := (0 : Int32)) (by simp) (hb hby d12_19) rfl (by decide) (by decide) (by rw [e3]; exact ⟨rfl, N0, rfl⟩)
/-! ProtoField.hasPresence (12fR) -/
theorem ef_12fR (m : MethodId) (o0 : Addr) : entryFrame m #[(.ref o0)] 1 = (mkF m 0 #[.val (.ref o0)] []) := by first | (simp [entryFrame, mkF, argsToLocals, Value.category]; done) | rfl
def Q12fR (Z : State) (o0 : Addr) (r9 : Addr) (w1 : Int32) (h0 : Heap) (n0 : Nat) (v : Option Value) (h : Heap) (L : List Loc) : Prop := v = some (.int (1 : Int32)) ∧ Fr n0 L ∧ h = h0
set_option maxRecDepth 65536 in
set_option maxHeartbeats 40000000 in
theorem rm12fR (l : Launch) (Z : State) (a0 : Array Value) (hw : ∀ d ∈ tables_1, d.before a0 Z = true) (ws : List Jvm.Cond) (o0 : Addr) (r9 : Addr) (w1 : Int32) (h0 : Heap) (n0 : Nat) (Z0 : n0 ≤ h0.size) (F_oneof : Fld Z h0 o0 "com/example/araucaria/araucaria/proto/ProtoField" "oneof" "Ljava/lang/String;" (.ref r9)) (F_optional_o0 : Fld Z h0 o0 "com/example/araucaria/araucaria/proto/ProtoField" "optional" "Z" (.int w1)) (hc4 : w1 = (0 : Int32)) :
    MetFree l (⟨"com/example/araucaria/araucaria/proto/ProtoField", "hasPresence", "()Z"⟩ : MethodName) (head1 (Jvm.Cond.code (⟨"com/example/araucaria/araucaria/proto/ProtoField", "hasPresence", "()Z"⟩ : MethodName) prog_82_method_5_code 1 (some .boolean) :: ws) ({ frames := 0, cells := 0, slots := 0, locals := 0 } : Room)) (fun a U => a = #[(.ref o0)] ∧ Z.Warmed39 U.vm ∧ U.heap = h0) (fun _ _ _ _ _ => True) (fun _ U o U' => ∃ v L, o = .returned v ∧ Q12fR Z o0 r9 w1 h0 n0 v U'.heap L ∧ FrameEnd U o U' L ({ frames := 0, cells := 0, slots := 0, locals := 0 } : Room).cells ({ frames := 0, cells := 0, slots := 0, locals := 0 } : Room).slots) := by
  refine MetFree.of_bodySF (plainFor_of_name pn_12) hisR ?_
  intro p e s m args below meth c s₁ Bd hml0 hP hK
  obtain ⟨rfl, hZ, hh⟩ := hP
  have hx := Bd.exec
  have hby := Bd.bytes
  have hml : c.maxLocals = 1 := hml0
  have hown : s.vm.findClass "com/example/araucaria/araucaria/proto/ProtoField" = some m.cls := findClass_of_methodNamed Bd.named
  have hnm := (name_of_methodNamed Bd.named Bd.method).1
  have hrt := Bd.returns
  have hlk := Bd.notSynchronized
  have X0 : Stand p l e ({ frames := 0, cells := 0, slots := 0, locals := 0 } : Room) s m #[(.ref o0)] below meth c s₁ [] 0 0 := Stand.of_body Bd
  have e0 : s₁.heap = h0 := by rw [← hh, Bd.state]; rfl
  have N0 := Fr.nil n0
  have lt_F_oneof : LT.lt (α := Nat) o0 h0.size := F_oneof.lt
  have lt_F_optional_o0 : LT.lt (α := Nat) o0 h0.size := F_optional_o0.lt
  show Go p e below s 0 0 (Q12fR Z o0 r9 w1 h0 n0) (s₁.setTop (entryFrame m #[(.ref o0)] 1))
  rw [ef_12fR m o0]
  refine Go.pre (st' := s₁.setTop (mkF m 1 #[.val (.ref o0)] [(.ref o0)])) (fun target kt => ?_) ?_
  · show Steps p.tables e below (s₁.setTop (mkF m 0 #[.val (.ref o0)] [])) _
    refine XS.aloadN X0.here hx rfl (hb hby d12_0) rfl rfl ?_
    exact kt
  obtain ⟨T2, X2, e2, st2⟩ := getF X0 hx hZ hown (host := "") (Or.inl (hw _ (List.mem_of_getElem? (i := 85) rfl))) Via.refl e0 F_optional_o0 (g := (mkF m 1 #[.val (.ref o0)] [(.ref o0)])) rfl rfl (hb hby d12_1)
  refine Go.pre st2 ?_
  show Go p e below s _ _ _ (T2.setTop (mkF m 4 #[.val (.ref o0)] [(.int w1)]))
  refine Go.pre (st' := T2.setTop (mkF m 8 #[.val (.ref o0)] [(.ref o0)])) (fun target kt => ?_) ?_
  · show Steps p.tables e below (T2.setTop (mkF m 4 #[.val (.ref o0)] [(.int w1)])) _
    refine XS.ifNo X2.here hx rfl (hb hby d12_4) rfl ((if0 _ _).trans (teq hc4).2) ?_
    show Steps p.tables e below (T2.setTop (mkF m 7 #[.val (.ref o0)] [])) _
    refine XS.aloadN X2.here hx rfl (hb hby d12_7) rfl rfl ?_
    exact kt
  obtain ⟨T3, X3, e3, st3⟩ := getF X2 hx hZ hown (host := "") (Or.inl (hw _ (List.mem_of_getElem? (i := 87) rfl))) Via.refl e2 F_oneof (g := (mkF m 8 #[.val (.ref o0)] [(.ref o0)])) rfl rfl (hb hby d12_8)
  refine Go.pre st3 ?_
  show Go p e below s _ _ _ (T3.setTop (mkF m 11 #[.val (.ref o0)] [(.ref r9)]))
  refine Go.pre (st' := T3.setTop (mkF m 19 #[.val (.ref o0)] [(.int (1 : Int32))])) (fun target kt => ?_) ?_
  · show Steps p.tables e below (T3.setTop (mkF m 11 #[.val (.ref o0)] [(.ref r9)])) _
    refine XS.ifnullNo X3.here hx rfl (hb hby d12_11) rfl ?_
    show Steps p.tables e below (T3.setTop (mkF m 14 #[.val (.ref o0)] [])) _
    refine XS.iconst X3.here hx rfl (hb hby d12_14) ?_
    show Steps p.tables e below (T3.setTop (mkF m 15 #[.val (.ref o0)] [(.int (1 : Int32))])) _
    refine XS.goto X3.here hx rfl (pc0 := 15) (pc' := 19) rfl (hb hby d12_15) (by decide) (by decide) ?_
    exact kt
  exact Go.retN X3 hx hlk hrt (z' := (1 : Int32)) (by simp) (hb hby d12_19) rfl (by decide) (by decide) (by rw [e3]; exact ⟨rfl, N0, rfl⟩)
/-! Math.max (19) -/
theorem d19_0 : decode jdk_29_method_65_code 0 = .ok (.iload_n 0, 1) := by decide +kernel
theorem d19_1 : decode jdk_29_method_65_code 1 = .ok (.iload_n 1, 1) := by decide +kernel
theorem d19_2 : decode jdk_29_method_65_code 2 = .ok (.if_icmp .lt 7, 3) := by decide +kernel
theorem d19_5 : decode jdk_29_method_65_code 5 = .ok (.iload_n 0, 1) := by decide +kernel
theorem d19_6 : decode jdk_29_method_65_code 6 = .ok (.goto 4, 3) := by decide +kernel
theorem d19_10 : decode jdk_29_method_65_code 10 = .ok (.ireturn, 1) := by decide +kernel
theorem pn_19 : plainFor (⟨"java/lang/Math", "max", "(II)I"⟩ : MethodName) = true := Jvm.Free.JP.mathPlain rfl (by decide +kernel)
theorem ef_19 (m : MethodId)  : entryFrame m #[(.int (10 : Int32)), (.int (1 : Int32))] 2 = (mkF m 0 #[.val (.int (10 : Int32)), .val (.int (1 : Int32))] []) := by first | (simp [entryFrame, mkF, argsToLocals, Value.category]; done) | rfl
def Q19 (Z : State)  (h0 : Heap) (n0 : Nat) (v : Option Value) (h : Heap) (L : List Loc) : Prop := v = some (.int (10 : Int32)) ∧ Fr n0 L ∧ h = h0
set_option maxRecDepth 65536 in
set_option maxHeartbeats 40000000 in
theorem rm19 (l : Launch) (Z : State) (a0 : Array Value) (hw : ∀ d ∈ tables_1, d.before a0 Z = true) (ws : List Jvm.Cond)  (h0 : Heap) (n0 : Nat) (Z0 : n0 ≤ h0.size) :
    MetFree l (⟨"java/lang/Math", "max", "(II)I"⟩ : MethodName) (head1 (Jvm.Cond.code (⟨"java/lang/Math", "max", "(II)I"⟩ : MethodName) jdk_29_method_65_code 2 (some .int) :: ws) ({ frames := 0, cells := 0, slots := 0, locals := 0 } : Room)) (fun a U => a = #[(.int (10 : Int32)), (.int (1 : Int32))] ∧ Z.Warmed39 U.vm ∧ U.heap = h0) (fun _ _ _ _ _ => True) (fun _ U o U' => ∃ v L, o = .returned v ∧ Q19 Z  h0 n0 v U'.heap L ∧ FrameEnd U o U' L ({ frames := 0, cells := 0, slots := 0, locals := 0 } : Room).cells ({ frames := 0, cells := 0, slots := 0, locals := 0 } : Room).slots) := by
  refine MetFree.of_bodySF pn_19 hisR ?_
  intro p e s m args below meth c s₁ Bd hml0 hP hK
  obtain ⟨rfl, hZ, hh⟩ := hP
  have hx := Bd.exec
  have hby := Bd.bytes
  have hml : c.maxLocals = 2 := hml0
  have hown : s.vm.findClass "java/lang/Math" = some m.cls := findClass_of_methodNamed Bd.named
  have hnm := (name_of_methodNamed Bd.named Bd.method).1
  have hrt := Bd.returns
  have hlk := Bd.notSynchronized
  have X0 : Stand p l e ({ frames := 0, cells := 0, slots := 0, locals := 0 } : Room) s m #[(.int (10 : Int32)), (.int (1 : Int32))] below meth c s₁ [] 0 0 := Stand.of_body Bd
  have e0 : s₁.heap = h0 := by rw [← hh, Bd.state]; rfl
  have N0 := Fr.nil n0
  show Go p e below s 0 0 (Q19 Z  h0 n0) (s₁.setTop (entryFrame m #[(.int (10 : Int32)), (.int (1 : Int32))] 2))
  rw [ef_19 m ]
  refine Go.pre (st' := s₁.setTop (mkF m 10 #[.val (.int (10 : Int32)), .val (.int (1 : Int32))] [(.int (10 : Int32))])) (fun target kt => ?_) ?_
  · show Steps p.tables e below (s₁.setTop (mkF m 0 #[.val (.int (10 : Int32)), .val (.int (1 : Int32))] [])) _
    refine XS.iloadN X0.here hx rfl (hb hby d19_0) rfl ?_
    show Steps p.tables e below (s₁.setTop (mkF m 1 #[.val (.int (10 : Int32)), .val (.int (1 : Int32))] [(.int (10 : Int32))])) _
    refine XS.iloadN X0.here hx rfl (hb hby d19_1) rfl ?_
    show Steps p.tables e below (s₁.setTop (mkF m 2 #[.val (.int (10 : Int32)), .val (.int (1 : Int32))] [(.int (1 : Int32)), (.int (10 : Int32))])) _
    refine XS.icmpNo X0.here hx rfl (hb hby d19_2) rfl (flt (by decide)).1 ?_
    show Steps p.tables e below (s₁.setTop (mkF m 5 #[.val (.int (10 : Int32)), .val (.int (1 : Int32))] [])) _
    refine XS.iloadN X0.here hx rfl (hb hby d19_5) rfl ?_
    show Steps p.tables e below (s₁.setTop (mkF m 6 #[.val (.int (10 : Int32)), .val (.int (1 : Int32))] [(.int (10 : Int32))])) _
    refine XS.goto X0.here hx rfl (pc0 := 6) (pc' := 10) rfl (hb hby d19_6) (by decide) (by decide) ?_
    exact kt
  exact Go.retV X0 hx hlk hrt rfl (Or.inl ⟨rfl, Or.inl rfl, _, rfl⟩) (hb hby d19_10) (by decide) (by decide) (by rw [e0]; exact ⟨rfl, N0, rfl⟩)
/-! ArrayList.grow (18) -/
theorem d18_0 : decode jdk_38_method_6_code 0 = .ok (.aload_n 0, 1) := by decide +kernel
theorem d18_1 : decode jdk_38_method_6_code 1 = .ok (.getfield 9, 3) := by decide +kernel
theorem d18_4 : decode jdk_38_method_6_code 4 = .ok (.arraylength, 1) := by decide +kernel
theorem d18_5 : decode jdk_38_method_6_code 5 = .ok (.istore_n 2, 1) := by decide +kernel
theorem d18_6 : decode jdk_38_method_6_code 6 = .ok (.iload_n 2, 1) := by decide +kernel
theorem d18_7 : decode jdk_38_method_6_code 7 = .ok (.ifCond .gt 13, 3) := by decide +kernel
theorem d18_10 : decode jdk_38_method_6_code 10 = .ok (.aload_n 0, 1) := by decide +kernel
theorem d18_11 : decode jdk_38_method_6_code 11 = .ok (.getfield 9, 3) := by decide +kernel
theorem d18_14 : decode jdk_38_method_6_code 14 = .ok (.getstatic 39, 3) := by decide +kernel
theorem d18_17 : decode jdk_38_method_6_code 17 = .ok (.if_acmp .eq 28, 3) := by decide +kernel
theorem d18_45 : decode jdk_38_method_6_code 45 = .ok (.aload_n 0, 1) := by decide +kernel
theorem d18_46 : decode jdk_38_method_6_code 46 = .ok (.bipush 10, 2) := by decide +kernel
theorem d18_48 : decode jdk_38_method_6_code 48 = .ok (.iload_n 1, 1) := by decide +kernel
theorem d18_49 : decode jdk_38_method_6_code 49 = .ok (.invokestatic 79, 3) := by decide +kernel
theorem d18_52 : decode jdk_38_method_6_code 52 = .ok (.anewarray 7, 3) := by decide +kernel
theorem d18_55 : decode jdk_38_method_6_code 55 = .ok (.dup_x1, 1) := by decide +kernel
theorem d18_56 : decode jdk_38_method_6_code 56 = .ok (.putfield 9, 3) := by decide +kernel
theorem d18_59 : decode jdk_38_method_6_code 59 = .ok (.areturn, 1) := by decide +kernel
theorem pn_18 : plainName "java/util/ArrayList" = true := by first | (simp [plainName, overriddenIn]; done) | decide +kernel
theorem pd18_0 : parseMethodDescriptor "(II)I" = some ⟨[.int, .int], some .int⟩ := by decide +kernel
theorem ef_18 (m : MethodId) (o0 : Addr) : entryFrame m #[(.ref o0), (.int (1 : Int32))] 4 = (mkF m 0 #[.val (.ref o0), .val (.int (1 : Int32)), .unset, .unset] []) := by first | (simp [entryFrame, mkF, argsToLocals, Value.category]; done) | rfl
def Q18 (Z : State) (o0 : Addr) (ze : Addr) (ke : ClassId) (h0 : Heap) (n0 : Nat) (v : Option Value) (h : Heap) (L : List Loc) : Prop := ∃ b6 : Addr, ∃ k6 : ClassId, v = some (.ref b6) ∧ Fr n0 L ∧ Keep h0 h [o0] ∧ KF Z h0 h [(o0, Jvm.RoadKit.slotOf Z "java/util/ArrayList" "elementData" "[Ljava/lang/Object;")] ∧ LE.le (α := Nat) h0.size b6 ∧ LT.lt (α := Nat) b6 h.size ∧ Fld Z h o0 "java/util/ArrayList" "elementData" "[Ljava/lang/Object;" (.ref b6) ∧ Arv Z h b6 k6 (.object "java/lang/Object") (10 : Int32) [.null, .null, .null, .null, .null, .null, .null, .null, .null, .null] .null ∧ Ovr Z k6 "java/lang/Object"
set_option maxRecDepth 65536 in
set_option maxHeartbeats 40000000 in
theorem rm18 (l : Launch) (Z : State) (a0 : Array Value) (hw : ∀ d ∈ tables_1, d.before a0 Z = true) (ws : List Jvm.Cond) (o0 : Addr) (ze : Addr) (ke : ClassId) (h0 : Heap) (n0 : Nat) (Z0 : n0 ≤ h0.size) (S_D : Sta Z Z.heap "java/util/ArrayList" "DEFAULTCAPACITY_EMPTY_ELEMENTDATA" "[Ljava/lang/Object;" (.ref ze)) (E_l : Exa Z h0 o0 "java/util/ArrayList") (A_ze : Arv Z h0 ze ke (.object "java/lang/Object") (0 : Int32) [] .null) (F_ed : Fld Z h0 o0 "java/util/ArrayList" "elementData" "[Ljava/lang/Object;" (.ref ze)) (F_sz : Fld Z h0 o0 "java/util/ArrayList" "size" "I" (.int (0 : Int32))) (Ol : Old Z n0 h0) (g_o0 : n0 ≤ o0) :
    MetFree l (⟨"java/util/ArrayList", "grow", "(I)[Ljava/lang/Object;"⟩ : MethodName) (head1 (Jvm.Cond.code (⟨"java/util/ArrayList", "grow", "(I)[Ljava/lang/Object;"⟩ : MethodName) jdk_38_method_6_code 4 (some (.array (.object "java/lang/Object"))) :: ws) ({ frames := 1, cells := 1, slots := 10, locals := 14 } : Room)) (fun a U => a = #[(.ref o0), (.int (1 : Int32))] ∧ Z.Warmed39 U.vm ∧ U.heap = h0) (fun _ _ _ _ _ => True) (fun _ U o U' => ∃ v L, o = .returned v ∧ Q18 Z o0 ze ke h0 n0 v U'.heap L ∧ FrameEnd U o U' L ({ frames := 1, cells := 1, slots := 10, locals := 14 } : Room).cells ({ frames := 1, cells := 1, slots := 10, locals := 14 } : Room).slots) := by
  refine MetFree.of_bodySF (plainFor_of_name pn_18) hisR ?_
  intro p e s m args below meth c s₁ Bd hml0 hP hK
  obtain ⟨rfl, hZ, hh⟩ := hP
  have hx := Bd.exec
  have hby := Bd.bytes
  have hml : c.maxLocals = 4 := hml0
  have hown : s.vm.findClass "java/util/ArrayList" = some m.cls := findClass_of_methodNamed Bd.named
  have hnm := (name_of_methodNamed Bd.named Bd.method).1
  have hrt := Bd.returns
  have hlk := Bd.notSynchronized
  have X0 : Stand p l e ({ frames := 1, cells := 1, slots := 10, locals := 14 } : Room) s m #[(.ref o0), (.int (1 : Int32))] below meth c s₁ [] 0 0 := Stand.of_body Bd
  have e0 : s₁.heap = h0 := by rw [← hh, Bd.state]; rfl
  have N0 := Fr.nil n0
  have lt_E_l : LT.lt (α := Nat) o0 h0.size := E_l.lt
  have lt_A_ze : LT.lt (α := Nat) ze h0.size := A_ze.lt
  have lt_F_ed : LT.lt (α := Nat) o0 h0.size := F_ed.lt
  have lt_F_sz : LT.lt (α := Nat) o0 h0.size := F_sz.lt
  show Go p e below s 1 10 (Q18 Z o0 ze ke h0 n0) (s₁.setTop (entryFrame m #[(.ref o0), (.int (1 : Int32))] 4))
  rw [ef_18 m o0]
  refine Go.pre (st' := s₁.setTop (mkF m 1 #[.val (.ref o0), .val (.int (1 : Int32)), .unset, .unset] [(.ref o0)])) (fun target kt => ?_) ?_
  · show Steps p.tables e below (s₁.setTop (mkF m 0 #[.val (.ref o0), .val (.int (1 : Int32)), .unset, .unset] [])) _
    refine XS.aloadN X0.here hx rfl (hb hby d18_0) rfl rfl ?_
    exact kt
  obtain ⟨T1, X1, e1, st1⟩ := getF X0 hx hZ hown (host := "") (Or.inl (hw _ (List.mem_of_getElem? (i := 48) rfl))) Via.refl e0 F_ed (g := (mkF m 1 #[.val (.ref o0), .val (.int (1 : Int32)), .unset, .unset] [(.ref o0)])) rfl rfl (hb hby d18_1)
  refine Go.pre st1 ?_
  show Go p e below s _ _ _ (T1.setTop (mkF m 4 #[.val (.ref o0), .val (.int (1 : Int32)), .unset, .unset] [(.ref ze)]))
  obtain ⟨cl2, Ar2, -, Sz2, Nn2, -, -⟩ := id A_ze
  have st2 := X1.arraylength hx (by rw [e1]; exact Ar2.1) (State.isArrayOf_alike hZ.alike Ar2.2.1) (g := (mkF m 4 #[.val (.ref o0), .val (.int (1 : Int32)), .unset, .unset] [(.ref ze)])) rfl rfl (hb hby d18_4)
  rw [len_of Sz2 Nn2] at st2
  refine Go.pre st2 ?_
  show Go p e below s _ _ _ (T1.setTop (mkF m 5 #[.val (.ref o0), .val (.int (1 : Int32)), .unset, .unset] [(.int (0 : Int32))]))
  refine Go.pre (st' := T1.setTop (mkF m 11 #[.val (.ref o0), .val (.int (1 : Int32)), .val (.int (0 : Int32)), .unset] [(.ref o0)])) (fun target kt => ?_) ?_
  · show Steps p.tables e below (T1.setTop (mkF m 5 #[.val (.ref o0), .val (.int (1 : Int32)), .unset, .unset] [(.int (0 : Int32))])) _
    refine XS.istoreN X1.here hx rfl (hb hby d18_5) rfl (l' := #[.val (.ref o0), .val (.int (1 : Int32)), .val (.int (0 : Int32)), .unset]) rfl ?_
    show Steps p.tables e below (T1.setTop (mkF m 6 #[.val (.ref o0), .val (.int (1 : Int32)), .val (.int (0 : Int32)), .unset] [])) _
    refine XS.iloadN X1.here hx rfl (hb hby d18_6) rfl ?_
    show Steps p.tables e below (T1.setTop (mkF m 7 #[.val (.ref o0), .val (.int (1 : Int32)), .val (.int (0 : Int32)), .unset] [(.int (0 : Int32))])) _
    refine XS.ifNo X1.here hx rfl (hb hby d18_7) rfl ((if0 _ _).trans (flt (by decide)).2.2.1) ?_
    show Steps p.tables e below (T1.setTop (mkF m 10 #[.val (.ref o0), .val (.int (1 : Int32)), .val (.int (0 : Int32)), .unset] [])) _
    refine XS.aloadN X1.here hx rfl (hb hby d18_10) rfl rfl ?_
    exact kt
  obtain ⟨T3, X3, e3, st3⟩ := getF X1 hx hZ hown (host := "") (Or.inl (hw _ (List.mem_of_getElem? (i := 48) rfl))) Via.refl e1 F_ed (g := (mkF m 11 #[.val (.ref o0), .val (.int (1 : Int32)), .val (.int (0 : Int32)), .unset] [(.ref o0)])) rfl rfl (hb hby d18_11)
  refine Go.pre st3 ?_
  show Go p e below s _ _ _ (T3.setTop (mkF m 14 #[.val (.ref o0), .val (.int (1 : Int32)), .val (.int (0 : Int32)), .unset] [(.ref ze)]))
  obtain ⟨T4, X4, e4, st4⟩ := getS2 X3 hx hZ hown (host := "") (Or.inl (hw _ (List.mem_of_getElem? (i := 47) rfl))) Via.refl e3 (S_D.ext Ol.2) (g := (mkF m 14 #[.val (.ref o0), .val (.int (1 : Int32)), .val (.int (0 : Int32)), .unset] [(.ref ze)])) rfl (hb hby d18_14)
  refine Go.pre st4 ?_
  show Go p e below s _ _ _ (T4.setTop (mkF m 17 #[.val (.ref o0), .val (.int (1 : Int32)), .val (.int (0 : Int32)), .unset] [(.ref ze), (.ref ze)]))
  refine Go.pre (st' := T4.setTop (mkF m 49 #[.val (.ref o0), .val (.int (1 : Int32)), .val (.int (0 : Int32)), .unset] [(.int (1 : Int32)), (.int (10 : Int32)), (.ref o0)])) (fun target kt => ?_) ?_
  · show Steps p.tables e below (T4.setTop (mkF m 17 #[.val (.ref o0), .val (.int (1 : Int32)), .val (.int (0 : Int32)), .unset] [(.ref ze), (.ref ze)])) _
    refine Jvm.RoadKit.acmp (g := (mkF m 17 #[.val (.ref o0), .val (.int (1 : Int32)), .val (.int (0 : Int32)), .unset] [(.ref ze), (.ref ze)])) X4 hx rfl rfl rfl (pc0 := 17) (pc' := 45) (same := true) rfl (hb hby d18_17) rfl (decide_eq_true rfl) (by decide) (by decide) ?_
    show Steps p.tables e below (T4.setTop (mkF m 45 #[.val (.ref o0), .val (.int (1 : Int32)), .val (.int (0 : Int32)), .unset] [])) _
    refine XS.aloadN X4.here hx rfl (hb hby d18_45) rfl rfl ?_
    show Steps p.tables e below (T4.setTop (mkF m 46 #[.val (.ref o0), .val (.int (1 : Int32)), .val (.int (0 : Int32)), .unset] [(.ref o0)])) _
    refine XS.bipush X4.here hx rfl (hb hby d18_46) ?_
    show Steps p.tables e below (T4.setTop (mkF m 48 #[.val (.ref o0), .val (.int (1 : Int32)), .val (.int (0 : Int32)), .unset] [(.int (10 : Int32)), (.ref o0)])) _
    refine XS.iloadN X4.here hx rfl (hb hby d18_48) rfl ?_
    exact kt
  obtain ⟨_, _, ⟨T5, L5, k5, n5⟩, -, X5, ⟨Lc5, hQ5, l5, y5, z5⟩, st5⟩ := Jvm.LawKit.callS X4 hx (y := (⟨"java/lang/Math", "max", "(II)I"⟩ : MethodName)) hown (mvT hZ (hw _ (List.mem_of_getElem? (i := 139) rfl))) (mvT hZ (hw _ (List.mem_of_getElem? (i := 140) rfl))) (mvT hZ (hw _ (List.mem_of_getElem? (i := 141) rfl))) (mvT hZ (hw _ (List.mem_of_getElem? (i := 142) rfl))) (by decide) (backOf (W := 1) (rm19 l Z a0 hw []  h0 n0 (by omega) ) hZ (hw _ (List.mem_of_getElem? (i := 142) rfl)) (hw _ (List.mem_of_getElem? (i := 141) rfl)) (by decide) (by decide)) (g := (mkF m 49 #[.val (.ref o0), .val (.int (1 : Int32)), .val (.int (0 : Int32)), .unset] [(.int (1 : Int32)), (.int (10 : Int32)), (.ref o0)])) rfl (by rw [hml]; rfl) (argsL := [(.int (10 : Int32)), (.int (1 : Int32))]) (rest := [(.ref o0)]) (lenOf pd18_0 rfl) rfl (by show 2 * 0 + _ ≤ _; exact Nat.le_of_eq rfl) (hb hby d18_49) (fun vm₁ hvm => ⟨rfl, e4, (by decide : 0 + 0 ≤ _), (by decide : 0 + 0 ≤ _)⟩)
  dsimp only [Pt.U, Pt.locs, Pt.cells, Pt.slots] at X5 l5 y5 z5 st5 hQ5
  subst l5 y5 z5
  obtain ⟨rfl, N5q, e5⟩ := hQ5
  have N5 := Fr.app N0 N5q
  refine Go.pre st5 ?_
  show Go p e below s _ _ _ (T5.setTop (mkF m 52 #[.val (.ref o0), .val (.int (1 : Int32)), .val (.int (0 : Int32)), .unset] [(.int (10 : Int32)), (.ref o0)]))
  obtain ⟨T6, h6, k6, X6, e6, E6, A6, O6, st6⟩ := newR X5 hx hZ hown (hw _ (List.mem_of_getElem? (i := 143) rfl)) (hw _ (List.mem_of_getElem? (i := 144) rfl)) e5 (g := (mkF m 52 #[.val (.ref o0), .val (.int (1 : Int32)), .val (.int (0 : Int32)), .unset] [(.int (10 : Int32)), (.ref o0)])) rfl (hb hby d18_52) rfl (by decide) (cap := 10) (by decide) (by decide) (by decide) (by decide)
  obtain ⟨b6, g6⟩ : ∃ z, z = h0.size := ⟨_, rfl⟩
  rw [← g6] at A6 st6
  have sz6 : h0.size ≤ h6.size := E6.1
  have V6 : Arv Z h6 b6 k6 (.object "java/lang/Object") (10 : Int32) [.null, .null, .null, .null, .null, .null, .null, .null, .null, .null] .null := (Arv.new A6 (by decide)).pad (pad_rep [] .null 10)
  have lt6 : b6 < h6.size := V6.lt
  refine Go.pre st6 ?_
  show Go p e below s _ _ _ (T6.setTop (mkF m 55 #[.val (.ref o0), .val (.int (1 : Int32)), .val (.int (0 : Int32)), .unset] [(.ref b6), (.ref o0)]))
  refine Go.pre (st' := T6.setTop (mkF m 56 #[.val (.ref o0), .val (.int (1 : Int32)), .val (.int (0 : Int32)), .unset] [(.ref b6), (.ref o0), (.ref b6)])) (fun target kt => ?_) ?_
  · show Steps p.tables e below (T6.setTop (mkF m 55 #[.val (.ref o0), .val (.int (1 : Int32)), .val (.int (0 : Int32)), .unset] [(.ref b6), (.ref o0)])) _
    refine XS.dupX1 X6.here hx rfl (hb hby d18_55) rfl rfl rfl ?_
    exact kt
  have Y7 : Fld Z h6 o0 "java/util/ArrayList" "elementData" "[Ljava/lang/Object;" (.ref ze) := (F_ed.ext E6)
  have Y8 : Exa Z h6 o0 "java/util/ArrayList" := (E_l.ext E6)
  obtain ⟨T9, h9, X9, e9, W9, st9⟩ := putF X6 hx hZ hown (host := "") (Or.inl (hw _ (List.mem_of_getElem? (i := 48) rfl))) Via.refl e6 Y7 Y8 (Or.inl (hw _ (List.mem_of_getElem? (i := 49) rfl))) (hw _ (List.mem_of_getElem? (i := 27) rfl)) (ty := (.array (.object "java/lang/Object"))) (by decide) rfl rfl (g := (mkF m 56 #[.val (.ref o0), .val (.int (1 : Int32)), .val (.int (0 : Int32)), .unset] [(.ref b6), (.ref o0), (.ref b6)])) rfl rfl (hb hby d18_56)
  have sz9 : h6.size ≤ h9.size := (Keep.of_wr W9).1
  have Y10 : Fld Z h9 o0 "java/util/ArrayList" "elementData" "[Ljava/lang/Object;" (.ref b6) := Y7.same W9
  have N9 := Fr.snoc X9 N5 (by omega)
  refine Go.pre st9 ?_
  show Go p e below s _ _ _ (T9.setTop (mkF m 59 #[.val (.ref o0), .val (.int (1 : Int32)), .val (.int (0 : Int32)), .unset] [(.ref b6)]))
  have Y11 : Arv Z h9 b6 k6 (.object "java/lang/Object") (10 : Int32) [.null, .null, .null, .null, .null, .null, .null, .null, .null, .null] .null := (V6.other W9 (by show @Ne Nat b6 o0; omega))
  exact Go.retV X9 hx hlk hrt rfl (Or.inr (Or.inr (Or.inr (Or.inr ⟨rfl, rfl, rfl⟩)))) (hb hby d18_59) (by decide) (by decide) (by rw [e9]; exact ⟨b6, k6, rfl, N9, (((Keep.refl h0 [o0]).ext E6).wr W9 (Or.inl (List.mem_of_getElem? (i := 0) rfl))), (((KF.refl Z h0 [(o0, Jvm.RoadKit.slotOf Z "java/util/ArrayList" "elementData" "[Ljava/lang/Object;")]).ext E6).wr W9 (Or.inl (List.mem_of_getElem? (i := 0) rfl))), by omega, by omega, Y10, Y11, O6⟩)
/-! ArrayList.grow (17) -/
theorem d17_0 : decode jdk_38_method_7_code 0 = .ok (.aload_n 0, 1) := by decide +kernel
theorem d17_1 : decode jdk_38_method_7_code 1 = .ok (.aload_n 0, 1) := by decide +kernel
theorem d17_2 : decode jdk_38_method_7_code 2 = .ok (.getfield 48, 3) := by decide +kernel
theorem d17_5 : decode jdk_38_method_7_code 5 = .ok (.iconst 1, 1) := by decide +kernel
theorem d17_6 : decode jdk_38_method_7_code 6 = .ok (.iadd, 1) := by decide +kernel
theorem d17_7 : decode jdk_38_method_7_code 7 = .ok (.invokevirtual 69, 3) := by decide +kernel
theorem d17_10 : decode jdk_38_method_7_code 10 = .ok (.areturn, 1) := by decide +kernel
theorem pn_17 : plainName "java/util/ArrayList" = true := by first | (simp [plainName, overriddenIn]; done) | decide +kernel
theorem pd17_0 : parseMethodDescriptor "(I)[Ljava/lang/Object;" = some ⟨[.int], some (.array (.object "java/lang/Object"))⟩ := by decide +kernel
theorem ef_17 (m : MethodId) (o0 : Addr) : entryFrame m #[(.ref o0)] 1 = (mkF m 0 #[.val (.ref o0)] []) := by first | (simp [entryFrame, mkF, argsToLocals, Value.category]; done) | rfl
def Q17 (Z : State) (o0 : Addr) (ze : Addr) (ke : ClassId) (h0 : Heap) (n0 : Nat) (v : Option Value) (h : Heap) (L : List Loc) : Prop := ∃ b2_0 : Addr, ∃ k2_0 : ClassId, v = some (.ref b2_0) ∧ Fr n0 L ∧ Keep h0 h [o0] ∧ KF Z h0 h [(o0, Jvm.RoadKit.slotOf Z "java/util/ArrayList" "elementData" "[Ljava/lang/Object;")] ∧ LE.le (α := Nat) h0.size b2_0 ∧ LT.lt (α := Nat) b2_0 h.size ∧ Fld Z h o0 "java/util/ArrayList" "elementData" "[Ljava/lang/Object;" (.ref b2_0) ∧ Arv Z h b2_0 k2_0 (.object "java/lang/Object") (10 : Int32) [.null, .null, .null, .null, .null, .null, .null, .null, .null, .null] .null ∧ Ovr Z k2_0 "java/lang/Object"
set_option maxRecDepth 65536 in
set_option maxHeartbeats 40000000 in
theorem rm17 (l : Launch) (Z : State) (a0 : Array Value) (hw : ∀ d ∈ tables_1, d.before a0 Z = true) (ws : List Jvm.Cond) (o0 : Addr) (ze : Addr) (ke : ClassId) (h0 : Heap) (n0 : Nat) (Z0 : n0 ≤ h0.size) (S_D : Sta Z Z.heap "java/util/ArrayList" "DEFAULTCAPACITY_EMPTY_ELEMENTDATA" "[Ljava/lang/Object;" (.ref ze)) (E_l : Exa Z h0 o0 "java/util/ArrayList") (A_ze : Arv Z h0 ze ke (.object "java/lang/Object") (0 : Int32) [] .null) (F_ed : Fld Z h0 o0 "java/util/ArrayList" "elementData" "[Ljava/lang/Object;" (.ref ze)) (F_sz : Fld Z h0 o0 "java/util/ArrayList" "size" "I" (.int (0 : Int32))) (Ol : Old Z n0 h0) (g_o0 : n0 ≤ o0) :
    MetFree l (⟨"java/util/ArrayList", "grow", "()[Ljava/lang/Object;"⟩ : MethodName) (head1 (Jvm.Cond.code (⟨"java/util/ArrayList", "grow", "()[Ljava/lang/Object;"⟩ : MethodName) jdk_38_method_7_code 1 (some (.array (.object "java/lang/Object"))) :: ws) ({ frames := 2, cells := 1, slots := 10, locals := 29 } : Room)) (fun a U => a = #[(.ref o0)] ∧ Z.Warmed39 U.vm ∧ U.heap = h0) (fun _ _ _ _ _ => True) (fun _ U o U' => ∃ v L, o = .returned v ∧ Q17 Z o0 ze ke h0 n0 v U'.heap L ∧ FrameEnd U o U' L ({ frames := 2, cells := 1, slots := 10, locals := 29 } : Room).cells ({ frames := 2, cells := 1, slots := 10, locals := 29 } : Room).slots) := by
  refine MetFree.of_bodySF (plainFor_of_name pn_17) hisR ?_
  intro p e s m args below meth c s₁ Bd hml0 hP hK
  obtain ⟨rfl, hZ, hh⟩ := hP
  have hx := Bd.exec
  have hby := Bd.bytes
  have hml : c.maxLocals = 1 := hml0
  have hown : s.vm.findClass "java/util/ArrayList" = some m.cls := findClass_of_methodNamed Bd.named
  have hnm := (name_of_methodNamed Bd.named Bd.method).1
  have hrt := Bd.returns
  have hlk := Bd.notSynchronized
  have X0 : Stand p l e ({ frames := 2, cells := 1, slots := 10, locals := 29 } : Room) s m #[(.ref o0)] below meth c s₁ [] 0 0 := Stand.of_body Bd
  have e0 : s₁.heap = h0 := by rw [← hh, Bd.state]; rfl
  have N0 := Fr.nil n0
  have lt_E_l : LT.lt (α := Nat) o0 h0.size := E_l.lt
  have lt_A_ze : LT.lt (α := Nat) ze h0.size := A_ze.lt
  have lt_F_ed : LT.lt (α := Nat) o0 h0.size := F_ed.lt
  have lt_F_sz : LT.lt (α := Nat) o0 h0.size := F_sz.lt
  show Go p e below s 1 10 (Q17 Z o0 ze ke h0 n0) (s₁.setTop (entryFrame m #[(.ref o0)] 1))
  rw [ef_17 m o0]
  refine Go.pre (st' := s₁.setTop (mkF m 2 #[.val (.ref o0)] [(.ref o0), (.ref o0)])) (fun target kt => ?_) ?_
  · show Steps p.tables e below (s₁.setTop (mkF m 0 #[.val (.ref o0)] [])) _
    refine XS.aloadN X0.here hx rfl (hb hby d17_0) rfl rfl ?_
    show Steps p.tables e below (s₁.setTop (mkF m 1 #[.val (.ref o0)] [(.ref o0)])) _
    refine XS.aloadN X0.here hx rfl (hb hby d17_1) rfl rfl ?_
    exact kt
  obtain ⟨T1, X1, e1, st1⟩ := getF X0 hx hZ hown (host := "") (Or.inl (hw _ (List.mem_of_getElem? (i := 122) rfl))) Via.refl e0 F_sz (g := (mkF m 2 #[.val (.ref o0)] [(.ref o0), (.ref o0)])) rfl rfl (hb hby d17_2)
  refine Go.pre st1 ?_
  show Go p e below s _ _ _ (T1.setTop (mkF m 5 #[.val (.ref o0)] [(.int (0 : Int32)), (.ref o0)]))
  refine Go.pre (st' := T1.setTop (mkF m 7 #[.val (.ref o0)] [(.int (1 : Int32)), (.ref o0)])) (fun target kt => ?_) ?_
  · show Steps p.tables e below (T1.setTop (mkF m 5 #[.val (.ref o0)] [(.int (0 : Int32)), (.ref o0)])) _
    refine XS.iconst X1.here hx rfl (hb hby d17_5) ?_
    show Steps p.tables e below (T1.setTop (mkF m 6 #[.val (.ref o0)] [(.int (1 : Int32)), (.int (0 : Int32)), (.ref o0)])) _
    refine XS.iadd X1.here hx rfl (hb hby d17_6) rfl ?_
    exact kt
  obtain ⟨cq2, q2, q2'⟩ := E_l.cell
  obtain ⟨_, _, ⟨T2, L2, k2, n2⟩, -, X2, ⟨Lc2, hQ2, l2, y2, z2⟩, st2⟩ := X1.privateBack hx (y := (⟨"java/util/ArrayList", "grow", "(I)[Ljava/lang/Object;"⟩ : MethodName)) hown (mvT hZ (hw _ (List.mem_of_getElem? (i := 134) rfl))) (mvT hZ (hw _ (List.mem_of_getElem? (i := 135) rfl))) (mvT hZ (hw _ (List.mem_of_getElem? (i := 137) rfl))) (Cond.privateMethod_at (mvP hZ (hw _ (List.mem_of_getElem? (i := 136) rfl)) (args := #[]))) (mvT hZ (hw _ (List.mem_of_getElem? (i := 138) rfl))) (by decide) (backOf (W := 0) (rm18 l Z a0 hw [] o0 ze ke h0 n0 (by omega) S_D E_l A_ze F_ed F_sz Ol (by omega)) hZ (hw _ (List.mem_of_getElem? (i := 138) rfl)) (hw _ (List.mem_of_getElem? (i := 28) rfl)) (by decide) (by decide)) (g := (mkF m 7 #[.val (.ref o0)] [(.int (1 : Int32)), (.ref o0)])) rfl (by rw [hml]; rfl) (Steps.refl _) (a := o0) (by rw [e1]; exact q2) q2' (argsL := [(.int (1 : Int32))]) (rest := []) (lenOf pd17_0 rfl) rfl (by show 2 * 0 + _ ≤ _; exact Nat.le_of_eq rfl) (hb hby d17_7) (fun vm₁ hvm => ⟨rfl, e1, (by decide : 0 + 1 ≤ _), (by decide : 0 + 10 ≤ _)⟩)
  dsimp only [Pt.U, Pt.locs, Pt.cells, Pt.slots] at X2 l2 y2 z2 st2 hQ2
  subst l2 y2 z2
  obtain ⟨b2_0, k2_0, rfl, N2q, K2, KF2, gb2_0, ltb2_0, Y2_0, Y2_1, Y2_2⟩ := hQ2
  have sz2 : h0.size ≤ T2.heap.size := K2.1
  have N2 := Fr.app N0 N2q
  refine Go.trans st2 ?_
  show Go p e below s _ _ _ (T2.setTop (mkF m 10 #[.val (.ref o0)] [(.ref b2_0)]))
  exact Go.retV X2 hx hlk hrt rfl (Or.inr (Or.inr (Or.inr (Or.inr ⟨rfl, rfl, rfl⟩)))) (hb hby d17_10) (by decide) (by decide) (by exact ⟨b2_0, k2_0, rfl, N2, ((Keep.refl h0 [o0]).trans K2 (allS (Or.inl (List.mem_of_getElem? (i := 0) rfl)) all0)), ((KF.refl Z h0 [(o0, Jvm.RoadKit.slotOf Z "java/util/ArrayList" "elementData" "[Ljava/lang/Object;")]).trans KF2 (pallS (Or.inl (List.mem_of_getElem? (i := 0) rfl)) pall0)), by omega, by omega, Y2_0, Y2_1, Y2_2⟩)
/-! ArrayList.add (16) -/
theorem d16_0 : decode jdk_38_method_24_code 0 = .ok (.iload_n 3, 1) := by decide +kernel
theorem d16_1 : decode jdk_38_method_24_code 1 = .ok (.aload_n 2, 1) := by decide +kernel
theorem d16_2 : decode jdk_38_method_24_code 2 = .ok (.arraylength, 1) := by decide +kernel
theorem d16_3 : decode jdk_38_method_24_code 3 = .ok (.if_icmp .ne 8, 3) := by decide +kernel
theorem d16_6 : decode jdk_38_method_24_code 6 = .ok (.aload_n 0, 1) := by decide +kernel
theorem d16_7 : decode jdk_38_method_24_code 7 = .ok (.invokevirtual 129, 3) := by decide +kernel
theorem d16_10 : decode jdk_38_method_24_code 10 = .ok (.astore_n 2, 1) := by decide +kernel
theorem d16_11 : decode jdk_38_method_24_code 11 = .ok (.aload_n 2, 1) := by decide +kernel
theorem d16_12 : decode jdk_38_method_24_code 12 = .ok (.iload_n 3, 1) := by decide +kernel
theorem d16_13 : decode jdk_38_method_24_code 13 = .ok (.aload_n 1, 1) := by decide +kernel
theorem d16_14 : decode jdk_38_method_24_code 14 = .ok (.aastore, 1) := by decide +kernel
theorem d16_15 : decode jdk_38_method_24_code 15 = .ok (.aload_n 0, 1) := by decide +kernel
theorem d16_16 : decode jdk_38_method_24_code 16 = .ok (.iload_n 3, 1) := by decide +kernel
theorem d16_17 : decode jdk_38_method_24_code 17 = .ok (.iconst 1, 1) := by decide +kernel
theorem d16_18 : decode jdk_38_method_24_code 18 = .ok (.iadd, 1) := by decide +kernel
theorem d16_19 : decode jdk_38_method_24_code 19 = .ok (.putfield 48, 3) := by decide +kernel
theorem d16_22 : decode jdk_38_method_24_code 22 = .ok (.return_, 1) := by decide +kernel
theorem pn_16 : plainName "java/util/ArrayList" = true := by first | (simp [plainName, overriddenIn]; done) | decide +kernel
theorem pd16_0 : parseMethodDescriptor "()[Ljava/lang/Object;" = some ⟨[], some (.array (.object "java/lang/Object"))⟩ := by decide +kernel
theorem ef_16 (m : MethodId) (o0 : Addr) (o1 : Addr) (ze : Addr) : entryFrame m #[(.ref o0), (.ref o1), (.ref ze), (.int (0 : Int32))] 4 = (mkF m 0 #[.val (.ref o0), .val (.ref o1), .val (.ref ze), .val (.int (0 : Int32))] []) := by first | (simp [entryFrame, mkF, argsToLocals, Value.category]; done) | rfl
def Q16 (Z : State) (o0 : Addr) (o1 : Addr) (ze : Addr) (ke : ClassId) (h0 : Heap) (n0 : Nat) (v : Option Value) (h : Heap) (L : List Loc) : Prop := ∃ b2_0 : Addr, ∃ k2_0 : ClassId, v = none ∧ Fr n0 L ∧ Keep h0 h [o0] ∧ KF Z h0 h [(o0, Jvm.RoadKit.slotOf Z "java/util/ArrayList" "elementData" "[Ljava/lang/Object;"), (o0, Jvm.RoadKit.slotOf Z "java/util/ArrayList" "size" "I")] ∧ LE.le (α := Nat) h0.size b2_0 ∧ LT.lt (α := Nat) b2_0 h.size ∧ Fld Z h o0 "java/util/ArrayList" "size" "I" (.int (1 : Int32)) ∧ Fld Z h o0 "java/util/ArrayList" "elementData" "[Ljava/lang/Object;" (.ref b2_0) ∧ Arv Z h b2_0 k2_0 (.object "java/lang/Object") (10 : Int32) [(.ref o1), .null, .null, .null, .null, .null, .null, .null, .null, .null] .null ∧ Ovr Z k2_0 "java/lang/Object"
set_option maxRecDepth 65536 in
set_option maxHeartbeats 40000000 in
theorem rm16 (l : Launch) (Z : State) (a0 : Array Value) (hw : ∀ d ∈ tables_1, d.before a0 Z = true) (ws : List Jvm.Cond) (o0 : Addr) (o1 : Addr) (ze : Addr) (ke : ClassId) (h0 : Heap) (n0 : Nat) (Z0 : n0 ≤ h0.size) (S_D : Sta Z Z.heap "java/util/ArrayList" "DEFAULTCAPACITY_EMPTY_ELEMENTDATA" "[Ljava/lang/Object;" (.ref ze)) (E_l : Exa Z h0 o0 "java/util/ArrayList") (A_ze : Arv Z h0 ze ke (.object "java/lang/Object") (0 : Int32) [] .null) (F_ed : Fld Z h0 o0 "java/util/ArrayList" "elementData" "[Ljava/lang/Object;" (.ref ze)) (F_sz : Fld Z h0 o0 "java/util/ArrayList" "size" "I" (.int (0 : Int32))) (Ol : Old Z n0 h0) (E_e : Exa Z h0 o1 "java/lang/String") (g_o0 : n0 ≤ o0) :
    MetFree l (⟨"java/util/ArrayList", "add", "(Ljava/lang/Object;[Ljava/lang/Object;I)V"⟩ : MethodName) (head1 (Jvm.Cond.code (⟨"java/util/ArrayList", "add", "(Ljava/lang/Object;[Ljava/lang/Object;I)V"⟩ : MethodName) jdk_38_method_24_code 4 none :: ws) ({ frames := 3, cells := 1, slots := 10, locals := 41 } : Room)) (fun a U => a = #[(.ref o0), (.ref o1), (.ref ze), (.int (0 : Int32))] ∧ Z.Warmed39 U.vm ∧ U.heap = h0) (fun _ _ _ _ _ => True) (fun _ U o U' => ∃ v L, o = .returned v ∧ Q16 Z o0 o1 ze ke h0 n0 v U'.heap L ∧ FrameEnd U o U' L ({ frames := 3, cells := 1, slots := 10, locals := 41 } : Room).cells ({ frames := 3, cells := 1, slots := 10, locals := 41 } : Room).slots) := by
  refine MetFree.of_bodySF (plainFor_of_name pn_16) hisR ?_
  intro p e s m args below meth c s₁ Bd hml0 hP hK
  obtain ⟨rfl, hZ, hh⟩ := hP
  have hx := Bd.exec
  have hby := Bd.bytes
  have hml : c.maxLocals = 4 := hml0
  have hown : s.vm.findClass "java/util/ArrayList" = some m.cls := findClass_of_methodNamed Bd.named
  have hnm := (name_of_methodNamed Bd.named Bd.method).1
  have hrt := Bd.returns
  have hlk := Bd.notSynchronized
  have X0 : Stand p l e ({ frames := 3, cells := 1, slots := 10, locals := 41 } : Room) s m #[(.ref o0), (.ref o1), (.ref ze), (.int (0 : Int32))] below meth c s₁ [] 0 0 := Stand.of_body Bd
  have e0 : s₁.heap = h0 := by rw [← hh, Bd.state]; rfl
  have N0 := Fr.nil n0
  have lt_E_l : LT.lt (α := Nat) o0 h0.size := E_l.lt
  have lt_A_ze : LT.lt (α := Nat) ze h0.size := A_ze.lt
  have lt_F_ed : LT.lt (α := Nat) o0 h0.size := F_ed.lt
  have lt_F_sz : LT.lt (α := Nat) o0 h0.size := F_sz.lt
  have lt_E_e : LT.lt (α := Nat) o1 h0.size := E_e.lt
  show Go p e below s 1 10 (Q16 Z o0 o1 ze ke h0 n0) (s₁.setTop (entryFrame m #[(.ref o0), (.ref o1), (.ref ze), (.int (0 : Int32))] 4))
  rw [ef_16 m o0 o1 ze]
  refine Go.pre (st' := s₁.setTop (mkF m 2 #[.val (.ref o0), .val (.ref o1), .val (.ref ze), .val (.int (0 : Int32))] [(.ref ze), (.int (0 : Int32))])) (fun target kt => ?_) ?_
  · show Steps p.tables e below (s₁.setTop (mkF m 0 #[.val (.ref o0), .val (.ref o1), .val (.ref ze), .val (.int (0 : Int32))] [])) _
    refine XS.iloadN X0.here hx rfl (hb hby d16_0) rfl ?_
    show Steps p.tables e below (s₁.setTop (mkF m 1 #[.val (.ref o0), .val (.ref o1), .val (.ref ze), .val (.int (0 : Int32))] [(.int (0 : Int32))])) _
    refine XS.aloadN X0.here hx rfl (hb hby d16_1) rfl rfl ?_
    exact kt
  obtain ⟨cl1, Ar1, -, Sz1, Nn1, -, -⟩ := id A_ze
  have st1 := X0.arraylength hx (by rw [e0]; exact Ar1.1) (State.isArrayOf_alike hZ.alike Ar1.2.1) (g := (mkF m 2 #[.val (.ref o0), .val (.ref o1), .val (.ref ze), .val (.int (0 : Int32))] [(.ref ze), (.int (0 : Int32))])) rfl rfl (hb hby d16_2)
  rw [len_of Sz1 Nn1] at st1
  refine Go.pre st1 ?_
  show Go p e below s _ _ _ (s₁.setTop (mkF m 3 #[.val (.ref o0), .val (.ref o1), .val (.ref ze), .val (.int (0 : Int32))] [(.int (0 : Int32)), (.int (0 : Int32))]))
  refine Go.pre (st' := s₁.setTop (mkF m 7 #[.val (.ref o0), .val (.ref o1), .val (.ref ze), .val (.int (0 : Int32))] [(.ref o0)])) (fun target kt => ?_) ?_
  · show Steps p.tables e below (s₁.setTop (mkF m 3 #[.val (.ref o0), .val (.ref o1), .val (.ref ze), .val (.int (0 : Int32))] [(.int (0 : Int32)), (.int (0 : Int32))])) _
    refine XS.icmpNo X0.here hx rfl (hb hby d16_3) rfl (teq (by decide)).2 ?_
    show Steps p.tables e below (s₁.setTop (mkF m 6 #[.val (.ref o0), .val (.ref o1), .val (.ref ze), .val (.int (0 : Int32))] [])) _
    refine XS.aloadN X0.here hx rfl (hb hby d16_6) rfl rfl ?_
    exact kt
  obtain ⟨cq2, q2, q2'⟩ := E_l.cell
  obtain ⟨_, _, ⟨T2, L2, k2, n2⟩, -, X2, ⟨Lc2, hQ2, l2, y2, z2⟩, st2⟩ := X0.privateBack hx (y := (⟨"java/util/ArrayList", "grow", "()[Ljava/lang/Object;"⟩ : MethodName)) hown (mvT hZ (hw _ (List.mem_of_getElem? (i := 129) rfl))) (mvT hZ (hw _ (List.mem_of_getElem? (i := 130) rfl))) (mvT hZ (hw _ (List.mem_of_getElem? (i := 132) rfl))) (Cond.privateMethod_at (mvP hZ (hw _ (List.mem_of_getElem? (i := 131) rfl)) (args := #[]))) (mvT hZ (hw _ (List.mem_of_getElem? (i := 133) rfl))) (by decide) (backOf (W := 0) (rm17 l Z a0 hw [] o0 ze ke h0 n0 (by omega) S_D E_l A_ze F_ed F_sz Ol (by omega)) hZ (hw _ (List.mem_of_getElem? (i := 133) rfl)) (hw _ (List.mem_of_getElem? (i := 28) rfl)) (by decide) (by decide)) (g := (mkF m 7 #[.val (.ref o0), .val (.ref o1), .val (.ref ze), .val (.int (0 : Int32))] [(.ref o0)])) rfl (by rw [hml]; rfl) (Steps.refl _) (a := o0) (by rw [e0]; exact q2) q2' (argsL := []) (rest := []) (lenOf pd16_0 rfl) rfl (by show 2 * 0 + _ ≤ _; exact Nat.le_of_eq rfl) (hb hby d16_7) (fun vm₁ hvm => ⟨rfl, e0, (by decide : 0 + 1 ≤ _), (by decide : 0 + 10 ≤ _)⟩)
  dsimp only [Pt.U, Pt.locs, Pt.cells, Pt.slots] at X2 l2 y2 z2 st2 hQ2
  subst l2 y2 z2
  obtain ⟨b2_0, k2_0, rfl, N2q, K2, KF2, gb2_0, ltb2_0, Y2_0, Y2_1, Y2_2⟩ := hQ2
  have sz2 : h0.size ≤ T2.heap.size := K2.1
  have N2 := Fr.app N0 N2q
  refine Go.trans st2 ?_
  show Go p e below s _ _ _ (T2.setTop (mkF m 10 #[.val (.ref o0), .val (.ref o1), .val (.ref ze), .val (.int (0 : Int32))] [(.ref b2_0)]))
  refine Go.pre (st' := T2.setTop (mkF m 14 #[.val (.ref o0), .val (.ref o1), .val (.ref b2_0), .val (.int (0 : Int32))] [(.ref o1), (.int (0 : Int32)), (.ref b2_0)])) (fun target kt => ?_) ?_
  · show Steps p.tables e below (T2.setTop (mkF m 10 #[.val (.ref o0), .val (.ref o1), .val (.ref ze), .val (.int (0 : Int32))] [(.ref b2_0)])) _
    refine XS.astoreN X2.here hx rfl (hb hby d16_10) rfl rfl (l' := #[.val (.ref o0), .val (.ref o1), .val (.ref b2_0), .val (.int (0 : Int32))]) rfl ?_
    show Steps p.tables e below (T2.setTop (mkF m 11 #[.val (.ref o0), .val (.ref o1), .val (.ref b2_0), .val (.int (0 : Int32))] [])) _
    refine XS.aloadN X2.here hx rfl (hb hby d16_11) rfl rfl ?_
    show Steps p.tables e below (T2.setTop (mkF m 12 #[.val (.ref o0), .val (.ref o1), .val (.ref b2_0), .val (.int (0 : Int32))] [(.ref b2_0)])) _
    refine XS.iloadN X2.here hx rfl (hb hby d16_12) rfl ?_
    show Steps p.tables e below (T2.setTop (mkF m 13 #[.val (.ref o0), .val (.ref o1), .val (.ref b2_0), .val (.int (0 : Int32))] [(.int (0 : Int32)), (.ref b2_0)])) _
    refine XS.aloadN X2.here hx rfl (hb hby d16_13) rfl rfl ?_
    exact kt
  have Y4 : Exa Z T2.heap o1 "java/lang/String" := (E_e.keep K2)
  obtain ⟨cl3, Ar3, q3, Sz3, Nn3, Hs3, Gs3⟩ := id Y2_1
  have in3 := inb_of (j := (0 : Int32)) Sz3 ⟨by decide, by decide⟩
  obtain ⟨T3, h3, X3, e3, W3, st3⟩ := stR X2 hx hZ rfl Ar3 (j := (0 : Int32)) in3 rfl (Sto.ofV Ar3 q3 Y2_2 (Ins.of_exa Y4 (hw _ (List.mem_of_getElem? (i := 145) rfl)))) (g := (mkF m 14 #[.val (.ref o0), .val (.ref o1), .val (.ref b2_0), .val (.int (0 : Int32))] [(.ref o1), (.int (0 : Int32)), (.ref b2_0)])) rfl rfl (hb hby d16_14)
  have sz3 : T2.heap.size ≤ h3.size := (Keep.of_wr W3).1
  have V3 : Arv Z h3 b2_0 k2_0 (.object "java/lang/Object") (10 : Int32) [(.ref o1), .null, .null, .null, .null, .null, .null, .null, .null, .null] .null := Arv.set Ar3 q3 Sz3 Nn3 Hs3 Gs3 rfl W3 0 rfl (Nat.le_of_ble_eq_true rfl)
  have N3 := Fr.snoc X3 N2 (by omega)
  refine Go.pre st3 ?_
  show Go p e below s _ _ _ (T3.setTop (mkF m 15 #[.val (.ref o0), .val (.ref o1), .val (.ref b2_0), .val (.int (0 : Int32))] []))
  refine Go.pre (st' := T3.setTop (mkF m 19 #[.val (.ref o0), .val (.ref o1), .val (.ref b2_0), .val (.int (0 : Int32))] [(.int (1 : Int32)), (.ref o0)])) (fun target kt => ?_) ?_
  · show Steps p.tables e below (T3.setTop (mkF m 15 #[.val (.ref o0), .val (.ref o1), .val (.ref b2_0), .val (.int (0 : Int32))] [])) _
    refine XS.aloadN X3.here hx rfl (hb hby d16_15) rfl rfl ?_
    show Steps p.tables e below (T3.setTop (mkF m 16 #[.val (.ref o0), .val (.ref o1), .val (.ref b2_0), .val (.int (0 : Int32))] [(.ref o0)])) _
    refine XS.iloadN X3.here hx rfl (hb hby d16_16) rfl ?_
    show Steps p.tables e below (T3.setTop (mkF m 17 #[.val (.ref o0), .val (.ref o1), .val (.ref b2_0), .val (.int (0 : Int32))] [(.int (0 : Int32)), (.ref o0)])) _
    refine XS.iconst X3.here hx rfl (hb hby d16_17) ?_
    show Steps p.tables e below (T3.setTop (mkF m 18 #[.val (.ref o0), .val (.ref o1), .val (.ref b2_0), .val (.int (0 : Int32))] [(.int (1 : Int32)), (.int (0 : Int32)), (.ref o0)])) _
    refine XS.iadd X3.here hx rfl (hb hby d16_18) rfl ?_
    exact kt
  have Y5 : Fld Z h3 o0 "java/util/ArrayList" "size" "I" (.int (0 : Int32)) := ((KF2 _ _ _ _ _ F_sz (pallS (Or.inr (slot_ne (Or.inl (hw _ (List.mem_of_getElem? (i := 123) rfl))) (Or.inl (hw _ (List.mem_of_getElem? (i := 49) rfl))) (by decide) (t := .int) (t' := (.array (.object "java/lang/Object"))) (by decide) (by decide))) pall0)).other W3 (Or.inl (by show @Ne Nat o0 b2_0; omega)))
  have Y6 : Exa Z h3 o0 "java/util/ArrayList" := ((E_l.keep K2).wr W3)
  obtain ⟨T7, h7, X7, e7, W7, st7⟩ := putF X3 hx hZ hown (host := "") (Or.inl (hw _ (List.mem_of_getElem? (i := 122) rfl))) Via.refl e3 Y5 Y6 (Or.inl (hw _ (List.mem_of_getElem? (i := 123) rfl))) (hw _ (List.mem_of_getElem? (i := 27) rfl)) (ty := .int) (by decide) rfl rfl (g := (mkF m 19 #[.val (.ref o0), .val (.ref o1), .val (.ref b2_0), .val (.int (0 : Int32))] [(.int (1 : Int32)), (.ref o0)])) rfl rfl (hb hby d16_19)
  have sz7 : h3.size ≤ h7.size := (Keep.of_wr W7).1
  have Y8 : Fld Z h7 o0 "java/util/ArrayList" "size" "I" (.int (1 : Int32)) := Y5.same W7
  have N7 := Fr.snoc X7 N3 (by omega)
  refine Go.pre st7 ?_
  show Go p e below s _ _ _ (T7.setTop (mkF m 22 #[.val (.ref o0), .val (.ref o1), .val (.ref b2_0), .val (.int (0 : Int32))] []))
  have Y9 : Fld Z h7 o0 "java/util/ArrayList" "elementData" "[Ljava/lang/Object;" (.ref b2_0) := ((Y2_0.other W3 (Or.inl (by show @Ne Nat o0 b2_0; omega))).other W7 (Or.inr (slot_ne (Or.inl (hw _ (List.mem_of_getElem? (i := 49) rfl))) (Or.inl (hw _ (List.mem_of_getElem? (i := 123) rfl))) (by decide) (t := (.array (.object "java/lang/Object"))) (t' := .int) (by decide) (by decide))))
  have Y10 : Arv Z h7 b2_0 k2_0 (.object "java/lang/Object") (10 : Int32) [(.ref o1), .null, .null, .null, .null, .null, .null, .null, .null, .null] .null := (V3.other W7 (by show @Ne Nat b2_0 o0; omega))
  exact Go.ret0 X7 hx hlk hrt (hb hby d16_22) (by decide) (by decide) (by rw [e7]; exact ⟨b2_0, k2_0, rfl, N7, ((((Keep.refl h0 [o0]).trans K2 (allS (Or.inl (List.mem_of_getElem? (i := 0) rfl)) all0)).wr W3 (Or.inr (by omega))).wr W7 (Or.inl (List.mem_of_getElem? (i := 0) rfl))), ((((KF.refl Z h0 [(o0, Jvm.RoadKit.slotOf Z "java/util/ArrayList" "elementData" "[Ljava/lang/Object;"), (o0, Jvm.RoadKit.slotOf Z "java/util/ArrayList" "size" "I")]).trans KF2 (pallS (Or.inl (List.mem_of_getElem? (i := 0) rfl)) pall0)).wr W3 (Or.inr (by show _ ≤ b2_0; omega))).wr W7 (Or.inl (List.mem_of_getElem? (i := 1) rfl))), by omega, by omega, Y8, Y9, Y10, Y2_2⟩)
/-! ArrayList.add (15) -/
theorem d15_0 : decode jdk_38_method_25_code 0 = .ok (.aload_n 0, 1) := by decide +kernel
theorem d15_1 : decode jdk_38_method_25_code 1 = .ok (.dup, 1) := by decide +kernel
theorem d15_2 : decode jdk_38_method_25_code 2 = .ok (.getfield 63, 3) := by decide +kernel
theorem d15_5 : decode jdk_38_method_25_code 5 = .ok (.iconst 1, 1) := by decide +kernel
theorem d15_6 : decode jdk_38_method_25_code 6 = .ok (.iadd, 1) := by decide +kernel
theorem d15_7 : decode jdk_38_method_25_code 7 = .ok (.putfield 63, 3) := by decide +kernel
theorem d15_10 : decode jdk_38_method_25_code 10 = .ok (.aload_n 0, 1) := by decide +kernel
theorem d15_11 : decode jdk_38_method_25_code 11 = .ok (.aload_n 1, 1) := by decide +kernel
theorem d15_12 : decode jdk_38_method_25_code 12 = .ok (.aload_n 0, 1) := by decide +kernel
theorem d15_13 : decode jdk_38_method_25_code 13 = .ok (.getfield 9, 3) := by decide +kernel
theorem d15_16 : decode jdk_38_method_25_code 16 = .ok (.aload_n 0, 1) := by decide +kernel
theorem d15_17 : decode jdk_38_method_25_code 17 = .ok (.getfield 48, 3) := by decide +kernel
theorem d15_20 : decode jdk_38_method_25_code 20 = .ok (.invokevirtual 131, 3) := by decide +kernel
theorem d15_23 : decode jdk_38_method_25_code 23 = .ok (.iconst 1, 1) := by decide +kernel
theorem d15_24 : decode jdk_38_method_25_code 24 = .ok (.ireturn, 1) := by decide +kernel
theorem pn_15 : plainName "java/util/ArrayList" = true := by first | (simp [plainName, overriddenIn]; done) | decide +kernel
theorem pd15_0 : parseMethodDescriptor "(Ljava/lang/Object;[Ljava/lang/Object;I)V" = some ⟨[(.object "java/lang/Object"), (.array (.object "java/lang/Object")), .int], none⟩ := by decide +kernel
theorem ef_15 (m : MethodId) (o0 : Addr) (o1 : Addr) : entryFrame m #[(.ref o0), (.ref o1)] 2 = (mkF m 0 #[.val (.ref o0), .val (.ref o1)] []) := by first | (simp [entryFrame, mkF, argsToLocals, Value.category]; done) | rfl
def Q15 (Z : State) (o0 : Addr) (o1 : Addr) (ze : Addr) (ke : ClassId) (w1 : Int32) (h0 : Heap) (n0 : Nat) (v : Option Value) (h : Heap) (L : List Loc) : Prop := ∃ b9_0 : Addr, ∃ k9_0 : ClassId, v = some (.int (1 : Int32)) ∧ Fr n0 L ∧ Keep h0 h [o0] ∧ KF Z h0 h [(o0, Jvm.RoadKit.slotOf Z "java/util/AbstractList" "modCount" "I"), (o0, Jvm.RoadKit.slotOf Z "java/util/ArrayList" "elementData" "[Ljava/lang/Object;"), (o0, Jvm.RoadKit.slotOf Z "java/util/ArrayList" "size" "I")] ∧ LE.le (α := Nat) h0.size b9_0 ∧ LT.lt (α := Nat) b9_0 h.size ∧ Fld Z h o0 "java/util/AbstractList" "modCount" "I" (.int (w1 + (1 : Int32))) ∧ Fld Z h o0 "java/util/ArrayList" "size" "I" (.int (1 : Int32)) ∧ Fld Z h o0 "java/util/ArrayList" "elementData" "[Ljava/lang/Object;" (.ref b9_0) ∧ Arv Z h b9_0 k9_0 (.object "java/lang/Object") (10 : Int32) [(.ref o1), .null, .null, .null, .null, .null, .null, .null, .null, .null] .null ∧ Ovr Z k9_0 "java/lang/Object"
set_option maxRecDepth 65536 in
set_option maxHeartbeats 40000000 in
theorem rm15 (l : Launch) (Z : State) (a0 : Array Value) (hw : ∀ d ∈ tables_1, d.before a0 Z = true) (ws : List Jvm.Cond) (o0 : Addr) (o1 : Addr) (ze : Addr) (ke : ClassId) (w1 : Int32) (h0 : Heap) (n0 : Nat) (Z0 : n0 ≤ h0.size) (S_D : Sta Z Z.heap "java/util/ArrayList" "DEFAULTCAPACITY_EMPTY_ELEMENTDATA" "[Ljava/lang/Object;" (.ref ze)) (E_l : Exa Z h0 o0 "java/util/ArrayList") (A_ze : Arv Z h0 ze ke (.object "java/lang/Object") (0 : Int32) [] .null) (F_ed : Fld Z h0 o0 "java/util/ArrayList" "elementData" "[Ljava/lang/Object;" (.ref ze)) (F_sz : Fld Z h0 o0 "java/util/ArrayList" "size" "I" (.int (0 : Int32))) (Ol : Old Z n0 h0) (E_e : Exa Z h0 o1 "java/lang/String") (F_modCount_o0 : Fld Z h0 o0 "java/util/AbstractList" "modCount" "I" (.int w1)) (g_o0 : n0 ≤ o0) :
    MetFree l (⟨"java/util/ArrayList", "add", "(Ljava/lang/Object;)Z"⟩ : MethodName) (head1 (Jvm.Cond.code (⟨"java/util/ArrayList", "add", "(Ljava/lang/Object;)Z"⟩ : MethodName) jdk_38_method_25_code 2 (some .boolean) :: ws) ({ frames := 4, cells := 1, slots := 10, locals := 56 } : Room)) (fun a U => a = #[(.ref o0), (.ref o1)] ∧ Z.Warmed39 U.vm ∧ U.heap = h0) (fun _ _ _ _ _ => True) (fun _ U o U' => ∃ v L, o = .returned v ∧ Q15 Z o0 o1 ze ke w1 h0 n0 v U'.heap L ∧ FrameEnd U o U' L ({ frames := 4, cells := 1, slots := 10, locals := 56 } : Room).cells ({ frames := 4, cells := 1, slots := 10, locals := 56 } : Room).slots) := by
  refine MetFree.of_bodySF (plainFor_of_name pn_15) hisR ?_
  intro p e s m args below meth c s₁ Bd hml0 hP hK
  obtain ⟨rfl, hZ, hh⟩ := hP
  have hx := Bd.exec
  have hby := Bd.bytes
  have hml : c.maxLocals = 2 := hml0
  have hown : s.vm.findClass "java/util/ArrayList" = some m.cls := findClass_of_methodNamed Bd.named
  have hnm := (name_of_methodNamed Bd.named Bd.method).1
  have hrt := Bd.returns
  have hlk := Bd.notSynchronized
  have X0 : Stand p l e ({ frames := 4, cells := 1, slots := 10, locals := 56 } : Room) s m #[(.ref o0), (.ref o1)] below meth c s₁ [] 0 0 := Stand.of_body Bd
  have e0 : s₁.heap = h0 := by rw [← hh, Bd.state]; rfl
  have N0 := Fr.nil n0
  have lt_E_l : LT.lt (α := Nat) o0 h0.size := E_l.lt
  have lt_A_ze : LT.lt (α := Nat) ze h0.size := A_ze.lt
  have lt_F_ed : LT.lt (α := Nat) o0 h0.size := F_ed.lt
  have lt_F_sz : LT.lt (α := Nat) o0 h0.size := F_sz.lt
  have lt_E_e : LT.lt (α := Nat) o1 h0.size := E_e.lt
  have lt_F_modCount_o0 : LT.lt (α := Nat) o0 h0.size := F_modCount_o0.lt
  show Go p e below s 1 10 (Q15 Z o0 o1 ze ke w1 h0 n0) (s₁.setTop (entryFrame m #[(.ref o0), (.ref o1)] 2))
  rw [ef_15 m o0 o1]
  refine Go.pre (st' := s₁.setTop (mkF m 2 #[.val (.ref o0), .val (.ref o1)] [(.ref o0), (.ref o0)])) (fun target kt => ?_) ?_
  · show Steps p.tables e below (s₁.setTop (mkF m 0 #[.val (.ref o0), .val (.ref o1)] [])) _
    refine XS.aloadN X0.here hx rfl (hb hby d15_0) rfl rfl ?_
    show Steps p.tables e below (s₁.setTop (mkF m 1 #[.val (.ref o0), .val (.ref o1)] [(.ref o0)])) _
    refine XS.dup X0.here hx rfl (hb hby d15_1) rfl rfl ?_
    exact kt
  obtain ⟨T2, X2, e2, st2⟩ := getF X0 hx hZ hown (host := "") (Or.inl (hw _ (List.mem_of_getElem? (i := 120) rfl))) (Via.of (hw _ (List.mem_of_getElem? (i := 121) rfl))) e0 F_modCount_o0 (g := (mkF m 2 #[.val (.ref o0), .val (.ref o1)] [(.ref o0), (.ref o0)])) rfl rfl (hb hby d15_2)
  refine Go.pre st2 ?_
  show Go p e below s _ _ _ (T2.setTop (mkF m 5 #[.val (.ref o0), .val (.ref o1)] [(.int w1), (.ref o0)]))
  refine Go.pre (st' := T2.setTop (mkF m 7 #[.val (.ref o0), .val (.ref o1)] [(.int (w1 + (1 : Int32))), (.ref o0)])) (fun target kt => ?_) ?_
  · show Steps p.tables e below (T2.setTop (mkF m 5 #[.val (.ref o0), .val (.ref o1)] [(.int w1), (.ref o0)])) _
    refine XS.iconst X2.here hx rfl (hb hby d15_5) ?_
    show Steps p.tables e below (T2.setTop (mkF m 6 #[.val (.ref o0), .val (.ref o1)] [(.int (1 : Int32)), (.int w1), (.ref o0)])) _
    refine XS.iadd X2.here hx rfl (hb hby d15_6) rfl ?_
    exact kt
  obtain ⟨T3, h3, X3, e3, W3, st3⟩ := putF X2 hx hZ hown (host := "") (Or.inl (hw _ (List.mem_of_getElem? (i := 120) rfl))) (Via.of (hw _ (List.mem_of_getElem? (i := 121) rfl))) e2 F_modCount_o0 E_l (Or.inl (hw _ (List.mem_of_getElem? (i := 46) rfl))) (hw _ (List.mem_of_getElem? (i := 27) rfl)) (ty := .int) (by decide) rfl rfl (g := (mkF m 7 #[.val (.ref o0), .val (.ref o1)] [(.int (w1 + (1 : Int32))), (.ref o0)])) rfl rfl (hb hby d15_7)
  have sz3 : h0.size ≤ h3.size := (Keep.of_wr W3).1
  have Y4 : Fld Z h3 o0 "java/util/AbstractList" "modCount" "I" (.int (w1 + (1 : Int32))) := F_modCount_o0.same W3
  have N3 := Fr.snoc X3 N0 (by omega)
  refine Go.pre st3 ?_
  show Go p e below s _ _ _ (T3.setTop (mkF m 10 #[.val (.ref o0), .val (.ref o1)] []))
  refine Go.pre (st' := T3.setTop (mkF m 13 #[.val (.ref o0), .val (.ref o1)] [(.ref o0), (.ref o1), (.ref o0)])) (fun target kt => ?_) ?_
  · show Steps p.tables e below (T3.setTop (mkF m 10 #[.val (.ref o0), .val (.ref o1)] [])) _
    refine XS.aloadN X3.here hx rfl (hb hby d15_10) rfl rfl ?_
    show Steps p.tables e below (T3.setTop (mkF m 11 #[.val (.ref o0), .val (.ref o1)] [(.ref o0)])) _
    refine XS.aloadN X3.here hx rfl (hb hby d15_11) rfl rfl ?_
    show Steps p.tables e below (T3.setTop (mkF m 12 #[.val (.ref o0), .val (.ref o1)] [(.ref o1), (.ref o0)])) _
    refine XS.aloadN X3.here hx rfl (hb hby d15_12) rfl rfl ?_
    exact kt
  have Y5 : Fld Z h3 o0 "java/util/ArrayList" "elementData" "[Ljava/lang/Object;" (.ref ze) := (F_ed.other W3 (Or.inr (slot_ne (Or.inl (hw _ (List.mem_of_getElem? (i := 49) rfl))) (Or.inl (hw _ (List.mem_of_getElem? (i := 46) rfl))) (by decide) (t := (.array (.object "java/lang/Object"))) (t' := .int) (by decide) (by decide))))
  obtain ⟨T6, X6, e6, st6⟩ := getF X3 hx hZ hown (host := "") (Or.inl (hw _ (List.mem_of_getElem? (i := 48) rfl))) Via.refl e3 Y5 (g := (mkF m 13 #[.val (.ref o0), .val (.ref o1)] [(.ref o0), (.ref o1), (.ref o0)])) rfl rfl (hb hby d15_13)
  refine Go.pre st6 ?_
  show Go p e below s _ _ _ (T6.setTop (mkF m 16 #[.val (.ref o0), .val (.ref o1)] [(.ref ze), (.ref o1), (.ref o0)]))
  refine Go.pre (st' := T6.setTop (mkF m 17 #[.val (.ref o0), .val (.ref o1)] [(.ref o0), (.ref ze), (.ref o1), (.ref o0)])) (fun target kt => ?_) ?_
  · show Steps p.tables e below (T6.setTop (mkF m 16 #[.val (.ref o0), .val (.ref o1)] [(.ref ze), (.ref o1), (.ref o0)])) _
    refine XS.aloadN X6.here hx rfl (hb hby d15_16) rfl rfl ?_
    exact kt
  have Y7 : Fld Z h3 o0 "java/util/ArrayList" "size" "I" (.int (0 : Int32)) := (F_sz.other W3 (Or.inr (slot_ne (Or.inl (hw _ (List.mem_of_getElem? (i := 123) rfl))) (Or.inl (hw _ (List.mem_of_getElem? (i := 46) rfl))) (by decide) (t := .int) (t' := .int) (by decide) (by decide))))
  obtain ⟨T8, X8, e8, st8⟩ := getF X6 hx hZ hown (host := "") (Or.inl (hw _ (List.mem_of_getElem? (i := 122) rfl))) Via.refl e6 Y7 (g := (mkF m 17 #[.val (.ref o0), .val (.ref o1)] [(.ref o0), (.ref ze), (.ref o1), (.ref o0)])) rfl rfl (hb hby d15_17)
  refine Go.pre st8 ?_
  show Go p e below s _ _ _ (T8.setTop (mkF m 20 #[.val (.ref o0), .val (.ref o1)] [(.int (0 : Int32)), (.ref ze), (.ref o1), (.ref o0)]))
  have Y10 : Old Z n0 h3 := (Ol.wr W3 (by omega))
  have Y11 : Exa Z h3 o0 "java/util/ArrayList" := (E_l.wr W3)
  have Y12 : Arv Z h3 ze ke (.object "java/lang/Object") (0 : Int32) [] .null := (A_ze.other W3 (Ne.symm (Exa.neArv E_l A_ze (hw _ (List.mem_of_getElem? (i := 27) rfl)))))
  have Y13 : Exa Z h3 o1 "java/lang/String" := (E_e.wr W3)
  obtain ⟨cq9, q9, q9'⟩ := Y11.cell
  obtain ⟨_, _, ⟨T9, L9, k9, n9⟩, -, X9, ⟨Lc9, hQ9, l9, y9, z9⟩, st9⟩ := X8.privateBack hx (y := (⟨"java/util/ArrayList", "add", "(Ljava/lang/Object;[Ljava/lang/Object;I)V"⟩ : MethodName)) hown (mvT hZ (hw _ (List.mem_of_getElem? (i := 124) rfl))) (mvT hZ (hw _ (List.mem_of_getElem? (i := 125) rfl))) (mvT hZ (hw _ (List.mem_of_getElem? (i := 127) rfl))) (Cond.privateMethod_at (mvP hZ (hw _ (List.mem_of_getElem? (i := 126) rfl)) (args := #[]))) (mvT hZ (hw _ (List.mem_of_getElem? (i := 128) rfl))) (by decide) (backOf (W := 0) (rm16 l Z a0 hw [] o0 o1 ze ke h3 n0 (by omega) S_D Y11 Y12 Y5 Y7 Y10 Y13 (by omega)) hZ (hw _ (List.mem_of_getElem? (i := 128) rfl)) (hw _ (List.mem_of_getElem? (i := 28) rfl)) (by decide) (by decide)) (g := (mkF m 20 #[.val (.ref o0), .val (.ref o1)] [(.int (0 : Int32)), (.ref ze), (.ref o1), (.ref o0)])) rfl (by rw [hml]; rfl) (Steps.refl _) (a := o0) (by rw [e8]; exact q9) q9' (argsL := [(.ref o1), (.ref ze), (.int (0 : Int32))]) (rest := []) (lenOf pd15_0 rfl) rfl (by show 2 * 0 + _ ≤ _; exact Nat.le_of_eq rfl) (hb hby d15_20) (fun vm₁ hvm => ⟨rfl, e8, (by decide : 0 + 1 ≤ _), (by decide : 0 + 10 ≤ _)⟩)
  dsimp only [Pt.U, Pt.locs, Pt.cells, Pt.slots] at X9 l9 y9 z9 st9 hQ9
  subst l9 y9 z9
  obtain ⟨b9_0, k9_0, rfl, N9q, K9, KF9, gb9_0, ltb9_0, Y9_0, Y9_1, Y9_2, Y9_3⟩ := hQ9
  have sz9 : h3.size ≤ T9.heap.size := K9.1
  have N9 := Fr.app N3 N9q
  refine Go.trans st9 ?_
  show Go p e below s _ _ _ (T9.setTop (mkF m 23 #[.val (.ref o0), .val (.ref o1)] []))
  refine Go.pre (st' := T9.setTop (mkF m 24 #[.val (.ref o0), .val (.ref o1)] [(.int (1 : Int32))])) (fun target kt => ?_) ?_
  · show Steps p.tables e below (T9.setTop (mkF m 23 #[.val (.ref o0), .val (.ref o1)] [])) _
    refine XS.iconst X9.here hx rfl (hb hby d15_23) ?_
    exact kt
  have Y14 : Fld Z T9.heap o0 "java/util/AbstractList" "modCount" "I" (.int (w1 + (1 : Int32))) := (KF9 _ _ _ _ _ Y4 (pallS (Or.inr (slot_ne (Or.inl (hw _ (List.mem_of_getElem? (i := 46) rfl))) (Or.inl (hw _ (List.mem_of_getElem? (i := 49) rfl))) (by decide) (t := .int) (t' := (.array (.object "java/lang/Object"))) (by decide) (by decide))) (pallS (Or.inr (slot_ne (Or.inl (hw _ (List.mem_of_getElem? (i := 46) rfl))) (Or.inl (hw _ (List.mem_of_getElem? (i := 123) rfl))) (by decide) (t := .int) (t' := .int) (by decide) (by decide))) pall0)))
  exact Go.retN X9 hx hlk hrt (z' := (1 : Int32)) (by simp) (hb hby d15_24) rfl (by decide) (by decide) (by exact ⟨b9_0, k9_0, rfl, N9, (((Keep.refl h0 [o0]).wr W3 (Or.inl (List.mem_of_getElem? (i := 0) rfl))).trans K9 (allS (Or.inl (List.mem_of_getElem? (i := 0) rfl)) all0)), (((KF.refl Z h0 [(o0, Jvm.RoadKit.slotOf Z "java/util/AbstractList" "modCount" "I"), (o0, Jvm.RoadKit.slotOf Z "java/util/ArrayList" "elementData" "[Ljava/lang/Object;"), (o0, Jvm.RoadKit.slotOf Z "java/util/ArrayList" "size" "I")]).wr W3 (Or.inl (List.mem_of_getElem? (i := 0) rfl))).trans KF9 (pallS (Or.inl (List.mem_of_getElem? (i := 1) rfl)) (pallS (Or.inl (List.mem_of_getElem? (i := 2) rfl)) pall0))), by omega, by omega, Y14, Y9_0, Y9_1, Y9_2, Y9_3⟩)
theorem own_and (x : Int32) (h : x = (0 : Int32) ∨ x = (1 : Int32)) (n : ¬ x = (0 : Int32)) : ¬ (x &&& 1) = (0 : Int32) := by rcases h with rfl | rfl <;> revert n <;> decide
theorem own_and0 (x : Int32) (n : x = (0 : Int32)) : (x &&& 1) = (0 : Int32) := by subst n; decide
theorem pd207N_0 : parseMethodDescriptor "(II)V" = some ⟨[.int, .int], none⟩ := by decide +kernel
theorem pd207N_1 : parseMethodDescriptor "(Ljava/lang/String;ILcom/example/araucaria/araucaria/proto/SourcePosition;Lcom/example/araucaria/araucaria/proto/SourcePosition;Ljava/lang/String;ZZLjava/lang/String;Ljava/util/List;Ljava/lang/String;)V" = some ⟨[(.object "java/lang/String"), .int, (.object "com/example/araucaria/araucaria/proto/SourcePosition"), (.object "com/example/araucaria/araucaria/proto/SourcePosition"), (.object "java/lang/String"), .boolean, .boolean, (.object "java/lang/String"), (.object "java/util/List"), (.object "java/lang/String")], none⟩ := by decide +kernel
theorem pd207N_2 : parseMethodDescriptor "()Z" = some ⟨[], some .boolean⟩ := by decide +kernel
set_option maxRecDepth 65536 in
set_option maxHeartbeats 40000000 in
theorem blk207N {p : Program} {l : Launch} {e : Env} {s : State} {m : MethodId} {args : Array Value} {below : List Frame} {meth : Method} {c : Code} {Z : State} {a0 : Array Value} {T : State} {locs : List Loc} {h0 : Heap} {n0 : Nat} {vm0 : Vm} {k0 : Nat} (C : Ctx p (s.setVm vm0) m meth c Z code 17 "com/example/araucaria/araucaria/proto/ProtoFieldHasPresencePinLaw" (some .boolean)) (hw : ∀ d ∈ tables_1, d.before a0 Z = true) (hS : s.Since vm0 k0) (hk : k0 ≤ h0.size) (hI : IB Z vm0 ["OUTPUT_ONLY", "map<string, Book>", ""]) (hnS : n0 = s.heap.size) (hkp : ∀ (b : Addr) (cl : Cell), Z.heap[b]? = some cl → s.heap[b]? = some cl)
    (X0 : Stand p l e room_1 (s.setVm vm0) m args below meth c T locs 14 166) (e0 : T.heap = h0) (N0 : Fr n0 locs) (p0 : Int32) (p1 : Int32) (p2 : Int32) (p3 : Int32) (p4 : Int32) (p5 : Int32) (p6 : Int32) (p7 : Int32) (p8 : Int32) (r10 : Addr) (r11 : Addr) (r12 : Addr) (zc : Int32) (zd : Addr) (kd : ClassId) (Z0 : n0 ≤ h0.size) (h01 : p5 = (0 : Int32) ∨ p5 = (1 : Int32)) (S_COMPACT : Sta Z Z.heap "java/lang/String" "COMPACT_STRINGS" "Z" (.int zc)) (hcs : ¬ (zc = (0 : Int32))) (S_D : Sta Z Z.heap "java/util/ArrayList" "DEFAULTCAPACITY_EMPTY_ELEMENTDATA" "[Ljava/lang/Object;" (.ref zd)) (A_zd : Arv Z h0 zd kd (.object "java/lang/Object") (0 : Int32) [] .null) (Ol : Old Z n0 h0) (hcw : Jvm.Lit.compactW.before a0 Z = true) (hheld : ∀ q ∈ consts_1, Jvm.Lit.constHeld Z q.1 q.2) :
    GoW p e below s 40 3264 (fun v vm h L => v = some (.int 1) ∧ Fr n0 L) (T.setTop (mkF m 207 #[.val (.int p0), .val (.int p1), .val (.int p2), .val (.int p3), .val (.int p4), .val (.int p5), .val (.int p6), .val (.int p7), .val (.int p8), .val .null, .val (.ref r10), .val (.ref r11), .val (.ref r12), .unset, .unset, .unset, .unset] [])) := by
  obtain ⟨hx, hZ, hby, hml, hown, hrt, hlk⟩ := id C
  have lt_A_zd : LT.lt (α := Nat) zd h0.size := A_zd.lt
  obtain ⟨T1, h1, X1, e1, E1, A1, D1, -, st1⟩ := newO X0 hx hZ hown (hw _ (List.mem_of_getElem? (i := 50) rfl)) (hw _ (List.mem_of_getElem? (i := 51) rfl)) (hw _ (List.mem_of_getElem? (i := 52) rfl)) e0 (g := (mkF m 207 #[.val (.int p0), .val (.int p1), .val (.int p2), .val (.int p3), .val (.int p4), .val (.int p5), .val (.int p6), .val (.int p7), .val (.int p8), .val .null, .val (.ref r10), .val (.ref r11), .val (.ref r12), .unset, .unset, .unset, .unset] [])) rfl (hb hby at_207) (by decide) (by decide)
  obtain ⟨b1, g1⟩ : ∃ z, z = h0.size := ⟨_, rfl⟩
  rw [← g1] at A1 D1 st1
  have sz1 : h0.size ≤ h1.size := E1.1
  have lt1 : b1 < h1.size := A1.lt
  have F1_line : Fld Z h1 b1 "com/example/araucaria/araucaria/proto/SourcePosition" "line" "I" (.int (0 : Int32)) := D1 (Or.inr (hw _ (List.mem_of_getElem? (i := 63) rfl))) (ty := .int) (by decide)
  have F1_column : Fld Z h1 b1 "com/example/araucaria/araucaria/proto/SourcePosition" "column" "I" (.int (0 : Int32)) := D1 (Or.inr (hw _ (List.mem_of_getElem? (i := 65) rfl))) (ty := .int) (by decide)
  refine GoW.pre st1 ?_
  show GoW p e below s _ _ _ (T1.setTop (mkF m 210 #[.val (.int p0), .val (.int p1), .val (.int p2), .val (.int p3), .val (.int p4), .val (.int p5), .val (.int p6), .val (.int p7), .val (.int p8), .val .null, .val (.ref r10), .val (.ref r11), .val (.ref r12), .unset, .unset, .unset, .unset] [(.ref b1)]))
  refine GoW.pre (st' := T1.setTop (mkF m 213 #[.val (.int p0), .val (.int p1), .val (.int p2), .val (.int p3), .val (.int p4), .val (.int p5), .val (.int p6), .val (.int p7), .val (.int p8), .val .null, .val (.ref r10), .val (.ref r11), .val (.ref r12), .unset, .unset, .unset, .unset] [(.int p3), (.int p0), (.ref b1), (.ref b1)])) (fun target kt => ?_) ?_
  · show Steps p.tables e below (T1.setTop (mkF m 210 #[.val (.int p0), .val (.int p1), .val (.int p2), .val (.int p3), .val (.int p4), .val (.int p5), .val (.int p6), .val (.int p7), .val (.int p8), .val .null, .val (.ref r10), .val (.ref r11), .val (.ref r12), .unset, .unset, .unset, .unset] [(.ref b1)])) _
    refine XS.dup X1.here hx rfl (hb hby at_210) rfl rfl ?_
    show Steps p.tables e below (T1.setTop (mkF m 211 #[.val (.int p0), .val (.int p1), .val (.int p2), .val (.int p3), .val (.int p4), .val (.int p5), .val (.int p6), .val (.int p7), .val (.int p8), .val .null, .val (.ref r10), .val (.ref r11), .val (.ref r12), .unset, .unset, .unset, .unset] [(.ref b1), (.ref b1)])) _
    refine XS.iloadN X1.here hx rfl (hb hby at_211) rfl ?_
    show Steps p.tables e below (T1.setTop (mkF m 212 #[.val (.int p0), .val (.int p1), .val (.int p2), .val (.int p3), .val (.int p4), .val (.int p5), .val (.int p6), .val (.int p7), .val (.int p8), .val .null, .val (.ref r10), .val (.ref r11), .val (.ref r12), .unset, .unset, .unset, .unset] [(.int p0), (.ref b1), (.ref b1)])) _
    refine XS.iloadN X1.here hx rfl (hb hby at_212) rfl ?_
    exact kt
  obtain ⟨_, _, ⟨T2, L2, k2, n2⟩, -, X2, ⟨Lc2, hQ2, l2, y2, z2⟩, st2⟩ := X1.specialBack hx (y := (⟨"com/example/araucaria/araucaria/proto/SourcePosition", "<init>", "(II)V"⟩ : MethodName)) rfl hown (mvT hZ (hw _ (List.mem_of_getElem? (i := 53) rfl))) (mvT hZ (hw _ (List.mem_of_getElem? (i := 54) rfl))) (mvT hZ (hw _ (List.mem_of_getElem? (i := 55) rfl))) (by decide) (backOf (W := 1) (rm9 l Z a0 hw [] b1 p0 p3 (.int (0 : Int32)) (.int (0 : Int32)) h1 n0 (by omega) F1_line A1 (by omega) F1_column) hZ (hw _ (List.mem_of_getElem? (i := 55) rfl)) (hw _ (List.mem_of_getElem? (i := 52) rfl)) (by decide) (by decide)) (g := (mkF m 213 #[.val (.int p0), .val (.int p1), .val (.int p2), .val (.int p3), .val (.int p4), .val (.int p5), .val (.int p6), .val (.int p7), .val (.int p8), .val .null, .val (.ref r10), .val (.ref r11), .val (.ref r12), .unset, .unset, .unset, .unset] [(.int p3), (.int p0), (.ref b1), (.ref b1)])) rfl (by rw [hml]; rfl) (Steps.refl _) (a := b1) (argsL := [(.int p0), (.int p3)]) (rest := [(.ref b1)]) (lenOf pd207N_0 rfl) rfl (by show 2 * 0 + _ ≤ _; exact Nat.le_of_eq rfl) (hb hby at_213) (fun vm₁ hvm => ⟨rfl, e1, (by decide : 15 + 0 ≤ _), (by decide : 168 + 0 ≤ _)⟩)
  dsimp only [Pt.U, Pt.locs, Pt.cells, Pt.slots] at X2 l2 y2 z2 st2 hQ2
  subst l2 y2 z2
  obtain ⟨rfl, N2q, K2, KF2, Y2_0, Y2_1⟩ := hQ2
  have sz2 : h1.size ≤ T2.heap.size := K2.1
  have N2 := Fr.app N0 N2q
  refine GoW.trans st2 ?_
  show GoW p e below s _ _ _ (T2.setTop (mkF m 216 #[.val (.int p0), .val (.int p1), .val (.int p2), .val (.int p3), .val (.int p4), .val (.int p5), .val (.int p6), .val (.int p7), .val (.int p8), .val .null, .val (.ref r10), .val (.ref r11), .val (.ref r12), .unset, .unset, .unset, .unset] [(.ref b1)]))
  refine GoW.pre (st' := T2.setTop (mkF m 218 #[.val (.int p0), .val (.int p1), .val (.int p2), .val (.int p3), .val (.int p4), .val (.int p5), .val (.int p6), .val (.int p7), .val (.int p8), .val .null, .val (.ref r10), .val (.ref r11), .val (.ref r12), .val (.ref b1), .unset, .unset, .unset] [])) (fun target kt => ?_) ?_
  · show Steps p.tables e below (T2.setTop (mkF m 216 #[.val (.int p0), .val (.int p1), .val (.int p2), .val (.int p3), .val (.int p4), .val (.int p5), .val (.int p6), .val (.int p7), .val (.int p8), .val .null, .val (.ref r10), .val (.ref r11), .val (.ref r12), .unset, .unset, .unset, .unset] [(.ref b1)])) _
    refine XS.astore X2.here hx rfl (hb hby at_216) rfl rfl (l' := #[.val (.int p0), .val (.int p1), .val (.int p2), .val (.int p3), .val (.int p4), .val (.int p5), .val (.int p6), .val (.int p7), .val (.int p8), .val .null, .val (.ref r10), .val (.ref r11), .val (.ref r12), .val (.ref b1), .unset, .unset, .unset]) rfl ?_
    exact kt
  obtain ⟨T3, h3, X3, e3, E3, A3, D3, -, st3⟩ := newO X2 hx hZ hown (hw _ (List.mem_of_getElem? (i := 50) rfl)) (hw _ (List.mem_of_getElem? (i := 51) rfl)) (hw _ (List.mem_of_getElem? (i := 52) rfl)) rfl (g := (mkF m 218 #[.val (.int p0), .val (.int p1), .val (.int p2), .val (.int p3), .val (.int p4), .val (.int p5), .val (.int p6), .val (.int p7), .val (.int p8), .val .null, .val (.ref r10), .val (.ref r11), .val (.ref r12), .val (.ref b1), .unset, .unset, .unset] [])) rfl (hb hby at_218) (by decide) (by decide)
  obtain ⟨b3, g3⟩ : ∃ z, z = T2.heap.size := ⟨_, rfl⟩
  rw [← g3] at A3 D3 st3
  have sz3 : T2.heap.size ≤ h3.size := E3.1
  have lt3 : b3 < h3.size := A3.lt
  have F3_line : Fld Z h3 b3 "com/example/araucaria/araucaria/proto/SourcePosition" "line" "I" (.int (0 : Int32)) := D3 (Or.inr (hw _ (List.mem_of_getElem? (i := 63) rfl))) (ty := .int) (by decide)
  have F3_column : Fld Z h3 b3 "com/example/araucaria/araucaria/proto/SourcePosition" "column" "I" (.int (0 : Int32)) := D3 (Or.inr (hw _ (List.mem_of_getElem? (i := 65) rfl))) (ty := .int) (by decide)
  refine GoW.pre st3 ?_
  show GoW p e below s _ _ _ (T3.setTop (mkF m 221 #[.val (.int p0), .val (.int p1), .val (.int p2), .val (.int p3), .val (.int p4), .val (.int p5), .val (.int p6), .val (.int p7), .val (.int p8), .val .null, .val (.ref r10), .val (.ref r11), .val (.ref r12), .val (.ref b1), .unset, .unset, .unset] [(.ref b3)]))
  refine GoW.pre (st' := T3.setTop (mkF m 224 #[.val (.int p0), .val (.int p1), .val (.int p2), .val (.int p3), .val (.int p4), .val (.int p5), .val (.int p6), .val (.int p7), .val (.int p8), .val .null, .val (.ref r10), .val (.ref r11), .val (.ref r12), .val (.ref b1), .unset, .unset, .unset] [(.int p0), (.int p2), (.ref b3), (.ref b3)])) (fun target kt => ?_) ?_
  · show Steps p.tables e below (T3.setTop (mkF m 221 #[.val (.int p0), .val (.int p1), .val (.int p2), .val (.int p3), .val (.int p4), .val (.int p5), .val (.int p6), .val (.int p7), .val (.int p8), .val .null, .val (.ref r10), .val (.ref r11), .val (.ref r12), .val (.ref b1), .unset, .unset, .unset] [(.ref b3)])) _
    refine XS.dup X3.here hx rfl (hb hby at_221) rfl rfl ?_
    show Steps p.tables e below (T3.setTop (mkF m 222 #[.val (.int p0), .val (.int p1), .val (.int p2), .val (.int p3), .val (.int p4), .val (.int p5), .val (.int p6), .val (.int p7), .val (.int p8), .val .null, .val (.ref r10), .val (.ref r11), .val (.ref r12), .val (.ref b1), .unset, .unset, .unset] [(.ref b3), (.ref b3)])) _
    refine XS.iloadN X3.here hx rfl (hb hby at_222) rfl ?_
    show Steps p.tables e below (T3.setTop (mkF m 223 #[.val (.int p0), .val (.int p1), .val (.int p2), .val (.int p3), .val (.int p4), .val (.int p5), .val (.int p6), .val (.int p7), .val (.int p8), .val .null, .val (.ref r10), .val (.ref r11), .val (.ref r12), .val (.ref b1), .unset, .unset, .unset] [(.int p2), (.ref b3), (.ref b3)])) _
    refine XS.iloadN X3.here hx rfl (hb hby at_223) rfl ?_
    exact kt
  obtain ⟨_, _, ⟨T4, L4, k4, n4⟩, -, X4, ⟨Lc4, hQ4, l4, y4, z4⟩, st4⟩ := X3.specialBack hx (y := (⟨"com/example/araucaria/araucaria/proto/SourcePosition", "<init>", "(II)V"⟩ : MethodName)) rfl hown (mvT hZ (hw _ (List.mem_of_getElem? (i := 53) rfl))) (mvT hZ (hw _ (List.mem_of_getElem? (i := 54) rfl))) (mvT hZ (hw _ (List.mem_of_getElem? (i := 55) rfl))) (by decide) (backOf (W := 1) (rm9 l Z a0 hw [] b3 p2 p0 (.int (0 : Int32)) (.int (0 : Int32)) h3 n0 (by omega) F3_line A3 (by omega) F3_column) hZ (hw _ (List.mem_of_getElem? (i := 55) rfl)) (hw _ (List.mem_of_getElem? (i := 52) rfl)) (by decide) (by decide)) (g := (mkF m 224 #[.val (.int p0), .val (.int p1), .val (.int p2), .val (.int p3), .val (.int p4), .val (.int p5), .val (.int p6), .val (.int p7), .val (.int p8), .val .null, .val (.ref r10), .val (.ref r11), .val (.ref r12), .val (.ref b1), .unset, .unset, .unset] [(.int p0), (.int p2), (.ref b3), (.ref b3)])) rfl (by rw [hml]; rfl) (Steps.refl _) (a := b3) (argsL := [(.int p2), (.int p0)]) (rest := [(.ref b3)]) (lenOf pd207N_0 rfl) rfl (by show 2 * 0 + _ ≤ _; exact Nat.le_of_eq rfl) (hb hby at_224) (fun vm₁ hvm => ⟨rfl, e3, (by decide : 16 + 0 ≤ _), (by decide : 170 + 0 ≤ _)⟩)
  dsimp only [Pt.U, Pt.locs, Pt.cells, Pt.slots] at X4 l4 y4 z4 st4 hQ4
  subst l4 y4 z4
  obtain ⟨rfl, N4q, K4, KF4, Y4_0, Y4_1⟩ := hQ4
  have sz4 : h3.size ≤ T4.heap.size := K4.1
  have N4 := Fr.app N2 N4q
  refine GoW.trans st4 ?_
  show GoW p e below s _ _ _ (T4.setTop (mkF m 227 #[.val (.int p0), .val (.int p1), .val (.int p2), .val (.int p3), .val (.int p4), .val (.int p5), .val (.int p6), .val (.int p7), .val (.int p8), .val .null, .val (.ref r10), .val (.ref r11), .val (.ref r12), .val (.ref b1), .unset, .unset, .unset] [(.ref b3)]))
  refine GoW.pre (st' := T4.setTop (mkF m 229 #[.val (.int p0), .val (.int p1), .val (.int p2), .val (.int p3), .val (.int p4), .val (.int p5), .val (.int p6), .val (.int p7), .val (.int p8), .val .null, .val (.ref r10), .val (.ref r11), .val (.ref r12), .val (.ref b1), .val (.ref b3), .unset, .unset] [])) (fun target kt => ?_) ?_
  · show Steps p.tables e below (T4.setTop (mkF m 227 #[.val (.int p0), .val (.int p1), .val (.int p2), .val (.int p3), .val (.int p4), .val (.int p5), .val (.int p6), .val (.int p7), .val (.int p8), .val .null, .val (.ref r10), .val (.ref r11), .val (.ref r12), .val (.ref b1), .unset, .unset, .unset] [(.ref b3)])) _
    refine XS.astore X4.here hx rfl (hb hby at_227) rfl rfl (l' := #[.val (.int p0), .val (.int p1), .val (.int p2), .val (.int p3), .val (.int p4), .val (.int p5), .val (.int p6), .val (.int p7), .val (.int p8), .val .null, .val (.ref r10), .val (.ref r11), .val (.ref r12), .val (.ref b1), .val (.ref b3), .unset, .unset]) rfl ?_
    exact kt
  obtain ⟨T5, h5, X5, e5, E5, A5, D5, -, st5⟩ := newO X4 hx hZ hown (hw _ (List.mem_of_getElem? (i := 66) rfl)) (hw _ (List.mem_of_getElem? (i := 67) rfl)) (hw _ (List.mem_of_getElem? (i := 68) rfl)) rfl (g := (mkF m 229 #[.val (.int p0), .val (.int p1), .val (.int p2), .val (.int p3), .val (.int p4), .val (.int p5), .val (.int p6), .val (.int p7), .val (.int p8), .val .null, .val (.ref r10), .val (.ref r11), .val (.ref r12), .val (.ref b1), .val (.ref b3), .unset, .unset] [])) rfl (hb hby at_229) (by decide) (by decide)
  obtain ⟨b5, g5⟩ : ∃ z, z = T4.heap.size := ⟨_, rfl⟩
  rw [← g5] at A5 D5 st5
  have sz5 : T4.heap.size ≤ h5.size := E5.1
  have lt5 : b5 < h5.size := A5.lt
  have F5_name : Fld Z h5 b5 "com/example/araucaria/araucaria/proto/ProtoField" "name" "Ljava/lang/String;" .null := D5 (Or.inr (hw _ (List.mem_of_getElem? (i := 74) rfl))) (ty := (.object "java/lang/String")) (by decide)
  have F5_number : Fld Z h5 b5 "com/example/araucaria/araucaria/proto/ProtoField" "number" "I" (.int (0 : Int32)) := D5 (Or.inr (hw _ (List.mem_of_getElem? (i := 76) rfl))) (ty := .int) (by decide)
  have F5_position : Fld Z h5 b5 "com/example/araucaria/araucaria/proto/ProtoField" "position" "Lcom/example/araucaria/araucaria/proto/SourcePosition;" .null := D5 (Or.inr (hw _ (List.mem_of_getElem? (i := 78) rfl))) (ty := (.object "com/example/araucaria/araucaria/proto/SourcePosition")) (by decide)
  have F5_numberPosition : Fld Z h5 b5 "com/example/araucaria/araucaria/proto/ProtoField" "numberPosition" "Lcom/example/araucaria/araucaria/proto/SourcePosition;" .null := D5 (Or.inr (hw _ (List.mem_of_getElem? (i := 80) rfl))) (ty := (.object "com/example/araucaria/araucaria/proto/SourcePosition")) (by decide)
  have F5_type : Fld Z h5 b5 "com/example/araucaria/araucaria/proto/ProtoField" "type" "Ljava/lang/String;" .null := D5 (Or.inr (hw _ (List.mem_of_getElem? (i := 82) rfl))) (ty := (.object "java/lang/String")) (by decide)
  have F5_repeated : Fld Z h5 b5 "com/example/araucaria/araucaria/proto/ProtoField" "repeated" "Z" (.int (0 : Int32)) := D5 (Or.inr (hw _ (List.mem_of_getElem? (i := 84) rfl))) (ty := .boolean) (by decide)
  have F5_optional : Fld Z h5 b5 "com/example/araucaria/araucaria/proto/ProtoField" "optional" "Z" (.int (0 : Int32)) := D5 (Or.inr (hw _ (List.mem_of_getElem? (i := 86) rfl))) (ty := .boolean) (by decide)
  have F5_oneof : Fld Z h5 b5 "com/example/araucaria/araucaria/proto/ProtoField" "oneof" "Ljava/lang/String;" .null := D5 (Or.inr (hw _ (List.mem_of_getElem? (i := 88) rfl))) (ty := (.object "java/lang/String")) (by decide)
  have F5_behaviors : Fld Z h5 b5 "com/example/araucaria/araucaria/proto/ProtoField" "behaviors" "Ljava/util/List;" .null := D5 (Or.inr (hw _ (List.mem_of_getElem? (i := 90) rfl))) (ty := (.object "java/util/List")) (by decide)
  have F5_jsonName : Fld Z h5 b5 "com/example/araucaria/araucaria/proto/ProtoField" "jsonName" "Ljava/lang/String;" .null := D5 (Or.inr (hw _ (List.mem_of_getElem? (i := 92) rfl))) (ty := (.object "java/lang/String")) (by decide)
  refine GoW.pre st5 ?_
  show GoW p e below s _ _ _ (T5.setTop (mkF m 232 #[.val (.int p0), .val (.int p1), .val (.int p2), .val (.int p3), .val (.int p4), .val (.int p5), .val (.int p6), .val (.int p7), .val (.int p8), .val .null, .val (.ref r10), .val (.ref r11), .val (.ref r12), .val (.ref b1), .val (.ref b3), .unset, .unset] [(.ref b5)]))
  refine GoW.pre (st' := T5.setTop (mkF m 252 #[.val (.int p0), .val (.int p1), .val (.int p2), .val (.int p3), .val (.int p4), .val (.int p5), .val (.int p6), .val (.int p7), .val (.int p8), .val .null, .val (.ref r10), .val (.ref r11), .val (.ref r12), .val (.ref b1), .val (.ref b3), .unset, .unset] [(.ref r11), (.ref r12), .null, (.int p5), (.int p4), (.ref r10), (.ref b3), (.ref b1), (.int p0), (.ref r11), (.ref b5), (.ref b5)])) (fun target kt => ?_) ?_
  · show Steps p.tables e below (T5.setTop (mkF m 232 #[.val (.int p0), .val (.int p1), .val (.int p2), .val (.int p3), .val (.int p4), .val (.int p5), .val (.int p6), .val (.int p7), .val (.int p8), .val .null, .val (.ref r10), .val (.ref r11), .val (.ref r12), .val (.ref b1), .val (.ref b3), .unset, .unset] [(.ref b5)])) _
    refine XS.dup X5.here hx rfl (hb hby at_232) rfl rfl ?_
    show Steps p.tables e below (T5.setTop (mkF m 233 #[.val (.int p0), .val (.int p1), .val (.int p2), .val (.int p3), .val (.int p4), .val (.int p5), .val (.int p6), .val (.int p7), .val (.int p8), .val .null, .val (.ref r10), .val (.ref r11), .val (.ref r12), .val (.ref b1), .val (.ref b3), .unset, .unset] [(.ref b5), (.ref b5)])) _
    refine XS.aload X5.here hx rfl (hb hby at_233) rfl rfl ?_
    show Steps p.tables e below (T5.setTop (mkF m 235 #[.val (.int p0), .val (.int p1), .val (.int p2), .val (.int p3), .val (.int p4), .val (.int p5), .val (.int p6), .val (.int p7), .val (.int p8), .val .null, .val (.ref r10), .val (.ref r11), .val (.ref r12), .val (.ref b1), .val (.ref b3), .unset, .unset] [(.ref r11), (.ref b5), (.ref b5)])) _
    refine XS.iloadN X5.here hx rfl (hb hby at_235) rfl ?_
    show Steps p.tables e below (T5.setTop (mkF m 236 #[.val (.int p0), .val (.int p1), .val (.int p2), .val (.int p3), .val (.int p4), .val (.int p5), .val (.int p6), .val (.int p7), .val (.int p8), .val .null, .val (.ref r10), .val (.ref r11), .val (.ref r12), .val (.ref b1), .val (.ref b3), .unset, .unset] [(.int p0), (.ref r11), (.ref b5), (.ref b5)])) _
    refine XS.aload X5.here hx rfl (hb hby at_236) rfl rfl ?_
    show Steps p.tables e below (T5.setTop (mkF m 238 #[.val (.int p0), .val (.int p1), .val (.int p2), .val (.int p3), .val (.int p4), .val (.int p5), .val (.int p6), .val (.int p7), .val (.int p8), .val .null, .val (.ref r10), .val (.ref r11), .val (.ref r12), .val (.ref b1), .val (.ref b3), .unset, .unset] [(.ref b1), (.int p0), (.ref r11), (.ref b5), (.ref b5)])) _
    refine XS.aload X5.here hx rfl (hb hby at_238) rfl rfl ?_
    show Steps p.tables e below (T5.setTop (mkF m 240 #[.val (.int p0), .val (.int p1), .val (.int p2), .val (.int p3), .val (.int p4), .val (.int p5), .val (.int p6), .val (.int p7), .val (.int p8), .val .null, .val (.ref r10), .val (.ref r11), .val (.ref r12), .val (.ref b1), .val (.ref b3), .unset, .unset] [(.ref b3), (.ref b1), (.int p0), (.ref r11), (.ref b5), (.ref b5)])) _
    refine XS.aload X5.here hx rfl (hb hby at_240) rfl rfl ?_
    show Steps p.tables e below (T5.setTop (mkF m 242 #[.val (.int p0), .val (.int p1), .val (.int p2), .val (.int p3), .val (.int p4), .val (.int p5), .val (.int p6), .val (.int p7), .val (.int p8), .val .null, .val (.ref r10), .val (.ref r11), .val (.ref r12), .val (.ref b1), .val (.ref b3), .unset, .unset] [(.ref r10), (.ref b3), (.ref b1), (.int p0), (.ref r11), (.ref b5), (.ref b5)])) _
    refine XS.iload X5.here hx rfl (hb hby at_242) rfl ?_
    show Steps p.tables e below (T5.setTop (mkF m 244 #[.val (.int p0), .val (.int p1), .val (.int p2), .val (.int p3), .val (.int p4), .val (.int p5), .val (.int p6), .val (.int p7), .val (.int p8), .val .null, .val (.ref r10), .val (.ref r11), .val (.ref r12), .val (.ref b1), .val (.ref b3), .unset, .unset] [(.int p4), (.ref r10), (.ref b3), (.ref b1), (.int p0), (.ref r11), (.ref b5), (.ref b5)])) _
    refine XS.iload X5.here hx rfl (hb hby at_244) rfl ?_
    show Steps p.tables e below (T5.setTop (mkF m 246 #[.val (.int p0), .val (.int p1), .val (.int p2), .val (.int p3), .val (.int p4), .val (.int p5), .val (.int p6), .val (.int p7), .val (.int p8), .val .null, .val (.ref r10), .val (.ref r11), .val (.ref r12), .val (.ref b1), .val (.ref b3), .unset, .unset] [(.int p5), (.int p4), (.ref r10), (.ref b3), (.ref b1), (.int p0), (.ref r11), (.ref b5), (.ref b5)])) _
    refine XS.aload X5.here hx rfl (hb hby at_246) rfl rfl ?_
    show Steps p.tables e below (T5.setTop (mkF m 248 #[.val (.int p0), .val (.int p1), .val (.int p2), .val (.int p3), .val (.int p4), .val (.int p5), .val (.int p6), .val (.int p7), .val (.int p8), .val .null, .val (.ref r10), .val (.ref r11), .val (.ref r12), .val (.ref b1), .val (.ref b3), .unset, .unset] [.null, (.int p5), (.int p4), (.ref r10), (.ref b3), (.ref b1), (.int p0), (.ref r11), (.ref b5), (.ref b5)])) _
    refine XS.aload X5.here hx rfl (hb hby at_248) rfl rfl ?_
    show Steps p.tables e below (T5.setTop (mkF m 250 #[.val (.int p0), .val (.int p1), .val (.int p2), .val (.int p3), .val (.int p4), .val (.int p5), .val (.int p6), .val (.int p7), .val (.int p8), .val .null, .val (.ref r10), .val (.ref r11), .val (.ref r12), .val (.ref b1), .val (.ref b3), .unset, .unset] [(.ref r12), .null, (.int p5), (.int p4), (.ref r10), (.ref b3), (.ref b1), (.int p0), (.ref r11), (.ref b5), (.ref b5)])) _
    refine XS.aload X5.here hx rfl (hb hby at_250) rfl rfl ?_
    exact kt
  obtain ⟨_, _, ⟨T6, L6, k6, n6⟩, -, X6, ⟨Lc6, hQ6, l6, y6, z6⟩, st6⟩ := X5.specialBack hx (y := (⟨"com/example/araucaria/araucaria/proto/ProtoField", "<init>", "(Ljava/lang/String;ILcom/example/araucaria/araucaria/proto/SourcePosition;Lcom/example/araucaria/araucaria/proto/SourcePosition;Ljava/lang/String;ZZLjava/lang/String;Ljava/util/List;Ljava/lang/String;)V"⟩ : MethodName)) rfl hown (mvT hZ (hw _ (List.mem_of_getElem? (i := 69) rfl))) (mvT hZ (hw _ (List.mem_of_getElem? (i := 70) rfl))) (mvT hZ (hw _ (List.mem_of_getElem? (i := 71) rfl))) (by decide) (backOf (W := 1) (rm11N l Z a0 hw [] b5 r11 p0 b1 b3 r10 p4 p5 r12 r11 .null (.int (0 : Int32)) .null .null .null (.int (0 : Int32)) (.int (0 : Int32)) .null .null .null h5 n0 (by omega) F5_name A5 (by omega) F5_number F5_position F5_numberPosition F5_type F5_repeated F5_optional F5_oneof F5_behaviors F5_jsonName) hZ (hw _ (List.mem_of_getElem? (i := 71) rfl)) (hw _ (List.mem_of_getElem? (i := 68) rfl)) (by decide) (by decide)) (g := (mkF m 252 #[.val (.int p0), .val (.int p1), .val (.int p2), .val (.int p3), .val (.int p4), .val (.int p5), .val (.int p6), .val (.int p7), .val (.int p8), .val .null, .val (.ref r10), .val (.ref r11), .val (.ref r12), .val (.ref b1), .val (.ref b3), .unset, .unset] [(.ref r11), (.ref r12), .null, (.int p5), (.int p4), (.ref r10), (.ref b3), (.ref b1), (.int p0), (.ref r11), (.ref b5), (.ref b5)])) rfl (by rw [hml]; rfl) (Steps.refl _) (a := b5) (argsL := [(.ref r11), (.int p0), (.ref b1), (.ref b3), (.ref r10), (.int p4), (.int p5), .null, (.ref r12), (.ref r11)]) (rest := [(.ref b5)]) (lenOf pd207N_1 rfl) rfl (by show 2 * 0 + _ ≤ _; exact Nat.le_of_eq rfl) (hb hby at_252) (fun vm₁ hvm => ⟨rfl, e5, (by decide : 17 + 0 ≤ _), (by decide : 180 + 0 ≤ _)⟩)
  dsimp only [Pt.U, Pt.locs, Pt.cells, Pt.slots] at X6 l6 y6 z6 st6 hQ6
  subst l6 y6 z6
  obtain ⟨rfl, N6q, K6, KF6, Y6_0, Y6_1, Y6_2, Y6_3, Y6_4, Y6_5, Y6_6, Y6_7, Y6_8, Y6_9⟩ := hQ6
  have sz6 : h5.size ≤ T6.heap.size := K6.1
  have N6 := Fr.app N4 N6q
  refine GoW.trans st6 ?_
  show GoW p e below s _ _ _ (T6.setTop (mkF m 255 #[.val (.int p0), .val (.int p1), .val (.int p2), .val (.int p3), .val (.int p4), .val (.int p5), .val (.int p6), .val (.int p7), .val (.int p8), .val .null, .val (.ref r10), .val (.ref r11), .val (.ref r12), .val (.ref b1), .val (.ref b3), .unset, .unset] [(.ref b5)]))
  refine GoW.pre (st' := T6.setTop (mkF m 259 #[.val (.int p0), .val (.int p1), .val (.int p2), .val (.int p3), .val (.int p4), .val (.int p5), .val (.int p6), .val (.int p7), .val (.int p8), .val .null, .val (.ref r10), .val (.ref r11), .val (.ref r12), .val (.ref b1), .val (.ref b3), .val (.ref b5), .unset] [(.int p5)])) (fun target kt => ?_) ?_
  · show Steps p.tables e below (T6.setTop (mkF m 255 #[.val (.int p0), .val (.int p1), .val (.int p2), .val (.int p3), .val (.int p4), .val (.int p5), .val (.int p6), .val (.int p7), .val (.int p8), .val .null, .val (.ref r10), .val (.ref r11), .val (.ref r12), .val (.ref b1), .val (.ref b3), .unset, .unset] [(.ref b5)])) _
    refine XS.astore X6.here hx rfl (hb hby at_255) rfl rfl (l' := #[.val (.int p0), .val (.int p1), .val (.int p2), .val (.int p3), .val (.int p4), .val (.int p5), .val (.int p6), .val (.int p7), .val (.int p8), .val .null, .val (.ref r10), .val (.ref r11), .val (.ref r12), .val (.ref b1), .val (.ref b3), .val (.ref b5), .unset]) rfl ?_
    show Steps p.tables e below (T6.setTop (mkF m 257 #[.val (.int p0), .val (.int p1), .val (.int p2), .val (.int p3), .val (.int p4), .val (.int p5), .val (.int p6), .val (.int p7), .val (.int p8), .val .null, .val (.ref r10), .val (.ref r11), .val (.ref r12), .val (.ref b1), .val (.ref b3), .val (.ref b5), .unset] [])) _
    refine XS.iload X6.here hx rfl (hb hby at_257) rfl ?_
    exact kt
  by_cases h259_7 : p5 = (0 : Int32)
  · refine GoW.pre (st' := T6.setTop (mkF m 268 #[.val (.int p0), .val (.int p1), .val (.int p2), .val (.int p3), .val (.int p4), .val (.int p5), .val (.int p6), .val (.int p7), .val (.int p8), .val .null, .val (.ref r10), .val (.ref r11), .val (.ref r12), .val (.ref b1), .val (.ref b3), .val (.ref b5), .unset] [])) (fun target kt => ?_) ?_
    · show Steps p.tables e below (T6.setTop (mkF m 259 #[.val (.int p0), .val (.int p1), .val (.int p2), .val (.int p3), .val (.int p4), .val (.int p5), .val (.int p6), .val (.int p7), .val (.int p8), .val .null, .val (.ref r10), .val (.ref r11), .val (.ref r12), .val (.ref b1), .val (.ref b3), .val (.ref b5), .unset] [(.int p5)])) _
      refine XS.ifYes X6.here hx rfl (pc0 := 259) (pc' := 268) rfl (hb hby at_259) rfl ((if0 _ _).trans (teq h259_7).1) (by decide) (by decide) ?_
      exact kt
    refine GoW.pre (st' := T6.setTop (mkF m 284 #[.val (.int p0), .val (.int p1), .val (.int p2), .val (.int p3), .val (.int p4), .val (.int p5), .val (.int p6), .val (.int p7), .val (.int p8), .val .null, .val (.ref r10), .val (.ref r11), .val (.ref r12), .val (.ref b1), .val (.ref b3), .val (.ref b5), .val (.int (0 : Int32))] [(.ref b5)])) (fun target kt => ?_) ?_
    · show Steps p.tables e below (T6.setTop (mkF m 268 #[.val (.int p0), .val (.int p1), .val (.int p2), .val (.int p3), .val (.int p4), .val (.int p5), .val (.int p6), .val (.int p7), .val (.int p8), .val .null, .val (.ref r10), .val (.ref r11), .val (.ref r12), .val (.ref b1), .val (.ref b3), .val (.ref b5), .unset] [])) _
      refine XS.aload X6.here hx rfl (hb hby at_268) rfl rfl ?_
      show Steps p.tables e below (T6.setTop (mkF m 270 #[.val (.int p0), .val (.int p1), .val (.int p2), .val (.int p3), .val (.int p4), .val (.int p5), .val (.int p6), .val (.int p7), .val (.int p8), .val .null, .val (.ref r10), .val (.ref r11), .val (.ref r12), .val (.ref b1), .val (.ref b3), .val (.ref b5), .unset] [.null])) _
      refine XS.ifnullYes X6.here hx rfl (pc0 := 270) (pc' := 279) rfl (hb hby at_270) rfl (by decide) (by decide) ?_
      show Steps p.tables e below (T6.setTop (mkF m 279 #[.val (.int p0), .val (.int p1), .val (.int p2), .val (.int p3), .val (.int p4), .val (.int p5), .val (.int p6), .val (.int p7), .val (.int p8), .val .null, .val (.ref r10), .val (.ref r11), .val (.ref r12), .val (.ref b1), .val (.ref b3), .val (.ref b5), .unset] [])) _
      refine XS.iconst X6.here hx rfl (hb hby at_279) ?_
      show Steps p.tables e below (T6.setTop (mkF m 280 #[.val (.int p0), .val (.int p1), .val (.int p2), .val (.int p3), .val (.int p4), .val (.int p5), .val (.int p6), .val (.int p7), .val (.int p8), .val .null, .val (.ref r10), .val (.ref r11), .val (.ref r12), .val (.ref b1), .val (.ref b3), .val (.ref b5), .unset] [(.int (0 : Int32))])) _
      refine XS.istore X6.here hx rfl (hb hby at_280) rfl (l' := #[.val (.int p0), .val (.int p1), .val (.int p2), .val (.int p3), .val (.int p4), .val (.int p5), .val (.int p6), .val (.int p7), .val (.int p8), .val .null, .val (.ref r10), .val (.ref r11), .val (.ref r12), .val (.ref b1), .val (.ref b3), .val (.ref b5), .val (.int (0 : Int32))]) rfl ?_
      show Steps p.tables e below (T6.setTop (mkF m 282 #[.val (.int p0), .val (.int p1), .val (.int p2), .val (.int p3), .val (.int p4), .val (.int p5), .val (.int p6), .val (.int p7), .val (.int p8), .val .null, .val (.ref r10), .val (.ref r11), .val (.ref r12), .val (.ref b1), .val (.ref b3), .val (.ref b5), .val (.int (0 : Int32))] [])) _
      refine XS.aload X6.here hx rfl (hb hby at_282) rfl rfl ?_
      exact kt
    have Y9 : Exa Z T6.heap b5 "com/example/araucaria/araucaria/proto/ProtoField" := (A5.keep K6)
    obtain ⟨cq8, kq8, q8a, q8b, q8c⟩ := isOf hZ rfl Y9
    obtain ⟨_, _, ⟨T8, L8, k8, n8⟩, -, X8, ⟨Lc8, hQ8, l8, y8, z8⟩, st8⟩ := X6.virtualBack hx (y := (⟨"com/example/araucaria/araucaria/proto/ProtoField", "hasPresence", "()Z"⟩ : MethodName)) (z := (⟨"com/example/araucaria/araucaria/proto/ProtoField", "hasPresence", "()Z"⟩ : MethodName)) hown (mvT hZ (hw _ (List.mem_of_getElem? (i := 93) rfl))) (mvT hZ (hw _ (List.mem_of_getElem? (i := 94) rfl))) (notFace_of_selects (args := #[]) (mvT hZ (hw _ (List.mem_of_getElem? (i := 96) rfl)))) (mvT hZ (hw _ (List.mem_of_getElem? (i := 96) rfl))) (mvT hZ (hw _ (List.mem_of_getElem? (i := 95) rfl))) (by decide) (backOf (W := 0) (rm12fN l Z a0 hw [] b5 (p5 &&& 1) T6.heap n0 (by omega) Y6_7 Y6_6 (own_and0 _ h259_7)) hZ (hw _ (List.mem_of_getElem? (i := 97) rfl)) (hw _ (List.mem_of_getElem? (i := 68) rfl)) (by decide) (by decide)) q8a q8c (g := (mkF m 284 #[.val (.int p0), .val (.int p1), .val (.int p2), .val (.int p3), .val (.int p4), .val (.int p5), .val (.int p6), .val (.int p7), .val (.int p8), .val .null, .val (.ref r10), .val (.ref r11), .val (.ref r12), .val (.ref b1), .val (.ref b3), .val (.ref b5), .val (.int (0 : Int32))] [(.ref b5)])) rfl (by rw [hml]; rfl) (Steps.refl _) (argsL := []) (rest := []) (lenOf pd207N_2 rfl) rfl (by show 2 * 0 + _ ≤ _; exact Nat.le_of_eq rfl) (hb hby at_284) (fun vm₁ hvm => ⟨rfl, rfl, (by decide : 17 + 0 ≤ _), (by decide : 180 + 0 ≤ _)⟩)
    dsimp only [Pt.U, Pt.locs, Pt.cells, Pt.slots] at X8 l8 y8 z8 st8 hQ8
    subst l8 y8 z8
    obtain ⟨rfl, N8q, e8⟩ := hQ8
    have N8 := Fr.app N6 N8q
    refine GoW.trans st8 ?_
    show GoW p e below s _ _ _ (T8.setTop (mkF m 287 #[.val (.int p0), .val (.int p1), .val (.int p2), .val (.int p3), .val (.int p4), .val (.int p5), .val (.int p6), .val (.int p7), .val (.int p8), .val .null, .val (.ref r10), .val (.ref r11), .val (.ref r12), .val (.ref b1), .val (.ref b3), .val (.ref b5), .val (.int (0 : Int32))] [(.int (0 : Int32))]))
    refine GoW.pre (st' := T8.setTop (mkF m 297 #[.val (.int p0), .val (.int p1), .val (.int p2), .val (.int p3), .val (.int p4), .val (.int p5), .val (.int p6), .val (.int p7), .val (.int p8), .val .null, .val (.ref r10), .val (.ref r11), .val (.ref r12), .val (.ref b1), .val (.ref b3), .val (.ref b5), .val (.int (0 : Int32))] [(.int (1 : Int32))])) (fun target kt => ?_) ?_
    · show Steps p.tables e below (T8.setTop (mkF m 287 #[.val (.int p0), .val (.int p1), .val (.int p2), .val (.int p3), .val (.int p4), .val (.int p5), .val (.int p6), .val (.int p7), .val (.int p8), .val .null, .val (.ref r10), .val (.ref r11), .val (.ref r12), .val (.ref b1), .val (.ref b3), .val (.ref b5), .val (.int (0 : Int32))] [(.int (0 : Int32))])) _
      refine XS.iload X8.here hx rfl (hb hby at_287) rfl ?_
      show Steps p.tables e below (T8.setTop (mkF m 289 #[.val (.int p0), .val (.int p1), .val (.int p2), .val (.int p3), .val (.int p4), .val (.int p5), .val (.int p6), .val (.int p7), .val (.int p8), .val .null, .val (.ref r10), .val (.ref r11), .val (.ref r12), .val (.ref b1), .val (.ref b3), .val (.ref b5), .val (.int (0 : Int32))] [(.int (0 : Int32)), (.int (0 : Int32))])) _
      refine XS.icmpNo X8.here hx rfl (hb hby at_289) rfl (teq (by decide)).2 ?_
      show Steps p.tables e below (T8.setTop (mkF m 292 #[.val (.int p0), .val (.int p1), .val (.int p2), .val (.int p3), .val (.int p4), .val (.int p5), .val (.int p6), .val (.int p7), .val (.int p8), .val .null, .val (.ref r10), .val (.ref r11), .val (.ref r12), .val (.ref b1), .val (.ref b3), .val (.ref b5), .val (.int (0 : Int32))] [])) _
      refine XS.iconst X8.here hx rfl (hb hby at_292) ?_
      show Steps p.tables e below (T8.setTop (mkF m 293 #[.val (.int p0), .val (.int p1), .val (.int p2), .val (.int p3), .val (.int p4), .val (.int p5), .val (.int p6), .val (.int p7), .val (.int p8), .val .null, .val (.ref r10), .val (.ref r11), .val (.ref r12), .val (.ref b1), .val (.ref b3), .val (.ref b5), .val (.int (0 : Int32))] [(.int (1 : Int32))])) _
      refine XS.goto X8.here hx rfl (pc0 := 293) (pc' := 297) rfl (hb hby at_293) (by decide) (by decide) ?_
      exact kt
    exact GoW.retN X8 hS (leH e8 (by omega)) hx hlk hrt (z' := (1 : Int32)) (by simp) (hb hby at_297) rfl (by decide) (by decide) (by first | exact ⟨rfl, N8⟩ | (rw [e8]; exact ⟨rfl, N8⟩))
  · refine GoW.pre (st' := T6.setTop (mkF m 262 #[.val (.int p0), .val (.int p1), .val (.int p2), .val (.int p3), .val (.int p4), .val (.int p5), .val (.int p6), .val (.int p7), .val (.int p8), .val .null, .val (.ref r10), .val (.ref r11), .val (.ref r12), .val (.ref b1), .val (.ref b3), .val (.ref b5), .unset] [])) (fun target kt => ?_) ?_
    · show Steps p.tables e below (T6.setTop (mkF m 259 #[.val (.int p0), .val (.int p1), .val (.int p2), .val (.int p3), .val (.int p4), .val (.int p5), .val (.int p6), .val (.int p7), .val (.int p8), .val .null, .val (.ref r10), .val (.ref r11), .val (.ref r12), .val (.ref b1), .val (.ref b3), .val (.ref b5), .unset] [(.int p5)])) _
      refine XS.ifNo X6.here hx rfl (hb hby at_259) rfl ((if0 _ _).trans (feq h259_7).1) ?_
      exact kt
    refine GoW.pre (st' := T6.setTop (mkF m 284 #[.val (.int p0), .val (.int p1), .val (.int p2), .val (.int p3), .val (.int p4), .val (.int p5), .val (.int p6), .val (.int p7), .val (.int p8), .val .null, .val (.ref r10), .val (.ref r11), .val (.ref r12), .val (.ref b1), .val (.ref b3), .val (.ref b5), .val (.int (1 : Int32))] [(.ref b5)])) (fun target kt => ?_) ?_
    · show Steps p.tables e below (T6.setTop (mkF m 262 #[.val (.int p0), .val (.int p1), .val (.int p2), .val (.int p3), .val (.int p4), .val (.int p5), .val (.int p6), .val (.int p7), .val (.int p8), .val .null, .val (.ref r10), .val (.ref r11), .val (.ref r12), .val (.ref b1), .val (.ref b3), .val (.ref b5), .unset] [])) _
      refine XS.iconst X6.here hx rfl (hb hby at_262) ?_
      show Steps p.tables e below (T6.setTop (mkF m 263 #[.val (.int p0), .val (.int p1), .val (.int p2), .val (.int p3), .val (.int p4), .val (.int p5), .val (.int p6), .val (.int p7), .val (.int p8), .val .null, .val (.ref r10), .val (.ref r11), .val (.ref r12), .val (.ref b1), .val (.ref b3), .val (.ref b5), .unset] [(.int (1 : Int32))])) _
      refine XS.istore X6.here hx rfl (hb hby at_263) rfl (l' := #[.val (.int p0), .val (.int p1), .val (.int p2), .val (.int p3), .val (.int p4), .val (.int p5), .val (.int p6), .val (.int p7), .val (.int p8), .val .null, .val (.ref r10), .val (.ref r11), .val (.ref r12), .val (.ref b1), .val (.ref b3), .val (.ref b5), .val (.int (1 : Int32))]) rfl ?_
      show Steps p.tables e below (T6.setTop (mkF m 265 #[.val (.int p0), .val (.int p1), .val (.int p2), .val (.int p3), .val (.int p4), .val (.int p5), .val (.int p6), .val (.int p7), .val (.int p8), .val .null, .val (.ref r10), .val (.ref r11), .val (.ref r12), .val (.ref b1), .val (.ref b3), .val (.ref b5), .val (.int (1 : Int32))] [])) _
      refine XS.goto X6.here hx rfl (pc0 := 265) (pc' := 282) rfl (hb hby at_265) (by decide) (by decide) ?_
      show Steps p.tables e below (T6.setTop (mkF m 282 #[.val (.int p0), .val (.int p1), .val (.int p2), .val (.int p3), .val (.int p4), .val (.int p5), .val (.int p6), .val (.int p7), .val (.int p8), .val .null, .val (.ref r10), .val (.ref r11), .val (.ref r12), .val (.ref b1), .val (.ref b3), .val (.ref b5), .val (.int (1 : Int32))] [])) _
      refine XS.aload X6.here hx rfl (hb hby at_282) rfl rfl ?_
      exact kt
    have Y11 : Exa Z T6.heap b5 "com/example/araucaria/araucaria/proto/ProtoField" := (A5.keep K6)
    obtain ⟨cq10, kq10, q10a, q10b, q10c⟩ := isOf hZ rfl Y11
    obtain ⟨_, _, ⟨T10, L10, k10, n10⟩, -, X10, ⟨Lc10, hQ10, l10, y10, z10⟩, st10⟩ := X6.virtualBack hx (y := (⟨"com/example/araucaria/araucaria/proto/ProtoField", "hasPresence", "()Z"⟩ : MethodName)) (z := (⟨"com/example/araucaria/araucaria/proto/ProtoField", "hasPresence", "()Z"⟩ : MethodName)) hown (mvT hZ (hw _ (List.mem_of_getElem? (i := 93) rfl))) (mvT hZ (hw _ (List.mem_of_getElem? (i := 94) rfl))) (notFace_of_selects (args := #[]) (mvT hZ (hw _ (List.mem_of_getElem? (i := 96) rfl)))) (mvT hZ (hw _ (List.mem_of_getElem? (i := 96) rfl))) (mvT hZ (hw _ (List.mem_of_getElem? (i := 95) rfl))) (by decide) (backOf (W := 0) (rm12t l Z a0 hw [] b5 (p5 &&& 1) T6.heap n0 (by omega) Y6_6 (own_and _ h01 h259_7)) hZ (hw _ (List.mem_of_getElem? (i := 97) rfl)) (hw _ (List.mem_of_getElem? (i := 68) rfl)) (by decide) (by decide)) q10a q10c (g := (mkF m 284 #[.val (.int p0), .val (.int p1), .val (.int p2), .val (.int p3), .val (.int p4), .val (.int p5), .val (.int p6), .val (.int p7), .val (.int p8), .val .null, .val (.ref r10), .val (.ref r11), .val (.ref r12), .val (.ref b1), .val (.ref b3), .val (.ref b5), .val (.int (1 : Int32))] [(.ref b5)])) rfl (by rw [hml]; rfl) (Steps.refl _) (argsL := []) (rest := []) (lenOf pd207N_2 rfl) rfl (by show 2 * 0 + _ ≤ _; exact Nat.le_of_eq rfl) (hb hby at_284) (fun vm₁ hvm => ⟨rfl, rfl, (by decide : 17 + 0 ≤ _), (by decide : 180 + 0 ≤ _)⟩)
    dsimp only [Pt.U, Pt.locs, Pt.cells, Pt.slots] at X10 l10 y10 z10 st10 hQ10
    subst l10 y10 z10
    obtain ⟨rfl, N10q, e10⟩ := hQ10
    have N10 := Fr.app N6 N10q
    refine GoW.trans st10 ?_
    show GoW p e below s _ _ _ (T10.setTop (mkF m 287 #[.val (.int p0), .val (.int p1), .val (.int p2), .val (.int p3), .val (.int p4), .val (.int p5), .val (.int p6), .val (.int p7), .val (.int p8), .val .null, .val (.ref r10), .val (.ref r11), .val (.ref r12), .val (.ref b1), .val (.ref b3), .val (.ref b5), .val (.int (1 : Int32))] [(.int (1 : Int32))]))
    refine GoW.pre (st' := T10.setTop (mkF m 297 #[.val (.int p0), .val (.int p1), .val (.int p2), .val (.int p3), .val (.int p4), .val (.int p5), .val (.int p6), .val (.int p7), .val (.int p8), .val .null, .val (.ref r10), .val (.ref r11), .val (.ref r12), .val (.ref b1), .val (.ref b3), .val (.ref b5), .val (.int (1 : Int32))] [(.int (1 : Int32))])) (fun target kt => ?_) ?_
    · show Steps p.tables e below (T10.setTop (mkF m 287 #[.val (.int p0), .val (.int p1), .val (.int p2), .val (.int p3), .val (.int p4), .val (.int p5), .val (.int p6), .val (.int p7), .val (.int p8), .val .null, .val (.ref r10), .val (.ref r11), .val (.ref r12), .val (.ref b1), .val (.ref b3), .val (.ref b5), .val (.int (1 : Int32))] [(.int (1 : Int32))])) _
      refine XS.iload X10.here hx rfl (hb hby at_287) rfl ?_
      show Steps p.tables e below (T10.setTop (mkF m 289 #[.val (.int p0), .val (.int p1), .val (.int p2), .val (.int p3), .val (.int p4), .val (.int p5), .val (.int p6), .val (.int p7), .val (.int p8), .val .null, .val (.ref r10), .val (.ref r11), .val (.ref r12), .val (.ref b1), .val (.ref b3), .val (.ref b5), .val (.int (1 : Int32))] [(.int (1 : Int32)), (.int (1 : Int32))])) _
      refine XS.icmpNo X10.here hx rfl (hb hby at_289) rfl (teq (by decide)).2 ?_
      show Steps p.tables e below (T10.setTop (mkF m 292 #[.val (.int p0), .val (.int p1), .val (.int p2), .val (.int p3), .val (.int p4), .val (.int p5), .val (.int p6), .val (.int p7), .val (.int p8), .val .null, .val (.ref r10), .val (.ref r11), .val (.ref r12), .val (.ref b1), .val (.ref b3), .val (.ref b5), .val (.int (1 : Int32))] [])) _
      refine XS.iconst X10.here hx rfl (hb hby at_292) ?_
      show Steps p.tables e below (T10.setTop (mkF m 293 #[.val (.int p0), .val (.int p1), .val (.int p2), .val (.int p3), .val (.int p4), .val (.int p5), .val (.int p6), .val (.int p7), .val (.int p8), .val .null, .val (.ref r10), .val (.ref r11), .val (.ref r12), .val (.ref b1), .val (.ref b3), .val (.ref b5), .val (.int (1 : Int32))] [(.int (1 : Int32))])) _
      refine XS.goto X10.here hx rfl (pc0 := 293) (pc' := 297) rfl (hb hby at_293) (by decide) (by decide) ?_
      exact kt
    exact GoW.retN X10 hS (leH e10 (by omega)) hx hlk hrt (z' := (1 : Int32)) (by simp) (hb hby at_297) rfl (by decide) (by decide) (by first | exact ⟨rfl, N10⟩ | (rw [e10]; exact ⟨rfl, N10⟩))
theorem pd207R_0 : parseMethodDescriptor "(II)V" = some ⟨[.int, .int], none⟩ := by decide +kernel
theorem pd207R_1 : parseMethodDescriptor "(Ljava/lang/String;ILcom/example/araucaria/araucaria/proto/SourcePosition;Lcom/example/araucaria/araucaria/proto/SourcePosition;Ljava/lang/String;ZZLjava/lang/String;Ljava/util/List;Ljava/lang/String;)V" = some ⟨[(.object "java/lang/String"), .int, (.object "com/example/araucaria/araucaria/proto/SourcePosition"), (.object "com/example/araucaria/araucaria/proto/SourcePosition"), (.object "java/lang/String"), .boolean, .boolean, (.object "java/lang/String"), (.object "java/util/List"), (.object "java/lang/String")], none⟩ := by decide +kernel
theorem pd207R_2 : parseMethodDescriptor "()Z" = some ⟨[], some .boolean⟩ := by decide +kernel
set_option maxRecDepth 65536 in
set_option maxHeartbeats 40000000 in
theorem blk207R {p : Program} {l : Launch} {e : Env} {s : State} {m : MethodId} {args : Array Value} {below : List Frame} {meth : Method} {c : Code} {Z : State} {a0 : Array Value} {T : State} {locs : List Loc} {h0 : Heap} {n0 : Nat} {vm0 : Vm} {k0 : Nat} (C : Ctx p (s.setVm vm0) m meth c Z code 17 "com/example/araucaria/araucaria/proto/ProtoFieldHasPresencePinLaw" (some .boolean)) (hw : ∀ d ∈ tables_1, d.before a0 Z = true) (hS : s.Since vm0 k0) (hk : k0 ≤ h0.size) (hI : IB Z vm0 ["OUTPUT_ONLY", "map<string, Book>", ""]) (hnS : n0 = s.heap.size) (hkp : ∀ (b : Addr) (cl : Cell), Z.heap[b]? = some cl → s.heap[b]? = some cl)
    (X0 : Stand p l e room_1 (s.setVm vm0) m args below meth c T locs 14 166) (e0 : T.heap = h0) (N0 : Fr n0 locs) (p0 : Int32) (p1 : Int32) (p2 : Int32) (p3 : Int32) (p4 : Int32) (p5 : Int32) (p6 : Int32) (p7 : Int32) (p8 : Int32) (r9 : Addr) (r10 : Addr) (r11 : Addr) (r12 : Addr) (zc : Int32) (zd : Addr) (kd : ClassId) (Z0 : n0 ≤ h0.size) (h01 : p5 = (0 : Int32) ∨ p5 = (1 : Int32)) (S_COMPACT : Sta Z Z.heap "java/lang/String" "COMPACT_STRINGS" "Z" (.int zc)) (hcs : ¬ (zc = (0 : Int32))) (S_D : Sta Z Z.heap "java/util/ArrayList" "DEFAULTCAPACITY_EMPTY_ELEMENTDATA" "[Ljava/lang/Object;" (.ref zd)) (A_zd : Arv Z h0 zd kd (.object "java/lang/Object") (0 : Int32) [] .null) (Ol : Old Z n0 h0) (hcw : Jvm.Lit.compactW.before a0 Z = true) (hheld : ∀ q ∈ consts_1, Jvm.Lit.constHeld Z q.1 q.2) :
    GoW p e below s 40 3264 (fun v vm h L => v = some (.int 1) ∧ Fr n0 L) (T.setTop (mkF m 207 #[.val (.int p0), .val (.int p1), .val (.int p2), .val (.int p3), .val (.int p4), .val (.int p5), .val (.int p6), .val (.int p7), .val (.int p8), .val (.ref r9), .val (.ref r10), .val (.ref r11), .val (.ref r12), .unset, .unset, .unset, .unset] [])) := by
  obtain ⟨hx, hZ, hby, hml, hown, hrt, hlk⟩ := id C
  have lt_A_zd : LT.lt (α := Nat) zd h0.size := A_zd.lt
  obtain ⟨T1, h1, X1, e1, E1, A1, D1, -, st1⟩ := newO X0 hx hZ hown (hw _ (List.mem_of_getElem? (i := 50) rfl)) (hw _ (List.mem_of_getElem? (i := 51) rfl)) (hw _ (List.mem_of_getElem? (i := 52) rfl)) e0 (g := (mkF m 207 #[.val (.int p0), .val (.int p1), .val (.int p2), .val (.int p3), .val (.int p4), .val (.int p5), .val (.int p6), .val (.int p7), .val (.int p8), .val (.ref r9), .val (.ref r10), .val (.ref r11), .val (.ref r12), .unset, .unset, .unset, .unset] [])) rfl (hb hby at_207) (by decide) (by decide)
  obtain ⟨b1, g1⟩ : ∃ z, z = h0.size := ⟨_, rfl⟩
  rw [← g1] at A1 D1 st1
  have sz1 : h0.size ≤ h1.size := E1.1
  have lt1 : b1 < h1.size := A1.lt
  have F1_line : Fld Z h1 b1 "com/example/araucaria/araucaria/proto/SourcePosition" "line" "I" (.int (0 : Int32)) := D1 (Or.inr (hw _ (List.mem_of_getElem? (i := 63) rfl))) (ty := .int) (by decide)
  have F1_column : Fld Z h1 b1 "com/example/araucaria/araucaria/proto/SourcePosition" "column" "I" (.int (0 : Int32)) := D1 (Or.inr (hw _ (List.mem_of_getElem? (i := 65) rfl))) (ty := .int) (by decide)
  refine GoW.pre st1 ?_
  show GoW p e below s _ _ _ (T1.setTop (mkF m 210 #[.val (.int p0), .val (.int p1), .val (.int p2), .val (.int p3), .val (.int p4), .val (.int p5), .val (.int p6), .val (.int p7), .val (.int p8), .val (.ref r9), .val (.ref r10), .val (.ref r11), .val (.ref r12), .unset, .unset, .unset, .unset] [(.ref b1)]))
  refine GoW.pre (st' := T1.setTop (mkF m 213 #[.val (.int p0), .val (.int p1), .val (.int p2), .val (.int p3), .val (.int p4), .val (.int p5), .val (.int p6), .val (.int p7), .val (.int p8), .val (.ref r9), .val (.ref r10), .val (.ref r11), .val (.ref r12), .unset, .unset, .unset, .unset] [(.int p3), (.int p0), (.ref b1), (.ref b1)])) (fun target kt => ?_) ?_
  · show Steps p.tables e below (T1.setTop (mkF m 210 #[.val (.int p0), .val (.int p1), .val (.int p2), .val (.int p3), .val (.int p4), .val (.int p5), .val (.int p6), .val (.int p7), .val (.int p8), .val (.ref r9), .val (.ref r10), .val (.ref r11), .val (.ref r12), .unset, .unset, .unset, .unset] [(.ref b1)])) _
    refine XS.dup X1.here hx rfl (hb hby at_210) rfl rfl ?_
    show Steps p.tables e below (T1.setTop (mkF m 211 #[.val (.int p0), .val (.int p1), .val (.int p2), .val (.int p3), .val (.int p4), .val (.int p5), .val (.int p6), .val (.int p7), .val (.int p8), .val (.ref r9), .val (.ref r10), .val (.ref r11), .val (.ref r12), .unset, .unset, .unset, .unset] [(.ref b1), (.ref b1)])) _
    refine XS.iloadN X1.here hx rfl (hb hby at_211) rfl ?_
    show Steps p.tables e below (T1.setTop (mkF m 212 #[.val (.int p0), .val (.int p1), .val (.int p2), .val (.int p3), .val (.int p4), .val (.int p5), .val (.int p6), .val (.int p7), .val (.int p8), .val (.ref r9), .val (.ref r10), .val (.ref r11), .val (.ref r12), .unset, .unset, .unset, .unset] [(.int p0), (.ref b1), (.ref b1)])) _
    refine XS.iloadN X1.here hx rfl (hb hby at_212) rfl ?_
    exact kt
  obtain ⟨_, _, ⟨T2, L2, k2, n2⟩, -, X2, ⟨Lc2, hQ2, l2, y2, z2⟩, st2⟩ := X1.specialBack hx (y := (⟨"com/example/araucaria/araucaria/proto/SourcePosition", "<init>", "(II)V"⟩ : MethodName)) rfl hown (mvT hZ (hw _ (List.mem_of_getElem? (i := 53) rfl))) (mvT hZ (hw _ (List.mem_of_getElem? (i := 54) rfl))) (mvT hZ (hw _ (List.mem_of_getElem? (i := 55) rfl))) (by decide) (backOf (W := 1) (rm9 l Z a0 hw [] b1 p0 p3 (.int (0 : Int32)) (.int (0 : Int32)) h1 n0 (by omega) F1_line A1 (by omega) F1_column) hZ (hw _ (List.mem_of_getElem? (i := 55) rfl)) (hw _ (List.mem_of_getElem? (i := 52) rfl)) (by decide) (by decide)) (g := (mkF m 213 #[.val (.int p0), .val (.int p1), .val (.int p2), .val (.int p3), .val (.int p4), .val (.int p5), .val (.int p6), .val (.int p7), .val (.int p8), .val (.ref r9), .val (.ref r10), .val (.ref r11), .val (.ref r12), .unset, .unset, .unset, .unset] [(.int p3), (.int p0), (.ref b1), (.ref b1)])) rfl (by rw [hml]; rfl) (Steps.refl _) (a := b1) (argsL := [(.int p0), (.int p3)]) (rest := [(.ref b1)]) (lenOf pd207R_0 rfl) rfl (by show 2 * 0 + _ ≤ _; exact Nat.le_of_eq rfl) (hb hby at_213) (fun vm₁ hvm => ⟨rfl, e1, (by decide : 15 + 0 ≤ _), (by decide : 168 + 0 ≤ _)⟩)
  dsimp only [Pt.U, Pt.locs, Pt.cells, Pt.slots] at X2 l2 y2 z2 st2 hQ2
  subst l2 y2 z2
  obtain ⟨rfl, N2q, K2, KF2, Y2_0, Y2_1⟩ := hQ2
  have sz2 : h1.size ≤ T2.heap.size := K2.1
  have N2 := Fr.app N0 N2q
  refine GoW.trans st2 ?_
  show GoW p e below s _ _ _ (T2.setTop (mkF m 216 #[.val (.int p0), .val (.int p1), .val (.int p2), .val (.int p3), .val (.int p4), .val (.int p5), .val (.int p6), .val (.int p7), .val (.int p8), .val (.ref r9), .val (.ref r10), .val (.ref r11), .val (.ref r12), .unset, .unset, .unset, .unset] [(.ref b1)]))
  refine GoW.pre (st' := T2.setTop (mkF m 218 #[.val (.int p0), .val (.int p1), .val (.int p2), .val (.int p3), .val (.int p4), .val (.int p5), .val (.int p6), .val (.int p7), .val (.int p8), .val (.ref r9), .val (.ref r10), .val (.ref r11), .val (.ref r12), .val (.ref b1), .unset, .unset, .unset] [])) (fun target kt => ?_) ?_
  · show Steps p.tables e below (T2.setTop (mkF m 216 #[.val (.int p0), .val (.int p1), .val (.int p2), .val (.int p3), .val (.int p4), .val (.int p5), .val (.int p6), .val (.int p7), .val (.int p8), .val (.ref r9), .val (.ref r10), .val (.ref r11), .val (.ref r12), .unset, .unset, .unset, .unset] [(.ref b1)])) _
    refine XS.astore X2.here hx rfl (hb hby at_216) rfl rfl (l' := #[.val (.int p0), .val (.int p1), .val (.int p2), .val (.int p3), .val (.int p4), .val (.int p5), .val (.int p6), .val (.int p7), .val (.int p8), .val (.ref r9), .val (.ref r10), .val (.ref r11), .val (.ref r12), .val (.ref b1), .unset, .unset, .unset]) rfl ?_
    exact kt
  obtain ⟨T3, h3, X3, e3, E3, A3, D3, -, st3⟩ := newO X2 hx hZ hown (hw _ (List.mem_of_getElem? (i := 50) rfl)) (hw _ (List.mem_of_getElem? (i := 51) rfl)) (hw _ (List.mem_of_getElem? (i := 52) rfl)) rfl (g := (mkF m 218 #[.val (.int p0), .val (.int p1), .val (.int p2), .val (.int p3), .val (.int p4), .val (.int p5), .val (.int p6), .val (.int p7), .val (.int p8), .val (.ref r9), .val (.ref r10), .val (.ref r11), .val (.ref r12), .val (.ref b1), .unset, .unset, .unset] [])) rfl (hb hby at_218) (by decide) (by decide)
  obtain ⟨b3, g3⟩ : ∃ z, z = T2.heap.size := ⟨_, rfl⟩
  rw [← g3] at A3 D3 st3
  have sz3 : T2.heap.size ≤ h3.size := E3.1
  have lt3 : b3 < h3.size := A3.lt
  have F3_line : Fld Z h3 b3 "com/example/araucaria/araucaria/proto/SourcePosition" "line" "I" (.int (0 : Int32)) := D3 (Or.inr (hw _ (List.mem_of_getElem? (i := 63) rfl))) (ty := .int) (by decide)
  have F3_column : Fld Z h3 b3 "com/example/araucaria/araucaria/proto/SourcePosition" "column" "I" (.int (0 : Int32)) := D3 (Or.inr (hw _ (List.mem_of_getElem? (i := 65) rfl))) (ty := .int) (by decide)
  refine GoW.pre st3 ?_
  show GoW p e below s _ _ _ (T3.setTop (mkF m 221 #[.val (.int p0), .val (.int p1), .val (.int p2), .val (.int p3), .val (.int p4), .val (.int p5), .val (.int p6), .val (.int p7), .val (.int p8), .val (.ref r9), .val (.ref r10), .val (.ref r11), .val (.ref r12), .val (.ref b1), .unset, .unset, .unset] [(.ref b3)]))
  refine GoW.pre (st' := T3.setTop (mkF m 224 #[.val (.int p0), .val (.int p1), .val (.int p2), .val (.int p3), .val (.int p4), .val (.int p5), .val (.int p6), .val (.int p7), .val (.int p8), .val (.ref r9), .val (.ref r10), .val (.ref r11), .val (.ref r12), .val (.ref b1), .unset, .unset, .unset] [(.int p0), (.int p2), (.ref b3), (.ref b3)])) (fun target kt => ?_) ?_
  · show Steps p.tables e below (T3.setTop (mkF m 221 #[.val (.int p0), .val (.int p1), .val (.int p2), .val (.int p3), .val (.int p4), .val (.int p5), .val (.int p6), .val (.int p7), .val (.int p8), .val (.ref r9), .val (.ref r10), .val (.ref r11), .val (.ref r12), .val (.ref b1), .unset, .unset, .unset] [(.ref b3)])) _
    refine XS.dup X3.here hx rfl (hb hby at_221) rfl rfl ?_
    show Steps p.tables e below (T3.setTop (mkF m 222 #[.val (.int p0), .val (.int p1), .val (.int p2), .val (.int p3), .val (.int p4), .val (.int p5), .val (.int p6), .val (.int p7), .val (.int p8), .val (.ref r9), .val (.ref r10), .val (.ref r11), .val (.ref r12), .val (.ref b1), .unset, .unset, .unset] [(.ref b3), (.ref b3)])) _
    refine XS.iloadN X3.here hx rfl (hb hby at_222) rfl ?_
    show Steps p.tables e below (T3.setTop (mkF m 223 #[.val (.int p0), .val (.int p1), .val (.int p2), .val (.int p3), .val (.int p4), .val (.int p5), .val (.int p6), .val (.int p7), .val (.int p8), .val (.ref r9), .val (.ref r10), .val (.ref r11), .val (.ref r12), .val (.ref b1), .unset, .unset, .unset] [(.int p2), (.ref b3), (.ref b3)])) _
    refine XS.iloadN X3.here hx rfl (hb hby at_223) rfl ?_
    exact kt
  obtain ⟨_, _, ⟨T4, L4, k4, n4⟩, -, X4, ⟨Lc4, hQ4, l4, y4, z4⟩, st4⟩ := X3.specialBack hx (y := (⟨"com/example/araucaria/araucaria/proto/SourcePosition", "<init>", "(II)V"⟩ : MethodName)) rfl hown (mvT hZ (hw _ (List.mem_of_getElem? (i := 53) rfl))) (mvT hZ (hw _ (List.mem_of_getElem? (i := 54) rfl))) (mvT hZ (hw _ (List.mem_of_getElem? (i := 55) rfl))) (by decide) (backOf (W := 1) (rm9 l Z a0 hw [] b3 p2 p0 (.int (0 : Int32)) (.int (0 : Int32)) h3 n0 (by omega) F3_line A3 (by omega) F3_column) hZ (hw _ (List.mem_of_getElem? (i := 55) rfl)) (hw _ (List.mem_of_getElem? (i := 52) rfl)) (by decide) (by decide)) (g := (mkF m 224 #[.val (.int p0), .val (.int p1), .val (.int p2), .val (.int p3), .val (.int p4), .val (.int p5), .val (.int p6), .val (.int p7), .val (.int p8), .val (.ref r9), .val (.ref r10), .val (.ref r11), .val (.ref r12), .val (.ref b1), .unset, .unset, .unset] [(.int p0), (.int p2), (.ref b3), (.ref b3)])) rfl (by rw [hml]; rfl) (Steps.refl _) (a := b3) (argsL := [(.int p2), (.int p0)]) (rest := [(.ref b3)]) (lenOf pd207R_0 rfl) rfl (by show 2 * 0 + _ ≤ _; exact Nat.le_of_eq rfl) (hb hby at_224) (fun vm₁ hvm => ⟨rfl, e3, (by decide : 16 + 0 ≤ _), (by decide : 170 + 0 ≤ _)⟩)
  dsimp only [Pt.U, Pt.locs, Pt.cells, Pt.slots] at X4 l4 y4 z4 st4 hQ4
  subst l4 y4 z4
  obtain ⟨rfl, N4q, K4, KF4, Y4_0, Y4_1⟩ := hQ4
  have sz4 : h3.size ≤ T4.heap.size := K4.1
  have N4 := Fr.app N2 N4q
  refine GoW.trans st4 ?_
  show GoW p e below s _ _ _ (T4.setTop (mkF m 227 #[.val (.int p0), .val (.int p1), .val (.int p2), .val (.int p3), .val (.int p4), .val (.int p5), .val (.int p6), .val (.int p7), .val (.int p8), .val (.ref r9), .val (.ref r10), .val (.ref r11), .val (.ref r12), .val (.ref b1), .unset, .unset, .unset] [(.ref b3)]))
  refine GoW.pre (st' := T4.setTop (mkF m 229 #[.val (.int p0), .val (.int p1), .val (.int p2), .val (.int p3), .val (.int p4), .val (.int p5), .val (.int p6), .val (.int p7), .val (.int p8), .val (.ref r9), .val (.ref r10), .val (.ref r11), .val (.ref r12), .val (.ref b1), .val (.ref b3), .unset, .unset] [])) (fun target kt => ?_) ?_
  · show Steps p.tables e below (T4.setTop (mkF m 227 #[.val (.int p0), .val (.int p1), .val (.int p2), .val (.int p3), .val (.int p4), .val (.int p5), .val (.int p6), .val (.int p7), .val (.int p8), .val (.ref r9), .val (.ref r10), .val (.ref r11), .val (.ref r12), .val (.ref b1), .unset, .unset, .unset] [(.ref b3)])) _
    refine XS.astore X4.here hx rfl (hb hby at_227) rfl rfl (l' := #[.val (.int p0), .val (.int p1), .val (.int p2), .val (.int p3), .val (.int p4), .val (.int p5), .val (.int p6), .val (.int p7), .val (.int p8), .val (.ref r9), .val (.ref r10), .val (.ref r11), .val (.ref r12), .val (.ref b1), .val (.ref b3), .unset, .unset]) rfl ?_
    exact kt
  obtain ⟨T5, h5, X5, e5, E5, A5, D5, -, st5⟩ := newO X4 hx hZ hown (hw _ (List.mem_of_getElem? (i := 66) rfl)) (hw _ (List.mem_of_getElem? (i := 67) rfl)) (hw _ (List.mem_of_getElem? (i := 68) rfl)) rfl (g := (mkF m 229 #[.val (.int p0), .val (.int p1), .val (.int p2), .val (.int p3), .val (.int p4), .val (.int p5), .val (.int p6), .val (.int p7), .val (.int p8), .val (.ref r9), .val (.ref r10), .val (.ref r11), .val (.ref r12), .val (.ref b1), .val (.ref b3), .unset, .unset] [])) rfl (hb hby at_229) (by decide) (by decide)
  obtain ⟨b5, g5⟩ : ∃ z, z = T4.heap.size := ⟨_, rfl⟩
  rw [← g5] at A5 D5 st5
  have sz5 : T4.heap.size ≤ h5.size := E5.1
  have lt5 : b5 < h5.size := A5.lt
  have F5_name : Fld Z h5 b5 "com/example/araucaria/araucaria/proto/ProtoField" "name" "Ljava/lang/String;" .null := D5 (Or.inr (hw _ (List.mem_of_getElem? (i := 74) rfl))) (ty := (.object "java/lang/String")) (by decide)
  have F5_number : Fld Z h5 b5 "com/example/araucaria/araucaria/proto/ProtoField" "number" "I" (.int (0 : Int32)) := D5 (Or.inr (hw _ (List.mem_of_getElem? (i := 76) rfl))) (ty := .int) (by decide)
  have F5_position : Fld Z h5 b5 "com/example/araucaria/araucaria/proto/ProtoField" "position" "Lcom/example/araucaria/araucaria/proto/SourcePosition;" .null := D5 (Or.inr (hw _ (List.mem_of_getElem? (i := 78) rfl))) (ty := (.object "com/example/araucaria/araucaria/proto/SourcePosition")) (by decide)
  have F5_numberPosition : Fld Z h5 b5 "com/example/araucaria/araucaria/proto/ProtoField" "numberPosition" "Lcom/example/araucaria/araucaria/proto/SourcePosition;" .null := D5 (Or.inr (hw _ (List.mem_of_getElem? (i := 80) rfl))) (ty := (.object "com/example/araucaria/araucaria/proto/SourcePosition")) (by decide)
  have F5_type : Fld Z h5 b5 "com/example/araucaria/araucaria/proto/ProtoField" "type" "Ljava/lang/String;" .null := D5 (Or.inr (hw _ (List.mem_of_getElem? (i := 82) rfl))) (ty := (.object "java/lang/String")) (by decide)
  have F5_repeated : Fld Z h5 b5 "com/example/araucaria/araucaria/proto/ProtoField" "repeated" "Z" (.int (0 : Int32)) := D5 (Or.inr (hw _ (List.mem_of_getElem? (i := 84) rfl))) (ty := .boolean) (by decide)
  have F5_optional : Fld Z h5 b5 "com/example/araucaria/araucaria/proto/ProtoField" "optional" "Z" (.int (0 : Int32)) := D5 (Or.inr (hw _ (List.mem_of_getElem? (i := 86) rfl))) (ty := .boolean) (by decide)
  have F5_oneof : Fld Z h5 b5 "com/example/araucaria/araucaria/proto/ProtoField" "oneof" "Ljava/lang/String;" .null := D5 (Or.inr (hw _ (List.mem_of_getElem? (i := 88) rfl))) (ty := (.object "java/lang/String")) (by decide)
  have F5_behaviors : Fld Z h5 b5 "com/example/araucaria/araucaria/proto/ProtoField" "behaviors" "Ljava/util/List;" .null := D5 (Or.inr (hw _ (List.mem_of_getElem? (i := 90) rfl))) (ty := (.object "java/util/List")) (by decide)
  have F5_jsonName : Fld Z h5 b5 "com/example/araucaria/araucaria/proto/ProtoField" "jsonName" "Ljava/lang/String;" .null := D5 (Or.inr (hw _ (List.mem_of_getElem? (i := 92) rfl))) (ty := (.object "java/lang/String")) (by decide)
  refine GoW.pre st5 ?_
  show GoW p e below s _ _ _ (T5.setTop (mkF m 232 #[.val (.int p0), .val (.int p1), .val (.int p2), .val (.int p3), .val (.int p4), .val (.int p5), .val (.int p6), .val (.int p7), .val (.int p8), .val (.ref r9), .val (.ref r10), .val (.ref r11), .val (.ref r12), .val (.ref b1), .val (.ref b3), .unset, .unset] [(.ref b5)]))
  refine GoW.pre (st' := T5.setTop (mkF m 252 #[.val (.int p0), .val (.int p1), .val (.int p2), .val (.int p3), .val (.int p4), .val (.int p5), .val (.int p6), .val (.int p7), .val (.int p8), .val (.ref r9), .val (.ref r10), .val (.ref r11), .val (.ref r12), .val (.ref b1), .val (.ref b3), .unset, .unset] [(.ref r11), (.ref r12), (.ref r9), (.int p5), (.int p4), (.ref r10), (.ref b3), (.ref b1), (.int p0), (.ref r11), (.ref b5), (.ref b5)])) (fun target kt => ?_) ?_
  · show Steps p.tables e below (T5.setTop (mkF m 232 #[.val (.int p0), .val (.int p1), .val (.int p2), .val (.int p3), .val (.int p4), .val (.int p5), .val (.int p6), .val (.int p7), .val (.int p8), .val (.ref r9), .val (.ref r10), .val (.ref r11), .val (.ref r12), .val (.ref b1), .val (.ref b3), .unset, .unset] [(.ref b5)])) _
    refine XS.dup X5.here hx rfl (hb hby at_232) rfl rfl ?_
    show Steps p.tables e below (T5.setTop (mkF m 233 #[.val (.int p0), .val (.int p1), .val (.int p2), .val (.int p3), .val (.int p4), .val (.int p5), .val (.int p6), .val (.int p7), .val (.int p8), .val (.ref r9), .val (.ref r10), .val (.ref r11), .val (.ref r12), .val (.ref b1), .val (.ref b3), .unset, .unset] [(.ref b5), (.ref b5)])) _
    refine XS.aload X5.here hx rfl (hb hby at_233) rfl rfl ?_
    show Steps p.tables e below (T5.setTop (mkF m 235 #[.val (.int p0), .val (.int p1), .val (.int p2), .val (.int p3), .val (.int p4), .val (.int p5), .val (.int p6), .val (.int p7), .val (.int p8), .val (.ref r9), .val (.ref r10), .val (.ref r11), .val (.ref r12), .val (.ref b1), .val (.ref b3), .unset, .unset] [(.ref r11), (.ref b5), (.ref b5)])) _
    refine XS.iloadN X5.here hx rfl (hb hby at_235) rfl ?_
    show Steps p.tables e below (T5.setTop (mkF m 236 #[.val (.int p0), .val (.int p1), .val (.int p2), .val (.int p3), .val (.int p4), .val (.int p5), .val (.int p6), .val (.int p7), .val (.int p8), .val (.ref r9), .val (.ref r10), .val (.ref r11), .val (.ref r12), .val (.ref b1), .val (.ref b3), .unset, .unset] [(.int p0), (.ref r11), (.ref b5), (.ref b5)])) _
    refine XS.aload X5.here hx rfl (hb hby at_236) rfl rfl ?_
    show Steps p.tables e below (T5.setTop (mkF m 238 #[.val (.int p0), .val (.int p1), .val (.int p2), .val (.int p3), .val (.int p4), .val (.int p5), .val (.int p6), .val (.int p7), .val (.int p8), .val (.ref r9), .val (.ref r10), .val (.ref r11), .val (.ref r12), .val (.ref b1), .val (.ref b3), .unset, .unset] [(.ref b1), (.int p0), (.ref r11), (.ref b5), (.ref b5)])) _
    refine XS.aload X5.here hx rfl (hb hby at_238) rfl rfl ?_
    show Steps p.tables e below (T5.setTop (mkF m 240 #[.val (.int p0), .val (.int p1), .val (.int p2), .val (.int p3), .val (.int p4), .val (.int p5), .val (.int p6), .val (.int p7), .val (.int p8), .val (.ref r9), .val (.ref r10), .val (.ref r11), .val (.ref r12), .val (.ref b1), .val (.ref b3), .unset, .unset] [(.ref b3), (.ref b1), (.int p0), (.ref r11), (.ref b5), (.ref b5)])) _
    refine XS.aload X5.here hx rfl (hb hby at_240) rfl rfl ?_
    show Steps p.tables e below (T5.setTop (mkF m 242 #[.val (.int p0), .val (.int p1), .val (.int p2), .val (.int p3), .val (.int p4), .val (.int p5), .val (.int p6), .val (.int p7), .val (.int p8), .val (.ref r9), .val (.ref r10), .val (.ref r11), .val (.ref r12), .val (.ref b1), .val (.ref b3), .unset, .unset] [(.ref r10), (.ref b3), (.ref b1), (.int p0), (.ref r11), (.ref b5), (.ref b5)])) _
    refine XS.iload X5.here hx rfl (hb hby at_242) rfl ?_
    show Steps p.tables e below (T5.setTop (mkF m 244 #[.val (.int p0), .val (.int p1), .val (.int p2), .val (.int p3), .val (.int p4), .val (.int p5), .val (.int p6), .val (.int p7), .val (.int p8), .val (.ref r9), .val (.ref r10), .val (.ref r11), .val (.ref r12), .val (.ref b1), .val (.ref b3), .unset, .unset] [(.int p4), (.ref r10), (.ref b3), (.ref b1), (.int p0), (.ref r11), (.ref b5), (.ref b5)])) _
    refine XS.iload X5.here hx rfl (hb hby at_244) rfl ?_
    show Steps p.tables e below (T5.setTop (mkF m 246 #[.val (.int p0), .val (.int p1), .val (.int p2), .val (.int p3), .val (.int p4), .val (.int p5), .val (.int p6), .val (.int p7), .val (.int p8), .val (.ref r9), .val (.ref r10), .val (.ref r11), .val (.ref r12), .val (.ref b1), .val (.ref b3), .unset, .unset] [(.int p5), (.int p4), (.ref r10), (.ref b3), (.ref b1), (.int p0), (.ref r11), (.ref b5), (.ref b5)])) _
    refine XS.aload X5.here hx rfl (hb hby at_246) rfl rfl ?_
    show Steps p.tables e below (T5.setTop (mkF m 248 #[.val (.int p0), .val (.int p1), .val (.int p2), .val (.int p3), .val (.int p4), .val (.int p5), .val (.int p6), .val (.int p7), .val (.int p8), .val (.ref r9), .val (.ref r10), .val (.ref r11), .val (.ref r12), .val (.ref b1), .val (.ref b3), .unset, .unset] [(.ref r9), (.int p5), (.int p4), (.ref r10), (.ref b3), (.ref b1), (.int p0), (.ref r11), (.ref b5), (.ref b5)])) _
    refine XS.aload X5.here hx rfl (hb hby at_248) rfl rfl ?_
    show Steps p.tables e below (T5.setTop (mkF m 250 #[.val (.int p0), .val (.int p1), .val (.int p2), .val (.int p3), .val (.int p4), .val (.int p5), .val (.int p6), .val (.int p7), .val (.int p8), .val (.ref r9), .val (.ref r10), .val (.ref r11), .val (.ref r12), .val (.ref b1), .val (.ref b3), .unset, .unset] [(.ref r12), (.ref r9), (.int p5), (.int p4), (.ref r10), (.ref b3), (.ref b1), (.int p0), (.ref r11), (.ref b5), (.ref b5)])) _
    refine XS.aload X5.here hx rfl (hb hby at_250) rfl rfl ?_
    exact kt
  obtain ⟨_, _, ⟨T6, L6, k6, n6⟩, -, X6, ⟨Lc6, hQ6, l6, y6, z6⟩, st6⟩ := X5.specialBack hx (y := (⟨"com/example/araucaria/araucaria/proto/ProtoField", "<init>", "(Ljava/lang/String;ILcom/example/araucaria/araucaria/proto/SourcePosition;Lcom/example/araucaria/araucaria/proto/SourcePosition;Ljava/lang/String;ZZLjava/lang/String;Ljava/util/List;Ljava/lang/String;)V"⟩ : MethodName)) rfl hown (mvT hZ (hw _ (List.mem_of_getElem? (i := 69) rfl))) (mvT hZ (hw _ (List.mem_of_getElem? (i := 70) rfl))) (mvT hZ (hw _ (List.mem_of_getElem? (i := 71) rfl))) (by decide) (backOf (W := 1) (rm11R l Z a0 hw [] b5 r11 p0 b1 b3 r10 p4 p5 r9 r12 r11 .null (.int (0 : Int32)) .null .null .null (.int (0 : Int32)) (.int (0 : Int32)) .null .null .null h5 n0 (by omega) F5_name A5 (by omega) F5_number F5_position F5_numberPosition F5_type F5_repeated F5_optional F5_oneof F5_behaviors F5_jsonName) hZ (hw _ (List.mem_of_getElem? (i := 71) rfl)) (hw _ (List.mem_of_getElem? (i := 68) rfl)) (by decide) (by decide)) (g := (mkF m 252 #[.val (.int p0), .val (.int p1), .val (.int p2), .val (.int p3), .val (.int p4), .val (.int p5), .val (.int p6), .val (.int p7), .val (.int p8), .val (.ref r9), .val (.ref r10), .val (.ref r11), .val (.ref r12), .val (.ref b1), .val (.ref b3), .unset, .unset] [(.ref r11), (.ref r12), (.ref r9), (.int p5), (.int p4), (.ref r10), (.ref b3), (.ref b1), (.int p0), (.ref r11), (.ref b5), (.ref b5)])) rfl (by rw [hml]; rfl) (Steps.refl _) (a := b5) (argsL := [(.ref r11), (.int p0), (.ref b1), (.ref b3), (.ref r10), (.int p4), (.int p5), (.ref r9), (.ref r12), (.ref r11)]) (rest := [(.ref b5)]) (lenOf pd207R_1 rfl) rfl (by show 2 * 0 + _ ≤ _; exact Nat.le_of_eq rfl) (hb hby at_252) (fun vm₁ hvm => ⟨rfl, e5, (by decide : 17 + 0 ≤ _), (by decide : 180 + 0 ≤ _)⟩)
  dsimp only [Pt.U, Pt.locs, Pt.cells, Pt.slots] at X6 l6 y6 z6 st6 hQ6
  subst l6 y6 z6
  obtain ⟨rfl, N6q, K6, KF6, Y6_0, Y6_1, Y6_2, Y6_3, Y6_4, Y6_5, Y6_6, Y6_7, Y6_8, Y6_9⟩ := hQ6
  have sz6 : h5.size ≤ T6.heap.size := K6.1
  have N6 := Fr.app N4 N6q
  refine GoW.trans st6 ?_
  show GoW p e below s _ _ _ (T6.setTop (mkF m 255 #[.val (.int p0), .val (.int p1), .val (.int p2), .val (.int p3), .val (.int p4), .val (.int p5), .val (.int p6), .val (.int p7), .val (.int p8), .val (.ref r9), .val (.ref r10), .val (.ref r11), .val (.ref r12), .val (.ref b1), .val (.ref b3), .unset, .unset] [(.ref b5)]))
  refine GoW.pre (st' := T6.setTop (mkF m 259 #[.val (.int p0), .val (.int p1), .val (.int p2), .val (.int p3), .val (.int p4), .val (.int p5), .val (.int p6), .val (.int p7), .val (.int p8), .val (.ref r9), .val (.ref r10), .val (.ref r11), .val (.ref r12), .val (.ref b1), .val (.ref b3), .val (.ref b5), .unset] [(.int p5)])) (fun target kt => ?_) ?_
  · show Steps p.tables e below (T6.setTop (mkF m 255 #[.val (.int p0), .val (.int p1), .val (.int p2), .val (.int p3), .val (.int p4), .val (.int p5), .val (.int p6), .val (.int p7), .val (.int p8), .val (.ref r9), .val (.ref r10), .val (.ref r11), .val (.ref r12), .val (.ref b1), .val (.ref b3), .unset, .unset] [(.ref b5)])) _
    refine XS.astore X6.here hx rfl (hb hby at_255) rfl rfl (l' := #[.val (.int p0), .val (.int p1), .val (.int p2), .val (.int p3), .val (.int p4), .val (.int p5), .val (.int p6), .val (.int p7), .val (.int p8), .val (.ref r9), .val (.ref r10), .val (.ref r11), .val (.ref r12), .val (.ref b1), .val (.ref b3), .val (.ref b5), .unset]) rfl ?_
    show Steps p.tables e below (T6.setTop (mkF m 257 #[.val (.int p0), .val (.int p1), .val (.int p2), .val (.int p3), .val (.int p4), .val (.int p5), .val (.int p6), .val (.int p7), .val (.int p8), .val (.ref r9), .val (.ref r10), .val (.ref r11), .val (.ref r12), .val (.ref b1), .val (.ref b3), .val (.ref b5), .unset] [])) _
    refine XS.iload X6.here hx rfl (hb hby at_257) rfl ?_
    exact kt
  by_cases h259_7 : p5 = (0 : Int32)
  · refine GoW.pre (st' := T6.setTop (mkF m 268 #[.val (.int p0), .val (.int p1), .val (.int p2), .val (.int p3), .val (.int p4), .val (.int p5), .val (.int p6), .val (.int p7), .val (.int p8), .val (.ref r9), .val (.ref r10), .val (.ref r11), .val (.ref r12), .val (.ref b1), .val (.ref b3), .val (.ref b5), .unset] [])) (fun target kt => ?_) ?_
    · show Steps p.tables e below (T6.setTop (mkF m 259 #[.val (.int p0), .val (.int p1), .val (.int p2), .val (.int p3), .val (.int p4), .val (.int p5), .val (.int p6), .val (.int p7), .val (.int p8), .val (.ref r9), .val (.ref r10), .val (.ref r11), .val (.ref r12), .val (.ref b1), .val (.ref b3), .val (.ref b5), .unset] [(.int p5)])) _
      refine XS.ifYes X6.here hx rfl (pc0 := 259) (pc' := 268) rfl (hb hby at_259) rfl ((if0 _ _).trans (teq h259_7).1) (by decide) (by decide) ?_
      exact kt
    refine GoW.pre (st' := T6.setTop (mkF m 284 #[.val (.int p0), .val (.int p1), .val (.int p2), .val (.int p3), .val (.int p4), .val (.int p5), .val (.int p6), .val (.int p7), .val (.int p8), .val (.ref r9), .val (.ref r10), .val (.ref r11), .val (.ref r12), .val (.ref b1), .val (.ref b3), .val (.ref b5), .val (.int (1 : Int32))] [(.ref b5)])) (fun target kt => ?_) ?_
    · show Steps p.tables e below (T6.setTop (mkF m 268 #[.val (.int p0), .val (.int p1), .val (.int p2), .val (.int p3), .val (.int p4), .val (.int p5), .val (.int p6), .val (.int p7), .val (.int p8), .val (.ref r9), .val (.ref r10), .val (.ref r11), .val (.ref r12), .val (.ref b1), .val (.ref b3), .val (.ref b5), .unset] [])) _
      refine XS.aload X6.here hx rfl (hb hby at_268) rfl rfl ?_
      show Steps p.tables e below (T6.setTop (mkF m 270 #[.val (.int p0), .val (.int p1), .val (.int p2), .val (.int p3), .val (.int p4), .val (.int p5), .val (.int p6), .val (.int p7), .val (.int p8), .val (.ref r9), .val (.ref r10), .val (.ref r11), .val (.ref r12), .val (.ref b1), .val (.ref b3), .val (.ref b5), .unset] [(.ref r9)])) _
      refine XS.ifnullNo X6.here hx rfl (hb hby at_270) rfl ?_
      show Steps p.tables e below (T6.setTop (mkF m 273 #[.val (.int p0), .val (.int p1), .val (.int p2), .val (.int p3), .val (.int p4), .val (.int p5), .val (.int p6), .val (.int p7), .val (.int p8), .val (.ref r9), .val (.ref r10), .val (.ref r11), .val (.ref r12), .val (.ref b1), .val (.ref b3), .val (.ref b5), .unset] [])) _
      refine XS.iconst X6.here hx rfl (hb hby at_273) ?_
      show Steps p.tables e below (T6.setTop (mkF m 274 #[.val (.int p0), .val (.int p1), .val (.int p2), .val (.int p3), .val (.int p4), .val (.int p5), .val (.int p6), .val (.int p7), .val (.int p8), .val (.ref r9), .val (.ref r10), .val (.ref r11), .val (.ref r12), .val (.ref b1), .val (.ref b3), .val (.ref b5), .unset] [(.int (1 : Int32))])) _
      refine XS.istore X6.here hx rfl (hb hby at_274) rfl (l' := #[.val (.int p0), .val (.int p1), .val (.int p2), .val (.int p3), .val (.int p4), .val (.int p5), .val (.int p6), .val (.int p7), .val (.int p8), .val (.ref r9), .val (.ref r10), .val (.ref r11), .val (.ref r12), .val (.ref b1), .val (.ref b3), .val (.ref b5), .val (.int (1 : Int32))]) rfl ?_
      show Steps p.tables e below (T6.setTop (mkF m 276 #[.val (.int p0), .val (.int p1), .val (.int p2), .val (.int p3), .val (.int p4), .val (.int p5), .val (.int p6), .val (.int p7), .val (.int p8), .val (.ref r9), .val (.ref r10), .val (.ref r11), .val (.ref r12), .val (.ref b1), .val (.ref b3), .val (.ref b5), .val (.int (1 : Int32))] [])) _
      refine XS.goto X6.here hx rfl (pc0 := 276) (pc' := 282) rfl (hb hby at_276) (by decide) (by decide) ?_
      show Steps p.tables e below (T6.setTop (mkF m 282 #[.val (.int p0), .val (.int p1), .val (.int p2), .val (.int p3), .val (.int p4), .val (.int p5), .val (.int p6), .val (.int p7), .val (.int p8), .val (.ref r9), .val (.ref r10), .val (.ref r11), .val (.ref r12), .val (.ref b1), .val (.ref b3), .val (.ref b5), .val (.int (1 : Int32))] [])) _
      refine XS.aload X6.here hx rfl (hb hby at_282) rfl rfl ?_
      exact kt
    have Y9 : Exa Z T6.heap b5 "com/example/araucaria/araucaria/proto/ProtoField" := (A5.keep K6)
    obtain ⟨cq8, kq8, q8a, q8b, q8c⟩ := isOf hZ rfl Y9
    obtain ⟨_, _, ⟨T8, L8, k8, n8⟩, -, X8, ⟨Lc8, hQ8, l8, y8, z8⟩, st8⟩ := X6.virtualBack hx (y := (⟨"com/example/araucaria/araucaria/proto/ProtoField", "hasPresence", "()Z"⟩ : MethodName)) (z := (⟨"com/example/araucaria/araucaria/proto/ProtoField", "hasPresence", "()Z"⟩ : MethodName)) hown (mvT hZ (hw _ (List.mem_of_getElem? (i := 93) rfl))) (mvT hZ (hw _ (List.mem_of_getElem? (i := 94) rfl))) (notFace_of_selects (args := #[]) (mvT hZ (hw _ (List.mem_of_getElem? (i := 96) rfl)))) (mvT hZ (hw _ (List.mem_of_getElem? (i := 96) rfl))) (mvT hZ (hw _ (List.mem_of_getElem? (i := 95) rfl))) (by decide) (backOf (W := 0) (rm12fR l Z a0 hw [] b5 r9 (p5 &&& 1) T6.heap n0 (by omega) Y6_7 Y6_6 (own_and0 _ h259_7)) hZ (hw _ (List.mem_of_getElem? (i := 97) rfl)) (hw _ (List.mem_of_getElem? (i := 68) rfl)) (by decide) (by decide)) q8a q8c (g := (mkF m 284 #[.val (.int p0), .val (.int p1), .val (.int p2), .val (.int p3), .val (.int p4), .val (.int p5), .val (.int p6), .val (.int p7), .val (.int p8), .val (.ref r9), .val (.ref r10), .val (.ref r11), .val (.ref r12), .val (.ref b1), .val (.ref b3), .val (.ref b5), .val (.int (1 : Int32))] [(.ref b5)])) rfl (by rw [hml]; rfl) (Steps.refl _) (argsL := []) (rest := []) (lenOf pd207R_2 rfl) rfl (by show 2 * 0 + _ ≤ _; exact Nat.le_of_eq rfl) (hb hby at_284) (fun vm₁ hvm => ⟨rfl, rfl, (by decide : 17 + 0 ≤ _), (by decide : 180 + 0 ≤ _)⟩)
    dsimp only [Pt.U, Pt.locs, Pt.cells, Pt.slots] at X8 l8 y8 z8 st8 hQ8
    subst l8 y8 z8
    obtain ⟨rfl, N8q, e8⟩ := hQ8
    have N8 := Fr.app N6 N8q
    refine GoW.trans st8 ?_
    show GoW p e below s _ _ _ (T8.setTop (mkF m 287 #[.val (.int p0), .val (.int p1), .val (.int p2), .val (.int p3), .val (.int p4), .val (.int p5), .val (.int p6), .val (.int p7), .val (.int p8), .val (.ref r9), .val (.ref r10), .val (.ref r11), .val (.ref r12), .val (.ref b1), .val (.ref b3), .val (.ref b5), .val (.int (1 : Int32))] [(.int (1 : Int32))]))
    refine GoW.pre (st' := T8.setTop (mkF m 297 #[.val (.int p0), .val (.int p1), .val (.int p2), .val (.int p3), .val (.int p4), .val (.int p5), .val (.int p6), .val (.int p7), .val (.int p8), .val (.ref r9), .val (.ref r10), .val (.ref r11), .val (.ref r12), .val (.ref b1), .val (.ref b3), .val (.ref b5), .val (.int (1 : Int32))] [(.int (1 : Int32))])) (fun target kt => ?_) ?_
    · show Steps p.tables e below (T8.setTop (mkF m 287 #[.val (.int p0), .val (.int p1), .val (.int p2), .val (.int p3), .val (.int p4), .val (.int p5), .val (.int p6), .val (.int p7), .val (.int p8), .val (.ref r9), .val (.ref r10), .val (.ref r11), .val (.ref r12), .val (.ref b1), .val (.ref b3), .val (.ref b5), .val (.int (1 : Int32))] [(.int (1 : Int32))])) _
      refine XS.iload X8.here hx rfl (hb hby at_287) rfl ?_
      show Steps p.tables e below (T8.setTop (mkF m 289 #[.val (.int p0), .val (.int p1), .val (.int p2), .val (.int p3), .val (.int p4), .val (.int p5), .val (.int p6), .val (.int p7), .val (.int p8), .val (.ref r9), .val (.ref r10), .val (.ref r11), .val (.ref r12), .val (.ref b1), .val (.ref b3), .val (.ref b5), .val (.int (1 : Int32))] [(.int (1 : Int32)), (.int (1 : Int32))])) _
      refine XS.icmpNo X8.here hx rfl (hb hby at_289) rfl (teq (by decide)).2 ?_
      show Steps p.tables e below (T8.setTop (mkF m 292 #[.val (.int p0), .val (.int p1), .val (.int p2), .val (.int p3), .val (.int p4), .val (.int p5), .val (.int p6), .val (.int p7), .val (.int p8), .val (.ref r9), .val (.ref r10), .val (.ref r11), .val (.ref r12), .val (.ref b1), .val (.ref b3), .val (.ref b5), .val (.int (1 : Int32))] [])) _
      refine XS.iconst X8.here hx rfl (hb hby at_292) ?_
      show Steps p.tables e below (T8.setTop (mkF m 293 #[.val (.int p0), .val (.int p1), .val (.int p2), .val (.int p3), .val (.int p4), .val (.int p5), .val (.int p6), .val (.int p7), .val (.int p8), .val (.ref r9), .val (.ref r10), .val (.ref r11), .val (.ref r12), .val (.ref b1), .val (.ref b3), .val (.ref b5), .val (.int (1 : Int32))] [(.int (1 : Int32))])) _
      refine XS.goto X8.here hx rfl (pc0 := 293) (pc' := 297) rfl (hb hby at_293) (by decide) (by decide) ?_
      exact kt
    exact GoW.retN X8 hS (leH e8 (by omega)) hx hlk hrt (z' := (1 : Int32)) (by simp) (hb hby at_297) rfl (by decide) (by decide) (by first | exact ⟨rfl, N8⟩ | (rw [e8]; exact ⟨rfl, N8⟩))
  · refine GoW.pre (st' := T6.setTop (mkF m 262 #[.val (.int p0), .val (.int p1), .val (.int p2), .val (.int p3), .val (.int p4), .val (.int p5), .val (.int p6), .val (.int p7), .val (.int p8), .val (.ref r9), .val (.ref r10), .val (.ref r11), .val (.ref r12), .val (.ref b1), .val (.ref b3), .val (.ref b5), .unset] [])) (fun target kt => ?_) ?_
    · show Steps p.tables e below (T6.setTop (mkF m 259 #[.val (.int p0), .val (.int p1), .val (.int p2), .val (.int p3), .val (.int p4), .val (.int p5), .val (.int p6), .val (.int p7), .val (.int p8), .val (.ref r9), .val (.ref r10), .val (.ref r11), .val (.ref r12), .val (.ref b1), .val (.ref b3), .val (.ref b5), .unset] [(.int p5)])) _
      refine XS.ifNo X6.here hx rfl (hb hby at_259) rfl ((if0 _ _).trans (feq h259_7).1) ?_
      exact kt
    refine GoW.pre (st' := T6.setTop (mkF m 284 #[.val (.int p0), .val (.int p1), .val (.int p2), .val (.int p3), .val (.int p4), .val (.int p5), .val (.int p6), .val (.int p7), .val (.int p8), .val (.ref r9), .val (.ref r10), .val (.ref r11), .val (.ref r12), .val (.ref b1), .val (.ref b3), .val (.ref b5), .val (.int (1 : Int32))] [(.ref b5)])) (fun target kt => ?_) ?_
    · show Steps p.tables e below (T6.setTop (mkF m 262 #[.val (.int p0), .val (.int p1), .val (.int p2), .val (.int p3), .val (.int p4), .val (.int p5), .val (.int p6), .val (.int p7), .val (.int p8), .val (.ref r9), .val (.ref r10), .val (.ref r11), .val (.ref r12), .val (.ref b1), .val (.ref b3), .val (.ref b5), .unset] [])) _
      refine XS.iconst X6.here hx rfl (hb hby at_262) ?_
      show Steps p.tables e below (T6.setTop (mkF m 263 #[.val (.int p0), .val (.int p1), .val (.int p2), .val (.int p3), .val (.int p4), .val (.int p5), .val (.int p6), .val (.int p7), .val (.int p8), .val (.ref r9), .val (.ref r10), .val (.ref r11), .val (.ref r12), .val (.ref b1), .val (.ref b3), .val (.ref b5), .unset] [(.int (1 : Int32))])) _
      refine XS.istore X6.here hx rfl (hb hby at_263) rfl (l' := #[.val (.int p0), .val (.int p1), .val (.int p2), .val (.int p3), .val (.int p4), .val (.int p5), .val (.int p6), .val (.int p7), .val (.int p8), .val (.ref r9), .val (.ref r10), .val (.ref r11), .val (.ref r12), .val (.ref b1), .val (.ref b3), .val (.ref b5), .val (.int (1 : Int32))]) rfl ?_
      show Steps p.tables e below (T6.setTop (mkF m 265 #[.val (.int p0), .val (.int p1), .val (.int p2), .val (.int p3), .val (.int p4), .val (.int p5), .val (.int p6), .val (.int p7), .val (.int p8), .val (.ref r9), .val (.ref r10), .val (.ref r11), .val (.ref r12), .val (.ref b1), .val (.ref b3), .val (.ref b5), .val (.int (1 : Int32))] [])) _
      refine XS.goto X6.here hx rfl (pc0 := 265) (pc' := 282) rfl (hb hby at_265) (by decide) (by decide) ?_
      show Steps p.tables e below (T6.setTop (mkF m 282 #[.val (.int p0), .val (.int p1), .val (.int p2), .val (.int p3), .val (.int p4), .val (.int p5), .val (.int p6), .val (.int p7), .val (.int p8), .val (.ref r9), .val (.ref r10), .val (.ref r11), .val (.ref r12), .val (.ref b1), .val (.ref b3), .val (.ref b5), .val (.int (1 : Int32))] [])) _
      refine XS.aload X6.here hx rfl (hb hby at_282) rfl rfl ?_
      exact kt
    have Y11 : Exa Z T6.heap b5 "com/example/araucaria/araucaria/proto/ProtoField" := (A5.keep K6)
    obtain ⟨cq10, kq10, q10a, q10b, q10c⟩ := isOf hZ rfl Y11
    obtain ⟨_, _, ⟨T10, L10, k10, n10⟩, -, X10, ⟨Lc10, hQ10, l10, y10, z10⟩, st10⟩ := X6.virtualBack hx (y := (⟨"com/example/araucaria/araucaria/proto/ProtoField", "hasPresence", "()Z"⟩ : MethodName)) (z := (⟨"com/example/araucaria/araucaria/proto/ProtoField", "hasPresence", "()Z"⟩ : MethodName)) hown (mvT hZ (hw _ (List.mem_of_getElem? (i := 93) rfl))) (mvT hZ (hw _ (List.mem_of_getElem? (i := 94) rfl))) (notFace_of_selects (args := #[]) (mvT hZ (hw _ (List.mem_of_getElem? (i := 96) rfl)))) (mvT hZ (hw _ (List.mem_of_getElem? (i := 96) rfl))) (mvT hZ (hw _ (List.mem_of_getElem? (i := 95) rfl))) (by decide) (backOf (W := 0) (rm12t l Z a0 hw [] b5 (p5 &&& 1) T6.heap n0 (by omega) Y6_6 (own_and _ h01 h259_7)) hZ (hw _ (List.mem_of_getElem? (i := 97) rfl)) (hw _ (List.mem_of_getElem? (i := 68) rfl)) (by decide) (by decide)) q10a q10c (g := (mkF m 284 #[.val (.int p0), .val (.int p1), .val (.int p2), .val (.int p3), .val (.int p4), .val (.int p5), .val (.int p6), .val (.int p7), .val (.int p8), .val (.ref r9), .val (.ref r10), .val (.ref r11), .val (.ref r12), .val (.ref b1), .val (.ref b3), .val (.ref b5), .val (.int (1 : Int32))] [(.ref b5)])) rfl (by rw [hml]; rfl) (Steps.refl _) (argsL := []) (rest := []) (lenOf pd207R_2 rfl) rfl (by show 2 * 0 + _ ≤ _; exact Nat.le_of_eq rfl) (hb hby at_284) (fun vm₁ hvm => ⟨rfl, rfl, (by decide : 17 + 0 ≤ _), (by decide : 180 + 0 ≤ _)⟩)
    dsimp only [Pt.U, Pt.locs, Pt.cells, Pt.slots] at X10 l10 y10 z10 st10 hQ10
    subst l10 y10 z10
    obtain ⟨rfl, N10q, e10⟩ := hQ10
    have N10 := Fr.app N6 N10q
    refine GoW.trans st10 ?_
    show GoW p e below s _ _ _ (T10.setTop (mkF m 287 #[.val (.int p0), .val (.int p1), .val (.int p2), .val (.int p3), .val (.int p4), .val (.int p5), .val (.int p6), .val (.int p7), .val (.int p8), .val (.ref r9), .val (.ref r10), .val (.ref r11), .val (.ref r12), .val (.ref b1), .val (.ref b3), .val (.ref b5), .val (.int (1 : Int32))] [(.int (1 : Int32))]))
    refine GoW.pre (st' := T10.setTop (mkF m 297 #[.val (.int p0), .val (.int p1), .val (.int p2), .val (.int p3), .val (.int p4), .val (.int p5), .val (.int p6), .val (.int p7), .val (.int p8), .val (.ref r9), .val (.ref r10), .val (.ref r11), .val (.ref r12), .val (.ref b1), .val (.ref b3), .val (.ref b5), .val (.int (1 : Int32))] [(.int (1 : Int32))])) (fun target kt => ?_) ?_
    · show Steps p.tables e below (T10.setTop (mkF m 287 #[.val (.int p0), .val (.int p1), .val (.int p2), .val (.int p3), .val (.int p4), .val (.int p5), .val (.int p6), .val (.int p7), .val (.int p8), .val (.ref r9), .val (.ref r10), .val (.ref r11), .val (.ref r12), .val (.ref b1), .val (.ref b3), .val (.ref b5), .val (.int (1 : Int32))] [(.int (1 : Int32))])) _
      refine XS.iload X10.here hx rfl (hb hby at_287) rfl ?_
      show Steps p.tables e below (T10.setTop (mkF m 289 #[.val (.int p0), .val (.int p1), .val (.int p2), .val (.int p3), .val (.int p4), .val (.int p5), .val (.int p6), .val (.int p7), .val (.int p8), .val (.ref r9), .val (.ref r10), .val (.ref r11), .val (.ref r12), .val (.ref b1), .val (.ref b3), .val (.ref b5), .val (.int (1 : Int32))] [(.int (1 : Int32)), (.int (1 : Int32))])) _
      refine XS.icmpNo X10.here hx rfl (hb hby at_289) rfl (teq (by decide)).2 ?_
      show Steps p.tables e below (T10.setTop (mkF m 292 #[.val (.int p0), .val (.int p1), .val (.int p2), .val (.int p3), .val (.int p4), .val (.int p5), .val (.int p6), .val (.int p7), .val (.int p8), .val (.ref r9), .val (.ref r10), .val (.ref r11), .val (.ref r12), .val (.ref b1), .val (.ref b3), .val (.ref b5), .val (.int (1 : Int32))] [])) _
      refine XS.iconst X10.here hx rfl (hb hby at_292) ?_
      show Steps p.tables e below (T10.setTop (mkF m 293 #[.val (.int p0), .val (.int p1), .val (.int p2), .val (.int p3), .val (.int p4), .val (.int p5), .val (.int p6), .val (.int p7), .val (.int p8), .val (.ref r9), .val (.ref r10), .val (.ref r11), .val (.ref r12), .val (.ref b1), .val (.ref b3), .val (.ref b5), .val (.int (1 : Int32))] [(.int (1 : Int32))])) _
      refine XS.goto X10.here hx rfl (pc0 := 293) (pc' := 297) rfl (hb hby at_293) (by decide) (by decide) ?_
      exact kt
    exact GoW.retN X10 hS (leH e10 (by omega)) hx hlk hrt (z' := (1 : Int32)) (by simp) (hb hby at_297) rfl (by decide) (by decide) (by first | exact ⟨rfl, N10⟩ | (rw [e10]; exact ⟨rfl, N10⟩))
theorem pd169N_0 : parseMethodDescriptor "(C)Ljava/lang/String;" = some ⟨[.char], some (.object "java/lang/String")⟩ := by decide +kernel
theorem pd169N_1 : parseMethodDescriptor "()V" = some ⟨[], none⟩ := by decide +kernel
theorem pd169N_2 : parseMethodDescriptor "(Ljava/lang/Object;)Z" = some ⟨[(.object "java/lang/Object")], some .boolean⟩ := by decide +kernel
set_option maxRecDepth 65536 in
set_option maxHeartbeats 40000000 in
theorem blk169N {p : Program} {l : Launch} {e : Env} {s : State} {m : MethodId} {args : Array Value} {below : List Frame} {meth : Method} {c : Code} {Z : State} {a0 : Array Value} {T : State} {locs : List Loc} {h0 : Heap} {n0 : Nat} {vm0 : Vm} {k0 : Nat} (C : Ctx p (s.setVm vm0) m meth c Z code 17 "com/example/araucaria/araucaria/proto/ProtoFieldHasPresencePinLaw" (some .boolean)) (hw : ∀ d ∈ tables_1, d.before a0 Z = true) (hS : s.Since vm0 k0) (hk : k0 ≤ h0.size) (hI : IB Z vm0 ["map<string, Book>", ""]) (hnS : n0 = s.heap.size) (hkp : ∀ (b : Addr) (cl : Cell), Z.heap[b]? = some cl → s.heap[b]? = some cl)
    (X0 : Stand p l e room_1 (s.setVm vm0) m args below meth c T locs 8 92) (e0 : T.heap = h0) (N0 : Fr n0 locs) (p0 : Int32) (p1 : Int32) (p2 : Int32) (p3 : Int32) (p4 : Int32) (p5 : Int32) (p6 : Int32) (p7 : Int32) (p8 : Int32) (r10 : Addr) (zc : Int32) (zd : Addr) (kd : ClassId) (Z0 : n0 ≤ h0.size) (h01 : p5 = (0 : Int32) ∨ p5 = (1 : Int32)) (S_COMPACT : Sta Z Z.heap "java/lang/String" "COMPACT_STRINGS" "Z" (.int zc)) (hcs : ¬ (zc = (0 : Int32))) (S_D : Sta Z Z.heap "java/util/ArrayList" "DEFAULTCAPACITY_EMPTY_ELEMENTDATA" "[Ljava/lang/Object;" (.ref zd)) (A_zd : Arv Z h0 zd kd (.object "java/lang/Object") (0 : Int32) [] .null) (Ol : Old Z n0 h0) (hcw : Jvm.Lit.compactW.before a0 Z = true) (hheld : ∀ q ∈ consts_1, Jvm.Lit.constHeld Z q.1 q.2) :
    GoW p e below s 40 3264 (fun v vm h L => v = some (.int 1) ∧ Fr n0 L) (T.setTop (mkF m 169 #[.val (.int p0), .val (.int p1), .val (.int p2), .val (.int p3), .val (.int p4), .val (.int p5), .val (.int p6), .val (.int p7), .val (.int p8), .val .null, .val (.ref r10), .unset, .unset, .unset, .unset, .unset, .unset] [])) := by
  obtain ⟨hx, hZ, hby, hml, hown, hrt, hlk⟩ := id C
  have lt_A_zd : LT.lt (α := Nat) zd h0.size := A_zd.lt
  refine GoW.pre (st' := T.setTop (mkF m 178 #[.val (.int p0), .val (.int p1), .val (.int p2), .val (.int p3), .val (.int p4), .val (.int p5), .val (.int p6), .val (.int p7), .val (.int p8), .val .null, .val (.ref r10), .unset, .unset, .unset, .unset, .unset, .unset] [(.int ((((p3.toUInt32 >>> ((8 : Int32) &&& 31).toUInt32).toInt32) &&& (255 : Int32)).toUInt32.toUInt16.toUInt32.toInt32))])) (fun target kt => ?_) ?_
  · show Steps p.tables e below (T.setTop (mkF m 169 #[.val (.int p0), .val (.int p1), .val (.int p2), .val (.int p3), .val (.int p4), .val (.int p5), .val (.int p6), .val (.int p7), .val (.int p8), .val .null, .val (.ref r10), .unset, .unset, .unset, .unset, .unset, .unset] [])) _
    refine XS.iloadN X0.here hx rfl (hb hby at_169) rfl ?_
    show Steps p.tables e below (T.setTop (mkF m 170 #[.val (.int p0), .val (.int p1), .val (.int p2), .val (.int p3), .val (.int p4), .val (.int p5), .val (.int p6), .val (.int p7), .val (.int p8), .val .null, .val (.ref r10), .unset, .unset, .unset, .unset, .unset, .unset] [(.int p3)])) _
    refine XS.bipush X0.here hx rfl (hb hby at_170) ?_
    show Steps p.tables e below (T.setTop (mkF m 172 #[.val (.int p0), .val (.int p1), .val (.int p2), .val (.int p3), .val (.int p4), .val (.int p5), .val (.int p6), .val (.int p7), .val (.int p8), .val .null, .val (.ref r10), .unset, .unset, .unset, .unset, .unset, .unset] [(.int (8 : Int32)), (.int p3)])) _
    refine XS.iushr X0.here hx rfl (hb hby at_172) rfl ?_
    show Steps p.tables e below (T.setTop (mkF m 173 #[.val (.int p0), .val (.int p1), .val (.int p2), .val (.int p3), .val (.int p4), .val (.int p5), .val (.int p6), .val (.int p7), .val (.int p8), .val .null, .val (.ref r10), .unset, .unset, .unset, .unset, .unset, .unset] [(.int ((p3.toUInt32 >>> ((8 : Int32) &&& 31).toUInt32).toInt32))])) _
    refine XS.sipush X0.here hx rfl (hb hby at_173) ?_
    show Steps p.tables e below (T.setTop (mkF m 176 #[.val (.int p0), .val (.int p1), .val (.int p2), .val (.int p3), .val (.int p4), .val (.int p5), .val (.int p6), .val (.int p7), .val (.int p8), .val .null, .val (.ref r10), .unset, .unset, .unset, .unset, .unset, .unset] [(.int (255 : Int32)), (.int ((p3.toUInt32 >>> ((8 : Int32) &&& 31).toUInt32).toInt32))])) _
    refine XS.iand X0.here hx rfl (hb hby at_176) rfl ?_
    show Steps p.tables e below (T.setTop (mkF m 177 #[.val (.int p0), .val (.int p1), .val (.int p2), .val (.int p3), .val (.int p4), .val (.int p5), .val (.int p6), .val (.int p7), .val (.int p8), .val .null, .val (.ref r10), .unset, .unset, .unset, .unset, .unset, .unset] [(.int (((p3.toUInt32 >>> ((8 : Int32) &&& 31).toUInt32).toInt32) &&& (255 : Int32)))])) _
    refine XS.i2c X0.here hx rfl (hb hby at_177) rfl ?_
    exact kt
  obtain ⟨_, _, ⟨T1, L1, k1, n1⟩, -, X1, ⟨Lc1, hQ1, l1, y1, z1⟩, st1⟩ := Jvm.LawKit.callS X0 hx (y := (⟨"java/lang/String", "valueOf", "(C)Ljava/lang/String;"⟩ : MethodName)) hown (mvT hZ (hw _ (List.mem_of_getElem? (i := 0) rfl))) (mvT hZ (hw _ (List.mem_of_getElem? (i := 1) rfl))) (mvT hZ (hw _ (List.mem_of_getElem? (i := 2) rfl))) (mvT hZ (hw _ (List.mem_of_getElem? (i := 3) rfl))) (by decide) (backOf (W := 0) (rm1 l Z a0 hw [] ((((p3.toUInt32 >>> ((8 : Int32) &&& 31).toUInt32).toInt32) &&& (255 : Int32)).toUInt32.toUInt16.toUInt32.toInt32) zc h0 n0 (by omega) S_COMPACT Ol (own_c255 _) hcs) hZ (hw _ (List.mem_of_getElem? (i := 3) rfl)) (hw _ (List.mem_of_getElem? (i := 2) rfl)) (by decide) (by decide)) (g := (mkF m 178 #[.val (.int p0), .val (.int p1), .val (.int p2), .val (.int p3), .val (.int p4), .val (.int p5), .val (.int p6), .val (.int p7), .val (.int p8), .val .null, .val (.ref r10), .unset, .unset, .unset, .unset, .unset, .unset] [(.int ((((p3.toUInt32 >>> ((8 : Int32) &&& 31).toUInt32).toInt32) &&& (255 : Int32)).toUInt32.toUInt16.toUInt32.toInt32))])) rfl (by rw [hml]; rfl) (argsL := [(.int ((((p3.toUInt32 >>> ((8 : Int32) &&& 31).toUInt32).toInt32) &&& (255 : Int32)).toUInt32.toUInt16.toUInt32.toInt32))]) (rest := []) (lenOf pd169N_0 rfl) rfl (by show 2 * 0 + _ ≤ _; exact Nat.le_of_eq rfl) (hb hby at_178) (fun vm₁ hvm => ⟨rfl, e0, (by decide : 8 + 2 ≤ _), (by decide : 92 + 5 ≤ _)⟩)
  dsimp only [Pt.U, Pt.locs, Pt.cells, Pt.slots] at X1 l1 y1 z1 st1 hQ1
  subst l1 y1 z1
  obtain ⟨b1_0, b1_1, k1_0, rfl, N1q, K1, KF1, gb1_0, ltb1_0, gb1_1, ltb1_1, lob1_1, Y1_0, Y1_1, Y1_2, Y1_3⟩ := hQ1
  have sz1 : h0.size ≤ T1.heap.size := K1.1
  have N1 := Fr.app N0 N1q
  refine GoW.pre st1 ?_
  show GoW p e below s _ _ _ (T1.setTop (mkF m 181 #[.val (.int p0), .val (.int p1), .val (.int p2), .val (.int p3), .val (.int p4), .val (.int p5), .val (.int p6), .val (.int p7), .val (.int p8), .val .null, .val (.ref r10), .unset, .unset, .unset, .unset, .unset, .unset] [(.ref b1_0)]))
  refine GoW.pre (st' := T1.setTop (mkF m 183 #[.val (.int p0), .val (.int p1), .val (.int p2), .val (.int p3), .val (.int p4), .val (.int p5), .val (.int p6), .val (.int p7), .val (.int p8), .val .null, .val (.ref r10), .val (.ref b1_0), .unset, .unset, .unset, .unset, .unset] [])) (fun target kt => ?_) ?_
  · show Steps p.tables e below (T1.setTop (mkF m 181 #[.val (.int p0), .val (.int p1), .val (.int p2), .val (.int p3), .val (.int p4), .val (.int p5), .val (.int p6), .val (.int p7), .val (.int p8), .val .null, .val (.ref r10), .unset, .unset, .unset, .unset, .unset, .unset] [(.ref b1_0)])) _
    refine XS.astore X1.here hx rfl (hb hby at_181) rfl rfl (l' := #[.val (.int p0), .val (.int p1), .val (.int p2), .val (.int p3), .val (.int p4), .val (.int p5), .val (.int p6), .val (.int p7), .val (.int p8), .val .null, .val (.ref r10), .val (.ref b1_0), .unset, .unset, .unset, .unset, .unset]) rfl ?_
    exact kt
  obtain ⟨T2, h2, X2, e2, E2, A2, D2, -, st2⟩ := newO X1 hx hZ hown (hw _ (List.mem_of_getElem? (i := 26) rfl)) (hw _ (List.mem_of_getElem? (i := 27) rfl)) (hw _ (List.mem_of_getElem? (i := 28) rfl)) rfl (g := (mkF m 183 #[.val (.int p0), .val (.int p1), .val (.int p2), .val (.int p3), .val (.int p4), .val (.int p5), .val (.int p6), .val (.int p7), .val (.int p8), .val .null, .val (.ref r10), .val (.ref b1_0), .unset, .unset, .unset, .unset, .unset] [])) rfl (hb hby at_183) (by decide) (by decide)
  obtain ⟨b2, g2⟩ : ∃ z, z = T1.heap.size := ⟨_, rfl⟩
  rw [← g2] at A2 D2 st2
  have sz2 : T1.heap.size ≤ h2.size := E2.1
  have lt2 : b2 < h2.size := A2.lt
  have F2_modCount : Fld Z h2 b2 "java/util/AbstractList" "modCount" "I" (.int (0 : Int32)) := D2 (Or.inl (hw _ (List.mem_of_getElem? (i := 46) rfl))) (ty := .int) (by decide)
  have F2_elementData : Fld Z h2 b2 "java/util/ArrayList" "elementData" "[Ljava/lang/Object;" .null := D2 (Or.inl (hw _ (List.mem_of_getElem? (i := 49) rfl))) (ty := (.array (.object "java/lang/Object"))) (by decide)
  have F2_size : Fld Z h2 b2 "java/util/ArrayList" "size" "I" (.int (0 : Int32)) := D2 (Or.inl (hw _ (List.mem_of_getElem? (i := 123) rfl))) (ty := .int) (by decide)
  refine GoW.pre st2 ?_
  show GoW p e below s _ _ _ (T2.setTop (mkF m 186 #[.val (.int p0), .val (.int p1), .val (.int p2), .val (.int p3), .val (.int p4), .val (.int p5), .val (.int p6), .val (.int p7), .val (.int p8), .val .null, .val (.ref r10), .val (.ref b1_0), .unset, .unset, .unset, .unset, .unset] [(.ref b2)]))
  refine GoW.pre (st' := T2.setTop (mkF m 187 #[.val (.int p0), .val (.int p1), .val (.int p2), .val (.int p3), .val (.int p4), .val (.int p5), .val (.int p6), .val (.int p7), .val (.int p8), .val .null, .val (.ref r10), .val (.ref b1_0), .unset, .unset, .unset, .unset, .unset] [(.ref b2), (.ref b2)])) (fun target kt => ?_) ?_
  · show Steps p.tables e below (T2.setTop (mkF m 186 #[.val (.int p0), .val (.int p1), .val (.int p2), .val (.int p3), .val (.int p4), .val (.int p5), .val (.int p6), .val (.int p7), .val (.int p8), .val .null, .val (.ref r10), .val (.ref b1_0), .unset, .unset, .unset, .unset, .unset] [(.ref b2)])) _
    refine XS.dup X2.here hx rfl (hb hby at_186) rfl rfl ?_
    exact kt
  have Y4 : Old Z n0 h2 := ((Ol.keep K1 all0).ext E2)
  obtain ⟨_, _, ⟨T3, L3, k3, n3⟩, -, X3, ⟨Lc3, hQ3, l3, y3, z3⟩, st3⟩ := X2.specialBack hx (y := (⟨"java/util/ArrayList", "<init>", "()V"⟩ : MethodName)) rfl hown (mvT hZ (hw _ (List.mem_of_getElem? (i := 29) rfl))) (mvT hZ (hw _ (List.mem_of_getElem? (i := 30) rfl))) (mvT hZ (hw _ (List.mem_of_getElem? (i := 31) rfl))) (by decide) (backOf (W := 1) (rm6 l Z a0 hw [] b2 (.int (0 : Int32)) zd .null h2 n0 (by omega) A2 F2_modCount (by omega) S_D Y4 F2_elementData) hZ (hw _ (List.mem_of_getElem? (i := 31) rfl)) (hw _ (List.mem_of_getElem? (i := 28) rfl)) (by decide) (by decide)) (g := (mkF m 187 #[.val (.int p0), .val (.int p1), .val (.int p2), .val (.int p3), .val (.int p4), .val (.int p5), .val (.int p6), .val (.int p7), .val (.int p8), .val .null, .val (.ref r10), .val (.ref b1_0), .unset, .unset, .unset, .unset, .unset] [(.ref b2), (.ref b2)])) rfl (by rw [hml]; rfl) (Steps.refl _) (a := b2) (argsL := []) (rest := [(.ref b2)]) (lenOf pd169N_1 rfl) rfl (by show 2 * 0 + _ ≤ _; exact Nat.le_of_eq rfl) (hb hby at_187) (fun vm₁ hvm => ⟨rfl, e2, (by decide : 11 + 0 ≤ _), (by decide : 100 + 0 ≤ _)⟩)
  dsimp only [Pt.U, Pt.locs, Pt.cells, Pt.slots] at X3 l3 y3 z3 st3 hQ3
  subst l3 y3 z3
  obtain ⟨rfl, N3q, K3, KF3, Y3_0, Y3_1⟩ := hQ3
  have sz3 : h2.size ≤ T3.heap.size := K3.1
  have N3 := Fr.app N1 N3q
  refine GoW.trans st3 ?_
  show GoW p e below s _ _ _ (T3.setTop (mkF m 190 #[.val (.int p0), .val (.int p1), .val (.int p2), .val (.int p3), .val (.int p4), .val (.int p5), .val (.int p6), .val (.int p7), .val (.int p8), .val .null, .val (.ref r10), .val (.ref b1_0), .unset, .unset, .unset, .unset, .unset] [(.ref b2)]))
  refine GoW.pre (st' := T3.setTop (mkF m 194 #[.val (.int p0), .val (.int p1), .val (.int p2), .val (.int p3), .val (.int p4), .val (.int p5), .val (.int p6), .val (.int p7), .val (.int p8), .val .null, .val (.ref r10), .val (.ref b1_0), .val (.ref b2), .unset, .unset, .unset, .unset] [(.int p8)])) (fun target kt => ?_) ?_
  · show Steps p.tables e below (T3.setTop (mkF m 190 #[.val (.int p0), .val (.int p1), .val (.int p2), .val (.int p3), .val (.int p4), .val (.int p5), .val (.int p6), .val (.int p7), .val (.int p8), .val .null, .val (.ref r10), .val (.ref b1_0), .unset, .unset, .unset, .unset, .unset] [(.ref b2)])) _
    refine XS.astore X3.here hx rfl (hb hby at_190) rfl rfl (l' := #[.val (.int p0), .val (.int p1), .val (.int p2), .val (.int p3), .val (.int p4), .val (.int p5), .val (.int p6), .val (.int p7), .val (.int p8), .val .null, .val (.ref r10), .val (.ref b1_0), .val (.ref b2), .unset, .unset, .unset, .unset]) rfl ?_
    show Steps p.tables e below (T3.setTop (mkF m 192 #[.val (.int p0), .val (.int p1), .val (.int p2), .val (.int p3), .val (.int p4), .val (.int p5), .val (.int p6), .val (.int p7), .val (.int p8), .val .null, .val (.ref r10), .val (.ref b1_0), .val (.ref b2), .unset, .unset, .unset, .unset] [])) _
    refine XS.iload X3.here hx rfl (hb hby at_192) rfl ?_
    exact kt
  by_cases h194_5 : p8 = (0 : Int32)
  · refine GoW.pre (st' := T3.setTop (mkF m 207 #[.val (.int p0), .val (.int p1), .val (.int p2), .val (.int p3), .val (.int p4), .val (.int p5), .val (.int p6), .val (.int p7), .val (.int p8), .val .null, .val (.ref r10), .val (.ref b1_0), .val (.ref b2), .unset, .unset, .unset, .unset] [])) (fun target kt => ?_) ?_
    · show Steps p.tables e below (T3.setTop (mkF m 194 #[.val (.int p0), .val (.int p1), .val (.int p2), .val (.int p3), .val (.int p4), .val (.int p5), .val (.int p6), .val (.int p7), .val (.int p8), .val .null, .val (.ref r10), .val (.ref b1_0), .val (.ref b2), .unset, .unset, .unset, .unset] [(.int p8)])) _
      refine XS.ifYes X3.here hx rfl (pc0 := 194) (pc' := 207) rfl (hb hby at_194) rfl ((if0 _ _).trans (teq h194_5).1) (by decide) (by decide) ?_
      exact kt
    have Y6 : Old Z n0 T3.heap := (Y4.keep K3 (allS (by omega) all0))
    have Y7 : Arv Z T3.heap zd kd (.object "java/lang/Object") (0 : Int32) [] .null := (((A_zd.keep K1 nin0).ext E2).keep K3 (ninS (by show @Ne Nat zd b2; omega) nin0))
    exact blk207N ⟨hx, hZ, hby, hml, hown, hrt, hlk⟩ hw hS (by omega) (IB.sup hI (by simp)) hnS hkp (padS X3 (by decide) (by decide)) rfl N3 p0 p1 p2 p3 p4 p5 p6 p7 p8 r10 b1_0 b2 zc zd kd (by omega) h01 S_COMPACT hcs S_D Y7 Y6 hcw hheld
  · refine GoW.pre (st' := T3.setTop (mkF m 197 #[.val (.int p0), .val (.int p1), .val (.int p2), .val (.int p3), .val (.int p4), .val (.int p5), .val (.int p6), .val (.int p7), .val (.int p8), .val .null, .val (.ref r10), .val (.ref b1_0), .val (.ref b2), .unset, .unset, .unset, .unset] [])) (fun target kt => ?_) ?_
    · show Steps p.tables e below (T3.setTop (mkF m 194 #[.val (.int p0), .val (.int p1), .val (.int p2), .val (.int p3), .val (.int p4), .val (.int p5), .val (.int p6), .val (.int p7), .val (.int p8), .val .null, .val (.ref r10), .val (.ref b1_0), .val (.ref b2), .unset, .unset, .unset, .unset] [(.int p8)])) _
      refine XS.ifNo X3.here hx rfl (hb hby at_194) rfl ((if0 _ _).trans (feq h194_5).1) ?_
      exact kt
    refine GoW.pre (st' := T3.setTop (mkF m 199 #[.val (.int p0), .val (.int p1), .val (.int p2), .val (.int p3), .val (.int p4), .val (.int p5), .val (.int p6), .val (.int p7), .val (.int p8), .val .null, .val (.ref r10), .val (.ref b1_0), .val (.ref b2), .unset, .unset, .unset, .unset] [(.ref b2)])) (fun target kt => ?_) ?_
    · show Steps p.tables e below (T3.setTop (mkF m 197 #[.val (.int p0), .val (.int p1), .val (.int p2), .val (.int p3), .val (.int p4), .val (.int p5), .val (.int p6), .val (.int p7), .val (.int p8), .val .null, .val (.ref r10), .val (.ref b1_0), .val (.ref b2), .unset, .unset, .unset, .unset] [])) _
      refine XS.aload X3.here hx rfl (hb hby at_197) rfl rfl ?_
      exact kt
    have Y9 : Old Z n0 T3.heap := (Y4.keep K3 (allS (by omega) all0))
    obtain ⟨la8, T8, h8, kq8, b8, k8, X8, e8, E8, hS, hk, hZ, hown, Ea8, Fc8, Fv8, Va8, lt8, lu8, hI, Lt_la8, st8⟩ := ldcSVL X3 hx hZ hown (hw _ (List.mem_of_getElem? (i := 110) rfl)) (own_wS hw) rfl hS (by omega) (hnS ▸ N3) hkp hI (by decide) (hheld _ (List.mem_of_getElem? (i := 1) rfl)) hcw (vs := [(.int (79 : Int32)), (.int (85 : Int32)), (.int (84 : Int32)), (.int (80 : Int32)), (.int (85 : Int32)), (.int (84 : Int32)), (.int (95 : Int32)), (.int (79 : Int32)), (.int (78 : Int32)), (.int (76 : Int32)), (.int (89 : Int32))]) (z := (11 : Int32)) ⟨by decide, by decide⟩ (by decide) rfl (g := (mkF m 199 #[.val (.int p0), .val (.int p1), .val (.int p2), .val (.int p3), .val (.int p4), .val (.int p5), .val (.int p6), .val (.int p7), .val (.int p8), .val .null, .val (.ref r10), .val (.ref b1_0), .val (.ref b2), .unset, .unset, .unset, .unset] [(.ref b2)])) rfl (hb hby at_199) (n := 44) (by decide) (by decide) (by decide) (by decide)
    have sz8 : T3.heap.size ≤ h8.size := E8.1
    refine GoW.pre st8 ?_
    show GoW p e below s _ _ _ (T8.setTop (mkF m 201 #[.val (.int p0), .val (.int p1), .val (.int p2), .val (.int p3), .val (.int p4), .val (.int p5), .val (.int p6), .val (.int p7), .val (.int p8), .val .null, .val (.ref r10), .val (.ref b1_0), .val (.ref b2), .unset, .unset, .unset, .unset] [(.ref la8), (.ref b2)]))
    have Y11 : Old Z n0 h8 := (Y9.ext E8)
    have Y12 : Exa Z h8 b2 "java/util/ArrayList" := ((A2.keep K3).ext E8)
    have Y13 : Arv Z h8 zd kd (.object "java/lang/Object") (0 : Int32) [] .null := ((((A_zd.keep K1 nin0).ext E2).keep K3 (ninS (by show @Ne Nat zd b2; omega) nin0)).ext E8)
    have Y14 : Fld Z h8 b2 "java/util/ArrayList" "elementData" "[Ljava/lang/Object;" (.ref zd) := (Y3_1.ext E8)
    have Y15 : Fld Z h8 b2 "java/util/ArrayList" "size" "I" (.int (0 : Int32)) := ((KF3 _ _ _ _ _ F2_size (pallS (Or.inr (slot_ne (Or.inl (hw _ (List.mem_of_getElem? (i := 123) rfl))) (Or.inl (hw _ (List.mem_of_getElem? (i := 46) rfl))) (by decide) (t := .int) (t' := .int) (by decide) (by decide))) (pallS (Or.inr (slot_ne (Or.inl (hw _ (List.mem_of_getElem? (i := 123) rfl))) (Or.inl (hw _ (List.mem_of_getElem? (i := 49) rfl))) (by decide) (t := .int) (t' := (.array (.object "java/lang/Object"))) (by decide) (by decide))) pall0))).ext E8)
    have Y16 : Fld Z h8 b2 "java/util/AbstractList" "modCount" "I" (.int (0 : Int32)) := (Y3_0.ext E8)
    obtain ⟨cq10, kq10, q10a, q10b, q10c⟩ := isOf hZ e8 Y12
    obtain ⟨_, _, ⟨T10, L10, k10, n10⟩, -, X10, ⟨Lc10, hQ10, l10, y10, z10⟩, st10⟩ := X8.interfaceBack hx (xi := (⟨"java/util/List", "add", "(Ljava/lang/Object;)Z"⟩ : MethodName)) (y := (⟨"java/util/ArrayList", "add", "(Ljava/lang/Object;)Z"⟩ : MethodName)) hown (mvT hZ (hw _ (List.mem_of_getElem? (i := 111) rfl))) (mvT hZ (hw _ (List.mem_of_getElem? (i := 112) rfl))) (mvT hZ (hw _ (List.mem_of_getElem? (i := 113) rfl))) (mvT hZ (hw _ (List.mem_of_getElem? (i := 114) rfl))) (mvT hZ (hw _ (List.mem_of_getElem? (i := 115) rfl))) (mvT hZ (hw _ (List.mem_of_getElem? (i := 116) rfl))) (mvT hZ (hw _ (List.mem_of_getElem? (i := 117) rfl))) (mvT hZ (hw _ (List.mem_of_getElem? (i := 118) rfl))) (by decide) (backOf (W := 0) (rm15 l Z a0 hw [] b2 la8 zd kd (0 : Int32) h8 n0 (by omega) S_D Y12 Y13 Y14 Y15 Y11 Ea8 Y16 (by omega)) hZ (hw _ (List.mem_of_getElem? (i := 119) rfl)) (hw _ (List.mem_of_getElem? (i := 28) rfl)) (by decide) (by decide)) q10a q10b q10c (g := (mkF m 201 #[.val (.int p0), .val (.int p1), .val (.int p2), .val (.int p3), .val (.int p4), .val (.int p5), .val (.int p6), .val (.int p7), .val (.int p8), .val .null, .val (.ref r10), .val (.ref b1_0), .val (.ref b2), .unset, .unset, .unset, .unset] [(.ref la8), (.ref b2)])) rfl (by rw [hml]; rfl) (Steps.refl _) (argsL := [(.ref la8)]) (rest := []) (lenOf pd169N_2 rfl) rfl (by show 2 * 0 + _ ≤ _; exact Nat.le_of_eq rfl) (hb hby at_201) (fun vm₁ hvm => ⟨rfl, e8, (by decide : 13 + 1 ≤ _), (by decide : 148 + 10 ≤ _)⟩)
    dsimp only [Pt.U, Pt.locs, Pt.cells, Pt.slots] at X10 l10 y10 z10 st10 hQ10
    subst l10 y10 z10
    obtain ⟨b10_0, k10_0, rfl, N10q, K10, KF10, gb10_0, ltb10_0, Y10_0, Y10_1, Y10_2, Y10_3, Y10_4⟩ := hQ10
    have sz10 : h8.size ≤ T10.heap.size := K10.1
    have N10 := Fr.app N3 N10q
    refine GoW.trans st10 ?_
    show GoW p e below s _ _ _ (T10.setTop (mkF m 206 #[.val (.int p0), .val (.int p1), .val (.int p2), .val (.int p3), .val (.int p4), .val (.int p5), .val (.int p6), .val (.int p7), .val (.int p8), .val .null, .val (.ref r10), .val (.ref b1_0), .val (.ref b2), .unset, .unset, .unset, .unset] [(.int (1 : Int32))]))
    refine GoW.pre (st' := T10.setTop (mkF m 207 #[.val (.int p0), .val (.int p1), .val (.int p2), .val (.int p3), .val (.int p4), .val (.int p5), .val (.int p6), .val (.int p7), .val (.int p8), .val .null, .val (.ref r10), .val (.ref b1_0), .val (.ref b2), .unset, .unset, .unset, .unset] [])) (fun target kt => ?_) ?_
    · show Steps p.tables e below (T10.setTop (mkF m 206 #[.val (.int p0), .val (.int p1), .val (.int p2), .val (.int p3), .val (.int p4), .val (.int p5), .val (.int p6), .val (.int p7), .val (.int p8), .val .null, .val (.ref r10), .val (.ref b1_0), .val (.ref b2), .unset, .unset, .unset, .unset] [(.int (1 : Int32))])) _
      refine XS.pop X10.here hx rfl (hb hby at_206) rfl rfl ?_
      exact kt
    have Y17 : Old Z n0 T10.heap := (Y11.keep K10 (allS (by omega) all0))
    have Y18 : Arv Z T10.heap zd kd (.object "java/lang/Object") (0 : Int32) [] .null := (Y13.keep K10 (ninS (by show @Ne Nat zd b2; omega) nin0))
    exact blk207N ⟨hx, hZ, hby, hml, hown, hrt, hlk⟩ hw hS (by omega) (IB.sup hI (by simp)) hnS hkp (padS X10 (by decide) (by decide)) rfl N10 p0 p1 p2 p3 p4 p5 p6 p7 p8 r10 b1_0 b2 zc zd kd (by omega) h01 S_COMPACT hcs S_D Y18 Y17 hcw hheld
theorem pd169R_0 : parseMethodDescriptor "(C)Ljava/lang/String;" = some ⟨[.char], some (.object "java/lang/String")⟩ := by decide +kernel
theorem pd169R_1 : parseMethodDescriptor "()V" = some ⟨[], none⟩ := by decide +kernel
theorem pd169R_2 : parseMethodDescriptor "(Ljava/lang/Object;)Z" = some ⟨[(.object "java/lang/Object")], some .boolean⟩ := by decide +kernel
set_option maxRecDepth 65536 in
set_option maxHeartbeats 40000000 in
theorem blk169R {p : Program} {l : Launch} {e : Env} {s : State} {m : MethodId} {args : Array Value} {below : List Frame} {meth : Method} {c : Code} {Z : State} {a0 : Array Value} {T : State} {locs : List Loc} {h0 : Heap} {n0 : Nat} {vm0 : Vm} {k0 : Nat} (C : Ctx p (s.setVm vm0) m meth c Z code 17 "com/example/araucaria/araucaria/proto/ProtoFieldHasPresencePinLaw" (some .boolean)) (hw : ∀ d ∈ tables_1, d.before a0 Z = true) (hS : s.Since vm0 k0) (hk : k0 ≤ h0.size) (hI : IB Z vm0 ["map<string, Book>", ""]) (hnS : n0 = s.heap.size) (hkp : ∀ (b : Addr) (cl : Cell), Z.heap[b]? = some cl → s.heap[b]? = some cl)
    (X0 : Stand p l e room_1 (s.setVm vm0) m args below meth c T locs 8 92) (e0 : T.heap = h0) (N0 : Fr n0 locs) (p0 : Int32) (p1 : Int32) (p2 : Int32) (p3 : Int32) (p4 : Int32) (p5 : Int32) (p6 : Int32) (p7 : Int32) (p8 : Int32) (r9 : Addr) (r10 : Addr) (zc : Int32) (zd : Addr) (kd : ClassId) (Z0 : n0 ≤ h0.size) (h01 : p5 = (0 : Int32) ∨ p5 = (1 : Int32)) (S_COMPACT : Sta Z Z.heap "java/lang/String" "COMPACT_STRINGS" "Z" (.int zc)) (hcs : ¬ (zc = (0 : Int32))) (S_D : Sta Z Z.heap "java/util/ArrayList" "DEFAULTCAPACITY_EMPTY_ELEMENTDATA" "[Ljava/lang/Object;" (.ref zd)) (A_zd : Arv Z h0 zd kd (.object "java/lang/Object") (0 : Int32) [] .null) (Ol : Old Z n0 h0) (hcw : Jvm.Lit.compactW.before a0 Z = true) (hheld : ∀ q ∈ consts_1, Jvm.Lit.constHeld Z q.1 q.2) :
    GoW p e below s 40 3264 (fun v vm h L => v = some (.int 1) ∧ Fr n0 L) (T.setTop (mkF m 169 #[.val (.int p0), .val (.int p1), .val (.int p2), .val (.int p3), .val (.int p4), .val (.int p5), .val (.int p6), .val (.int p7), .val (.int p8), .val (.ref r9), .val (.ref r10), .unset, .unset, .unset, .unset, .unset, .unset] [])) := by
  obtain ⟨hx, hZ, hby, hml, hown, hrt, hlk⟩ := id C
  have lt_A_zd : LT.lt (α := Nat) zd h0.size := A_zd.lt
  refine GoW.pre (st' := T.setTop (mkF m 178 #[.val (.int p0), .val (.int p1), .val (.int p2), .val (.int p3), .val (.int p4), .val (.int p5), .val (.int p6), .val (.int p7), .val (.int p8), .val (.ref r9), .val (.ref r10), .unset, .unset, .unset, .unset, .unset, .unset] [(.int ((((p3.toUInt32 >>> ((8 : Int32) &&& 31).toUInt32).toInt32) &&& (255 : Int32)).toUInt32.toUInt16.toUInt32.toInt32))])) (fun target kt => ?_) ?_
  · show Steps p.tables e below (T.setTop (mkF m 169 #[.val (.int p0), .val (.int p1), .val (.int p2), .val (.int p3), .val (.int p4), .val (.int p5), .val (.int p6), .val (.int p7), .val (.int p8), .val (.ref r9), .val (.ref r10), .unset, .unset, .unset, .unset, .unset, .unset] [])) _
    refine XS.iloadN X0.here hx rfl (hb hby at_169) rfl ?_
    show Steps p.tables e below (T.setTop (mkF m 170 #[.val (.int p0), .val (.int p1), .val (.int p2), .val (.int p3), .val (.int p4), .val (.int p5), .val (.int p6), .val (.int p7), .val (.int p8), .val (.ref r9), .val (.ref r10), .unset, .unset, .unset, .unset, .unset, .unset] [(.int p3)])) _
    refine XS.bipush X0.here hx rfl (hb hby at_170) ?_
    show Steps p.tables e below (T.setTop (mkF m 172 #[.val (.int p0), .val (.int p1), .val (.int p2), .val (.int p3), .val (.int p4), .val (.int p5), .val (.int p6), .val (.int p7), .val (.int p8), .val (.ref r9), .val (.ref r10), .unset, .unset, .unset, .unset, .unset, .unset] [(.int (8 : Int32)), (.int p3)])) _
    refine XS.iushr X0.here hx rfl (hb hby at_172) rfl ?_
    show Steps p.tables e below (T.setTop (mkF m 173 #[.val (.int p0), .val (.int p1), .val (.int p2), .val (.int p3), .val (.int p4), .val (.int p5), .val (.int p6), .val (.int p7), .val (.int p8), .val (.ref r9), .val (.ref r10), .unset, .unset, .unset, .unset, .unset, .unset] [(.int ((p3.toUInt32 >>> ((8 : Int32) &&& 31).toUInt32).toInt32))])) _
    refine XS.sipush X0.here hx rfl (hb hby at_173) ?_
    show Steps p.tables e below (T.setTop (mkF m 176 #[.val (.int p0), .val (.int p1), .val (.int p2), .val (.int p3), .val (.int p4), .val (.int p5), .val (.int p6), .val (.int p7), .val (.int p8), .val (.ref r9), .val (.ref r10), .unset, .unset, .unset, .unset, .unset, .unset] [(.int (255 : Int32)), (.int ((p3.toUInt32 >>> ((8 : Int32) &&& 31).toUInt32).toInt32))])) _
    refine XS.iand X0.here hx rfl (hb hby at_176) rfl ?_
    show Steps p.tables e below (T.setTop (mkF m 177 #[.val (.int p0), .val (.int p1), .val (.int p2), .val (.int p3), .val (.int p4), .val (.int p5), .val (.int p6), .val (.int p7), .val (.int p8), .val (.ref r9), .val (.ref r10), .unset, .unset, .unset, .unset, .unset, .unset] [(.int (((p3.toUInt32 >>> ((8 : Int32) &&& 31).toUInt32).toInt32) &&& (255 : Int32)))])) _
    refine XS.i2c X0.here hx rfl (hb hby at_177) rfl ?_
    exact kt
  obtain ⟨_, _, ⟨T1, L1, k1, n1⟩, -, X1, ⟨Lc1, hQ1, l1, y1, z1⟩, st1⟩ := Jvm.LawKit.callS X0 hx (y := (⟨"java/lang/String", "valueOf", "(C)Ljava/lang/String;"⟩ : MethodName)) hown (mvT hZ (hw _ (List.mem_of_getElem? (i := 0) rfl))) (mvT hZ (hw _ (List.mem_of_getElem? (i := 1) rfl))) (mvT hZ (hw _ (List.mem_of_getElem? (i := 2) rfl))) (mvT hZ (hw _ (List.mem_of_getElem? (i := 3) rfl))) (by decide) (backOf (W := 0) (rm1 l Z a0 hw [] ((((p3.toUInt32 >>> ((8 : Int32) &&& 31).toUInt32).toInt32) &&& (255 : Int32)).toUInt32.toUInt16.toUInt32.toInt32) zc h0 n0 (by omega) S_COMPACT Ol (own_c255 _) hcs) hZ (hw _ (List.mem_of_getElem? (i := 3) rfl)) (hw _ (List.mem_of_getElem? (i := 2) rfl)) (by decide) (by decide)) (g := (mkF m 178 #[.val (.int p0), .val (.int p1), .val (.int p2), .val (.int p3), .val (.int p4), .val (.int p5), .val (.int p6), .val (.int p7), .val (.int p8), .val (.ref r9), .val (.ref r10), .unset, .unset, .unset, .unset, .unset, .unset] [(.int ((((p3.toUInt32 >>> ((8 : Int32) &&& 31).toUInt32).toInt32) &&& (255 : Int32)).toUInt32.toUInt16.toUInt32.toInt32))])) rfl (by rw [hml]; rfl) (argsL := [(.int ((((p3.toUInt32 >>> ((8 : Int32) &&& 31).toUInt32).toInt32) &&& (255 : Int32)).toUInt32.toUInt16.toUInt32.toInt32))]) (rest := []) (lenOf pd169R_0 rfl) rfl (by show 2 * 0 + _ ≤ _; exact Nat.le_of_eq rfl) (hb hby at_178) (fun vm₁ hvm => ⟨rfl, e0, (by decide : 8 + 2 ≤ _), (by decide : 92 + 5 ≤ _)⟩)
  dsimp only [Pt.U, Pt.locs, Pt.cells, Pt.slots] at X1 l1 y1 z1 st1 hQ1
  subst l1 y1 z1
  obtain ⟨b1_0, b1_1, k1_0, rfl, N1q, K1, KF1, gb1_0, ltb1_0, gb1_1, ltb1_1, lob1_1, Y1_0, Y1_1, Y1_2, Y1_3⟩ := hQ1
  have sz1 : h0.size ≤ T1.heap.size := K1.1
  have N1 := Fr.app N0 N1q
  refine GoW.pre st1 ?_
  show GoW p e below s _ _ _ (T1.setTop (mkF m 181 #[.val (.int p0), .val (.int p1), .val (.int p2), .val (.int p3), .val (.int p4), .val (.int p5), .val (.int p6), .val (.int p7), .val (.int p8), .val (.ref r9), .val (.ref r10), .unset, .unset, .unset, .unset, .unset, .unset] [(.ref b1_0)]))
  refine GoW.pre (st' := T1.setTop (mkF m 183 #[.val (.int p0), .val (.int p1), .val (.int p2), .val (.int p3), .val (.int p4), .val (.int p5), .val (.int p6), .val (.int p7), .val (.int p8), .val (.ref r9), .val (.ref r10), .val (.ref b1_0), .unset, .unset, .unset, .unset, .unset] [])) (fun target kt => ?_) ?_
  · show Steps p.tables e below (T1.setTop (mkF m 181 #[.val (.int p0), .val (.int p1), .val (.int p2), .val (.int p3), .val (.int p4), .val (.int p5), .val (.int p6), .val (.int p7), .val (.int p8), .val (.ref r9), .val (.ref r10), .unset, .unset, .unset, .unset, .unset, .unset] [(.ref b1_0)])) _
    refine XS.astore X1.here hx rfl (hb hby at_181) rfl rfl (l' := #[.val (.int p0), .val (.int p1), .val (.int p2), .val (.int p3), .val (.int p4), .val (.int p5), .val (.int p6), .val (.int p7), .val (.int p8), .val (.ref r9), .val (.ref r10), .val (.ref b1_0), .unset, .unset, .unset, .unset, .unset]) rfl ?_
    exact kt
  obtain ⟨T2, h2, X2, e2, E2, A2, D2, -, st2⟩ := newO X1 hx hZ hown (hw _ (List.mem_of_getElem? (i := 26) rfl)) (hw _ (List.mem_of_getElem? (i := 27) rfl)) (hw _ (List.mem_of_getElem? (i := 28) rfl)) rfl (g := (mkF m 183 #[.val (.int p0), .val (.int p1), .val (.int p2), .val (.int p3), .val (.int p4), .val (.int p5), .val (.int p6), .val (.int p7), .val (.int p8), .val (.ref r9), .val (.ref r10), .val (.ref b1_0), .unset, .unset, .unset, .unset, .unset] [])) rfl (hb hby at_183) (by decide) (by decide)
  obtain ⟨b2, g2⟩ : ∃ z, z = T1.heap.size := ⟨_, rfl⟩
  rw [← g2] at A2 D2 st2
  have sz2 : T1.heap.size ≤ h2.size := E2.1
  have lt2 : b2 < h2.size := A2.lt
  have F2_modCount : Fld Z h2 b2 "java/util/AbstractList" "modCount" "I" (.int (0 : Int32)) := D2 (Or.inl (hw _ (List.mem_of_getElem? (i := 46) rfl))) (ty := .int) (by decide)
  have F2_elementData : Fld Z h2 b2 "java/util/ArrayList" "elementData" "[Ljava/lang/Object;" .null := D2 (Or.inl (hw _ (List.mem_of_getElem? (i := 49) rfl))) (ty := (.array (.object "java/lang/Object"))) (by decide)
  have F2_size : Fld Z h2 b2 "java/util/ArrayList" "size" "I" (.int (0 : Int32)) := D2 (Or.inl (hw _ (List.mem_of_getElem? (i := 123) rfl))) (ty := .int) (by decide)
  refine GoW.pre st2 ?_
  show GoW p e below s _ _ _ (T2.setTop (mkF m 186 #[.val (.int p0), .val (.int p1), .val (.int p2), .val (.int p3), .val (.int p4), .val (.int p5), .val (.int p6), .val (.int p7), .val (.int p8), .val (.ref r9), .val (.ref r10), .val (.ref b1_0), .unset, .unset, .unset, .unset, .unset] [(.ref b2)]))
  refine GoW.pre (st' := T2.setTop (mkF m 187 #[.val (.int p0), .val (.int p1), .val (.int p2), .val (.int p3), .val (.int p4), .val (.int p5), .val (.int p6), .val (.int p7), .val (.int p8), .val (.ref r9), .val (.ref r10), .val (.ref b1_0), .unset, .unset, .unset, .unset, .unset] [(.ref b2), (.ref b2)])) (fun target kt => ?_) ?_
  · show Steps p.tables e below (T2.setTop (mkF m 186 #[.val (.int p0), .val (.int p1), .val (.int p2), .val (.int p3), .val (.int p4), .val (.int p5), .val (.int p6), .val (.int p7), .val (.int p8), .val (.ref r9), .val (.ref r10), .val (.ref b1_0), .unset, .unset, .unset, .unset, .unset] [(.ref b2)])) _
    refine XS.dup X2.here hx rfl (hb hby at_186) rfl rfl ?_
    exact kt
  have Y4 : Old Z n0 h2 := ((Ol.keep K1 all0).ext E2)
  obtain ⟨_, _, ⟨T3, L3, k3, n3⟩, -, X3, ⟨Lc3, hQ3, l3, y3, z3⟩, st3⟩ := X2.specialBack hx (y := (⟨"java/util/ArrayList", "<init>", "()V"⟩ : MethodName)) rfl hown (mvT hZ (hw _ (List.mem_of_getElem? (i := 29) rfl))) (mvT hZ (hw _ (List.mem_of_getElem? (i := 30) rfl))) (mvT hZ (hw _ (List.mem_of_getElem? (i := 31) rfl))) (by decide) (backOf (W := 1) (rm6 l Z a0 hw [] b2 (.int (0 : Int32)) zd .null h2 n0 (by omega) A2 F2_modCount (by omega) S_D Y4 F2_elementData) hZ (hw _ (List.mem_of_getElem? (i := 31) rfl)) (hw _ (List.mem_of_getElem? (i := 28) rfl)) (by decide) (by decide)) (g := (mkF m 187 #[.val (.int p0), .val (.int p1), .val (.int p2), .val (.int p3), .val (.int p4), .val (.int p5), .val (.int p6), .val (.int p7), .val (.int p8), .val (.ref r9), .val (.ref r10), .val (.ref b1_0), .unset, .unset, .unset, .unset, .unset] [(.ref b2), (.ref b2)])) rfl (by rw [hml]; rfl) (Steps.refl _) (a := b2) (argsL := []) (rest := [(.ref b2)]) (lenOf pd169R_1 rfl) rfl (by show 2 * 0 + _ ≤ _; exact Nat.le_of_eq rfl) (hb hby at_187) (fun vm₁ hvm => ⟨rfl, e2, (by decide : 11 + 0 ≤ _), (by decide : 100 + 0 ≤ _)⟩)
  dsimp only [Pt.U, Pt.locs, Pt.cells, Pt.slots] at X3 l3 y3 z3 st3 hQ3
  subst l3 y3 z3
  obtain ⟨rfl, N3q, K3, KF3, Y3_0, Y3_1⟩ := hQ3
  have sz3 : h2.size ≤ T3.heap.size := K3.1
  have N3 := Fr.app N1 N3q
  refine GoW.trans st3 ?_
  show GoW p e below s _ _ _ (T3.setTop (mkF m 190 #[.val (.int p0), .val (.int p1), .val (.int p2), .val (.int p3), .val (.int p4), .val (.int p5), .val (.int p6), .val (.int p7), .val (.int p8), .val (.ref r9), .val (.ref r10), .val (.ref b1_0), .unset, .unset, .unset, .unset, .unset] [(.ref b2)]))
  refine GoW.pre (st' := T3.setTop (mkF m 194 #[.val (.int p0), .val (.int p1), .val (.int p2), .val (.int p3), .val (.int p4), .val (.int p5), .val (.int p6), .val (.int p7), .val (.int p8), .val (.ref r9), .val (.ref r10), .val (.ref b1_0), .val (.ref b2), .unset, .unset, .unset, .unset] [(.int p8)])) (fun target kt => ?_) ?_
  · show Steps p.tables e below (T3.setTop (mkF m 190 #[.val (.int p0), .val (.int p1), .val (.int p2), .val (.int p3), .val (.int p4), .val (.int p5), .val (.int p6), .val (.int p7), .val (.int p8), .val (.ref r9), .val (.ref r10), .val (.ref b1_0), .unset, .unset, .unset, .unset, .unset] [(.ref b2)])) _
    refine XS.astore X3.here hx rfl (hb hby at_190) rfl rfl (l' := #[.val (.int p0), .val (.int p1), .val (.int p2), .val (.int p3), .val (.int p4), .val (.int p5), .val (.int p6), .val (.int p7), .val (.int p8), .val (.ref r9), .val (.ref r10), .val (.ref b1_0), .val (.ref b2), .unset, .unset, .unset, .unset]) rfl ?_
    show Steps p.tables e below (T3.setTop (mkF m 192 #[.val (.int p0), .val (.int p1), .val (.int p2), .val (.int p3), .val (.int p4), .val (.int p5), .val (.int p6), .val (.int p7), .val (.int p8), .val (.ref r9), .val (.ref r10), .val (.ref b1_0), .val (.ref b2), .unset, .unset, .unset, .unset] [])) _
    refine XS.iload X3.here hx rfl (hb hby at_192) rfl ?_
    exact kt
  by_cases h194_5 : p8 = (0 : Int32)
  · refine GoW.pre (st' := T3.setTop (mkF m 207 #[.val (.int p0), .val (.int p1), .val (.int p2), .val (.int p3), .val (.int p4), .val (.int p5), .val (.int p6), .val (.int p7), .val (.int p8), .val (.ref r9), .val (.ref r10), .val (.ref b1_0), .val (.ref b2), .unset, .unset, .unset, .unset] [])) (fun target kt => ?_) ?_
    · show Steps p.tables e below (T3.setTop (mkF m 194 #[.val (.int p0), .val (.int p1), .val (.int p2), .val (.int p3), .val (.int p4), .val (.int p5), .val (.int p6), .val (.int p7), .val (.int p8), .val (.ref r9), .val (.ref r10), .val (.ref b1_0), .val (.ref b2), .unset, .unset, .unset, .unset] [(.int p8)])) _
      refine XS.ifYes X3.here hx rfl (pc0 := 194) (pc' := 207) rfl (hb hby at_194) rfl ((if0 _ _).trans (teq h194_5).1) (by decide) (by decide) ?_
      exact kt
    have Y6 : Old Z n0 T3.heap := (Y4.keep K3 (allS (by omega) all0))
    have Y7 : Arv Z T3.heap zd kd (.object "java/lang/Object") (0 : Int32) [] .null := (((A_zd.keep K1 nin0).ext E2).keep K3 (ninS (by show @Ne Nat zd b2; omega) nin0))
    exact blk207R ⟨hx, hZ, hby, hml, hown, hrt, hlk⟩ hw hS (by omega) (IB.sup hI (by simp)) hnS hkp (padS X3 (by decide) (by decide)) rfl N3 p0 p1 p2 p3 p4 p5 p6 p7 p8 r9 r10 b1_0 b2 zc zd kd (by omega) h01 S_COMPACT hcs S_D Y7 Y6 hcw hheld
  · refine GoW.pre (st' := T3.setTop (mkF m 197 #[.val (.int p0), .val (.int p1), .val (.int p2), .val (.int p3), .val (.int p4), .val (.int p5), .val (.int p6), .val (.int p7), .val (.int p8), .val (.ref r9), .val (.ref r10), .val (.ref b1_0), .val (.ref b2), .unset, .unset, .unset, .unset] [])) (fun target kt => ?_) ?_
    · show Steps p.tables e below (T3.setTop (mkF m 194 #[.val (.int p0), .val (.int p1), .val (.int p2), .val (.int p3), .val (.int p4), .val (.int p5), .val (.int p6), .val (.int p7), .val (.int p8), .val (.ref r9), .val (.ref r10), .val (.ref b1_0), .val (.ref b2), .unset, .unset, .unset, .unset] [(.int p8)])) _
      refine XS.ifNo X3.here hx rfl (hb hby at_194) rfl ((if0 _ _).trans (feq h194_5).1) ?_
      exact kt
    refine GoW.pre (st' := T3.setTop (mkF m 199 #[.val (.int p0), .val (.int p1), .val (.int p2), .val (.int p3), .val (.int p4), .val (.int p5), .val (.int p6), .val (.int p7), .val (.int p8), .val (.ref r9), .val (.ref r10), .val (.ref b1_0), .val (.ref b2), .unset, .unset, .unset, .unset] [(.ref b2)])) (fun target kt => ?_) ?_
    · show Steps p.tables e below (T3.setTop (mkF m 197 #[.val (.int p0), .val (.int p1), .val (.int p2), .val (.int p3), .val (.int p4), .val (.int p5), .val (.int p6), .val (.int p7), .val (.int p8), .val (.ref r9), .val (.ref r10), .val (.ref b1_0), .val (.ref b2), .unset, .unset, .unset, .unset] [])) _
      refine XS.aload X3.here hx rfl (hb hby at_197) rfl rfl ?_
      exact kt
    have Y9 : Old Z n0 T3.heap := (Y4.keep K3 (allS (by omega) all0))
    obtain ⟨la8, T8, h8, kq8, b8, k8, X8, e8, E8, hS, hk, hZ, hown, Ea8, Fc8, Fv8, Va8, lt8, lu8, hI, Lt_la8, st8⟩ := ldcSVL X3 hx hZ hown (hw _ (List.mem_of_getElem? (i := 110) rfl)) (own_wS hw) rfl hS (by omega) (hnS ▸ N3) hkp hI (by decide) (hheld _ (List.mem_of_getElem? (i := 1) rfl)) hcw (vs := [(.int (79 : Int32)), (.int (85 : Int32)), (.int (84 : Int32)), (.int (80 : Int32)), (.int (85 : Int32)), (.int (84 : Int32)), (.int (95 : Int32)), (.int (79 : Int32)), (.int (78 : Int32)), (.int (76 : Int32)), (.int (89 : Int32))]) (z := (11 : Int32)) ⟨by decide, by decide⟩ (by decide) rfl (g := (mkF m 199 #[.val (.int p0), .val (.int p1), .val (.int p2), .val (.int p3), .val (.int p4), .val (.int p5), .val (.int p6), .val (.int p7), .val (.int p8), .val (.ref r9), .val (.ref r10), .val (.ref b1_0), .val (.ref b2), .unset, .unset, .unset, .unset] [(.ref b2)])) rfl (hb hby at_199) (n := 44) (by decide) (by decide) (by decide) (by decide)
    have sz8 : T3.heap.size ≤ h8.size := E8.1
    refine GoW.pre st8 ?_
    show GoW p e below s _ _ _ (T8.setTop (mkF m 201 #[.val (.int p0), .val (.int p1), .val (.int p2), .val (.int p3), .val (.int p4), .val (.int p5), .val (.int p6), .val (.int p7), .val (.int p8), .val (.ref r9), .val (.ref r10), .val (.ref b1_0), .val (.ref b2), .unset, .unset, .unset, .unset] [(.ref la8), (.ref b2)]))
    have Y11 : Old Z n0 h8 := (Y9.ext E8)
    have Y12 : Exa Z h8 b2 "java/util/ArrayList" := ((A2.keep K3).ext E8)
    have Y13 : Arv Z h8 zd kd (.object "java/lang/Object") (0 : Int32) [] .null := ((((A_zd.keep K1 nin0).ext E2).keep K3 (ninS (by show @Ne Nat zd b2; omega) nin0)).ext E8)
    have Y14 : Fld Z h8 b2 "java/util/ArrayList" "elementData" "[Ljava/lang/Object;" (.ref zd) := (Y3_1.ext E8)
    have Y15 : Fld Z h8 b2 "java/util/ArrayList" "size" "I" (.int (0 : Int32)) := ((KF3 _ _ _ _ _ F2_size (pallS (Or.inr (slot_ne (Or.inl (hw _ (List.mem_of_getElem? (i := 123) rfl))) (Or.inl (hw _ (List.mem_of_getElem? (i := 46) rfl))) (by decide) (t := .int) (t' := .int) (by decide) (by decide))) (pallS (Or.inr (slot_ne (Or.inl (hw _ (List.mem_of_getElem? (i := 123) rfl))) (Or.inl (hw _ (List.mem_of_getElem? (i := 49) rfl))) (by decide) (t := .int) (t' := (.array (.object "java/lang/Object"))) (by decide) (by decide))) pall0))).ext E8)
    have Y16 : Fld Z h8 b2 "java/util/AbstractList" "modCount" "I" (.int (0 : Int32)) := (Y3_0.ext E8)
    obtain ⟨cq10, kq10, q10a, q10b, q10c⟩ := isOf hZ e8 Y12
    obtain ⟨_, _, ⟨T10, L10, k10, n10⟩, -, X10, ⟨Lc10, hQ10, l10, y10, z10⟩, st10⟩ := X8.interfaceBack hx (xi := (⟨"java/util/List", "add", "(Ljava/lang/Object;)Z"⟩ : MethodName)) (y := (⟨"java/util/ArrayList", "add", "(Ljava/lang/Object;)Z"⟩ : MethodName)) hown (mvT hZ (hw _ (List.mem_of_getElem? (i := 111) rfl))) (mvT hZ (hw _ (List.mem_of_getElem? (i := 112) rfl))) (mvT hZ (hw _ (List.mem_of_getElem? (i := 113) rfl))) (mvT hZ (hw _ (List.mem_of_getElem? (i := 114) rfl))) (mvT hZ (hw _ (List.mem_of_getElem? (i := 115) rfl))) (mvT hZ (hw _ (List.mem_of_getElem? (i := 116) rfl))) (mvT hZ (hw _ (List.mem_of_getElem? (i := 117) rfl))) (mvT hZ (hw _ (List.mem_of_getElem? (i := 118) rfl))) (by decide) (backOf (W := 0) (rm15 l Z a0 hw [] b2 la8 zd kd (0 : Int32) h8 n0 (by omega) S_D Y12 Y13 Y14 Y15 Y11 Ea8 Y16 (by omega)) hZ (hw _ (List.mem_of_getElem? (i := 119) rfl)) (hw _ (List.mem_of_getElem? (i := 28) rfl)) (by decide) (by decide)) q10a q10b q10c (g := (mkF m 201 #[.val (.int p0), .val (.int p1), .val (.int p2), .val (.int p3), .val (.int p4), .val (.int p5), .val (.int p6), .val (.int p7), .val (.int p8), .val (.ref r9), .val (.ref r10), .val (.ref b1_0), .val (.ref b2), .unset, .unset, .unset, .unset] [(.ref la8), (.ref b2)])) rfl (by rw [hml]; rfl) (Steps.refl _) (argsL := [(.ref la8)]) (rest := []) (lenOf pd169R_2 rfl) rfl (by show 2 * 0 + _ ≤ _; exact Nat.le_of_eq rfl) (hb hby at_201) (fun vm₁ hvm => ⟨rfl, e8, (by decide : 13 + 1 ≤ _), (by decide : 148 + 10 ≤ _)⟩)
    dsimp only [Pt.U, Pt.locs, Pt.cells, Pt.slots] at X10 l10 y10 z10 st10 hQ10
    subst l10 y10 z10
    obtain ⟨b10_0, k10_0, rfl, N10q, K10, KF10, gb10_0, ltb10_0, Y10_0, Y10_1, Y10_2, Y10_3, Y10_4⟩ := hQ10
    have sz10 : h8.size ≤ T10.heap.size := K10.1
    have N10 := Fr.app N3 N10q
    refine GoW.trans st10 ?_
    show GoW p e below s _ _ _ (T10.setTop (mkF m 206 #[.val (.int p0), .val (.int p1), .val (.int p2), .val (.int p3), .val (.int p4), .val (.int p5), .val (.int p6), .val (.int p7), .val (.int p8), .val (.ref r9), .val (.ref r10), .val (.ref b1_0), .val (.ref b2), .unset, .unset, .unset, .unset] [(.int (1 : Int32))]))
    refine GoW.pre (st' := T10.setTop (mkF m 207 #[.val (.int p0), .val (.int p1), .val (.int p2), .val (.int p3), .val (.int p4), .val (.int p5), .val (.int p6), .val (.int p7), .val (.int p8), .val (.ref r9), .val (.ref r10), .val (.ref b1_0), .val (.ref b2), .unset, .unset, .unset, .unset] [])) (fun target kt => ?_) ?_
    · show Steps p.tables e below (T10.setTop (mkF m 206 #[.val (.int p0), .val (.int p1), .val (.int p2), .val (.int p3), .val (.int p4), .val (.int p5), .val (.int p6), .val (.int p7), .val (.int p8), .val (.ref r9), .val (.ref r10), .val (.ref b1_0), .val (.ref b2), .unset, .unset, .unset, .unset] [(.int (1 : Int32))])) _
      refine XS.pop X10.here hx rfl (hb hby at_206) rfl rfl ?_
      exact kt
    have Y17 : Old Z n0 T10.heap := (Y11.keep K10 (allS (by omega) all0))
    have Y18 : Arv Z T10.heap zd kd (.object "java/lang/Object") (0 : Int32) [] .null := (Y13.keep K10 (ninS (by show @Ne Nat zd b2; omega) nin0))
    exact blk207R ⟨hx, hZ, hby, hml, hown, hrt, hlk⟩ hw hS (by omega) (IB.sup hI (by simp)) hnS hkp (padS X10 (by decide) (by decide)) rfl N10 p0 p1 p2 p3 p4 p5 p6 p7 p8 r9 r10 b1_0 b2 zc zd kd (by omega) h01 S_COMPACT hcs S_D Y18 Y17 hcw hheld
theorem pd146N_0 : parseMethodDescriptor "(C)Ljava/lang/String;" = some ⟨[.char], some (.object "java/lang/String")⟩ := by decide +kernel
set_option maxRecDepth 65536 in
set_option maxHeartbeats 40000000 in
theorem blk146N {p : Program} {l : Launch} {e : Env} {s : State} {m : MethodId} {args : Array Value} {below : List Frame} {meth : Method} {c : Code} {Z : State} {a0 : Array Value} {T : State} {locs : List Loc} {h0 : Heap} {n0 : Nat} {vm0 : Vm} {k0 : Nat} (C : Ctx p (s.setVm vm0) m meth c Z code 17 "com/example/araucaria/araucaria/proto/ProtoFieldHasPresencePinLaw" (some .boolean)) (hw : ∀ d ∈ tables_1, d.before a0 Z = true) (hS : s.Since vm0 k0) (hk : k0 ≤ h0.size) (hI : IB Z vm0 [""]) (hnS : n0 = s.heap.size) (hkp : ∀ (b : Addr) (cl : Cell), Z.heap[b]? = some cl → s.heap[b]? = some cl)
    (X0 : Stand p l e room_1 (s.setVm vm0) m args below meth c T locs 6 20) (e0 : T.heap = h0) (N0 : Fr n0 locs) (p0 : Int32) (p1 : Int32) (p2 : Int32) (p3 : Int32) (p4 : Int32) (p5 : Int32) (p6 : Int32) (p7 : Int32) (p8 : Int32) (zc : Int32) (zd : Addr) (kd : ClassId) (Z0 : n0 ≤ h0.size) (h01 : p5 = (0 : Int32) ∨ p5 = (1 : Int32)) (S_COMPACT : Sta Z Z.heap "java/lang/String" "COMPACT_STRINGS" "Z" (.int zc)) (hcs : ¬ (zc = (0 : Int32))) (S_D : Sta Z Z.heap "java/util/ArrayList" "DEFAULTCAPACITY_EMPTY_ELEMENTDATA" "[Ljava/lang/Object;" (.ref zd)) (A_zd : Arv Z h0 zd kd (.object "java/lang/Object") (0 : Int32) [] .null) (Ol : Old Z n0 h0) (hcw : Jvm.Lit.compactW.before a0 Z = true) (hheld : ∀ q ∈ consts_1, Jvm.Lit.constHeld Z q.1 q.2) :
    GoW p e below s 40 3264 (fun v vm h L => v = some (.int 1) ∧ Fr n0 L) (T.setTop (mkF m 146 #[.val (.int p0), .val (.int p1), .val (.int p2), .val (.int p3), .val (.int p4), .val (.int p5), .val (.int p6), .val (.int p7), .val (.int p8), .val .null, .unset, .unset, .unset, .unset, .unset, .unset, .unset] [])) := by
  obtain ⟨hx, hZ, hby, hml, hown, hrt, hlk⟩ := id C
  have lt_A_zd : LT.lt (α := Nat) zd h0.size := A_zd.lt
  refine GoW.pre (st' := T.setTop (mkF m 148 #[.val (.int p0), .val (.int p1), .val (.int p2), .val (.int p3), .val (.int p4), .val (.int p5), .val (.int p6), .val (.int p7), .val (.int p8), .val .null, .unset, .unset, .unset, .unset, .unset, .unset, .unset] [(.int p7)])) (fun target kt => ?_) ?_
  · show Steps p.tables e below (T.setTop (mkF m 146 #[.val (.int p0), .val (.int p1), .val (.int p2), .val (.int p3), .val (.int p4), .val (.int p5), .val (.int p6), .val (.int p7), .val (.int p8), .val .null, .unset, .unset, .unset, .unset, .unset, .unset, .unset] [])) _
    refine XS.iload X0.here hx rfl (hb hby at_146) rfl ?_
    exact kt
  by_cases h148_1 : p7 = (0 : Int32)
  · refine GoW.pre (st' := T.setTop (mkF m 158 #[.val (.int p0), .val (.int p1), .val (.int p2), .val (.int p3), .val (.int p4), .val (.int p5), .val (.int p6), .val (.int p7), .val (.int p8), .val .null, .unset, .unset, .unset, .unset, .unset, .unset, .unset] [])) (fun target kt => ?_) ?_
    · show Steps p.tables e below (T.setTop (mkF m 148 #[.val (.int p0), .val (.int p1), .val (.int p2), .val (.int p3), .val (.int p4), .val (.int p5), .val (.int p6), .val (.int p7), .val (.int p8), .val .null, .unset, .unset, .unset, .unset, .unset, .unset, .unset] [(.int p7)])) _
      refine XS.ifYes X0.here hx rfl (pc0 := 148) (pc' := 158) rfl (hb hby at_148) rfl ((if0 _ _).trans (teq h148_1).1) (by decide) (by decide) ?_
      exact kt
    refine GoW.pre (st' := T.setTop (mkF m 164 #[.val (.int p0), .val (.int p1), .val (.int p2), .val (.int p3), .val (.int p4), .val (.int p5), .val (.int p6), .val (.int p7), .val (.int p8), .val .null, .unset, .unset, .unset, .unset, .unset, .unset, .unset] [(.int ((p3 &&& (255 : Int32)).toUInt32.toUInt16.toUInt32.toInt32))])) (fun target kt => ?_) ?_
    · show Steps p.tables e below (T.setTop (mkF m 158 #[.val (.int p0), .val (.int p1), .val (.int p2), .val (.int p3), .val (.int p4), .val (.int p5), .val (.int p6), .val (.int p7), .val (.int p8), .val .null, .unset, .unset, .unset, .unset, .unset, .unset, .unset] [])) _
      refine XS.iloadN X0.here hx rfl (hb hby at_158) rfl ?_
      show Steps p.tables e below (T.setTop (mkF m 159 #[.val (.int p0), .val (.int p1), .val (.int p2), .val (.int p3), .val (.int p4), .val (.int p5), .val (.int p6), .val (.int p7), .val (.int p8), .val .null, .unset, .unset, .unset, .unset, .unset, .unset, .unset] [(.int p3)])) _
      refine XS.sipush X0.here hx rfl (hb hby at_159) ?_
      show Steps p.tables e below (T.setTop (mkF m 162 #[.val (.int p0), .val (.int p1), .val (.int p2), .val (.int p3), .val (.int p4), .val (.int p5), .val (.int p6), .val (.int p7), .val (.int p8), .val .null, .unset, .unset, .unset, .unset, .unset, .unset, .unset] [(.int (255 : Int32)), (.int p3)])) _
      refine XS.iand X0.here hx rfl (hb hby at_162) rfl ?_
      show Steps p.tables e below (T.setTop (mkF m 163 #[.val (.int p0), .val (.int p1), .val (.int p2), .val (.int p3), .val (.int p4), .val (.int p5), .val (.int p6), .val (.int p7), .val (.int p8), .val .null, .unset, .unset, .unset, .unset, .unset, .unset, .unset] [(.int (p3 &&& (255 : Int32)))])) _
      refine XS.i2c X0.here hx rfl (hb hby at_163) rfl ?_
      exact kt
    obtain ⟨_, _, ⟨T2, L2, k2, n2⟩, -, X2, ⟨Lc2, hQ2, l2, y2, z2⟩, st2⟩ := Jvm.LawKit.callS X0 hx (y := (⟨"java/lang/String", "valueOf", "(C)Ljava/lang/String;"⟩ : MethodName)) hown (mvT hZ (hw _ (List.mem_of_getElem? (i := 0) rfl))) (mvT hZ (hw _ (List.mem_of_getElem? (i := 1) rfl))) (mvT hZ (hw _ (List.mem_of_getElem? (i := 2) rfl))) (mvT hZ (hw _ (List.mem_of_getElem? (i := 3) rfl))) (by decide) (backOf (W := 0) (rm1 l Z a0 hw [] ((p3 &&& (255 : Int32)).toUInt32.toUInt16.toUInt32.toInt32) zc h0 n0 (by omega) S_COMPACT Ol (own_c255 _) hcs) hZ (hw _ (List.mem_of_getElem? (i := 3) rfl)) (hw _ (List.mem_of_getElem? (i := 2) rfl)) (by decide) (by decide)) (g := (mkF m 164 #[.val (.int p0), .val (.int p1), .val (.int p2), .val (.int p3), .val (.int p4), .val (.int p5), .val (.int p6), .val (.int p7), .val (.int p8), .val .null, .unset, .unset, .unset, .unset, .unset, .unset, .unset] [(.int ((p3 &&& (255 : Int32)).toUInt32.toUInt16.toUInt32.toInt32))])) rfl (by rw [hml]; rfl) (argsL := [(.int ((p3 &&& (255 : Int32)).toUInt32.toUInt16.toUInt32.toInt32))]) (rest := []) (lenOf pd146N_0 rfl) rfl (by show 2 * 0 + _ ≤ _; exact Nat.le_of_eq rfl) (hb hby at_164) (fun vm₁ hvm => ⟨rfl, e0, (by decide : 6 + 2 ≤ _), (by decide : 20 + 5 ≤ _)⟩)
    dsimp only [Pt.U, Pt.locs, Pt.cells, Pt.slots] at X2 l2 y2 z2 st2 hQ2
    subst l2 y2 z2
    obtain ⟨b2_0, b2_1, k2_0, rfl, N2q, K2, KF2, gb2_0, ltb2_0, gb2_1, ltb2_1, lob2_1, Y2_0, Y2_1, Y2_2, Y2_3⟩ := hQ2
    have sz2 : h0.size ≤ T2.heap.size := K2.1
    have N2 := Fr.app N0 N2q
    refine GoW.pre st2 ?_
    show GoW p e below s _ _ _ (T2.setTop (mkF m 167 #[.val (.int p0), .val (.int p1), .val (.int p2), .val (.int p3), .val (.int p4), .val (.int p5), .val (.int p6), .val (.int p7), .val (.int p8), .val .null, .unset, .unset, .unset, .unset, .unset, .unset, .unset] [(.ref b2_0)]))
    refine GoW.pre (st' := T2.setTop (mkF m 169 #[.val (.int p0), .val (.int p1), .val (.int p2), .val (.int p3), .val (.int p4), .val (.int p5), .val (.int p6), .val (.int p7), .val (.int p8), .val .null, .val (.ref b2_0), .unset, .unset, .unset, .unset, .unset, .unset] [])) (fun target kt => ?_) ?_
    · show Steps p.tables e below (T2.setTop (mkF m 167 #[.val (.int p0), .val (.int p1), .val (.int p2), .val (.int p3), .val (.int p4), .val (.int p5), .val (.int p6), .val (.int p7), .val (.int p8), .val .null, .unset, .unset, .unset, .unset, .unset, .unset, .unset] [(.ref b2_0)])) _
      refine XS.astore X2.here hx rfl (hb hby at_167) rfl rfl (l' := #[.val (.int p0), .val (.int p1), .val (.int p2), .val (.int p3), .val (.int p4), .val (.int p5), .val (.int p6), .val (.int p7), .val (.int p8), .val .null, .val (.ref b2_0), .unset, .unset, .unset, .unset, .unset, .unset]) rfl ?_
      exact kt
    have Y3 : Old Z n0 T2.heap := (Ol.keep K2 all0)
    have Y4 : Arv Z T2.heap zd kd (.object "java/lang/Object") (0 : Int32) [] .null := (A_zd.keep K2 nin0)
    exact blk169N ⟨hx, hZ, hby, hml, hown, hrt, hlk⟩ hw hS (by omega) (IB.sup hI (by simp)) hnS hkp (padS X2 (by decide) (by decide)) rfl N2 p0 p1 p2 p3 p4 p5 p6 p7 p8 b2_0 zc zd kd (by omega) h01 S_COMPACT hcs S_D Y4 Y3 hcw hheld
  · refine GoW.pre (st' := T.setTop (mkF m 151 #[.val (.int p0), .val (.int p1), .val (.int p2), .val (.int p3), .val (.int p4), .val (.int p5), .val (.int p6), .val (.int p7), .val (.int p8), .val .null, .unset, .unset, .unset, .unset, .unset, .unset, .unset] [])) (fun target kt => ?_) ?_
    · show Steps p.tables e below (T.setTop (mkF m 148 #[.val (.int p0), .val (.int p1), .val (.int p2), .val (.int p3), .val (.int p4), .val (.int p5), .val (.int p6), .val (.int p7), .val (.int p8), .val .null, .unset, .unset, .unset, .unset, .unset, .unset, .unset] [(.int p7)])) _
      refine XS.ifNo X0.here hx rfl (hb hby at_148) rfl ((if0 _ _).trans (feq h148_1).1) ?_
      exact kt
    obtain ⟨la5, T5, h5, kq5, b5, k5, X5, e5, E5, hS, hk, hZ, hown, Ea5, Fc5, Fv5, Va5, lt5, lu5, hI, Lt_la5, st5⟩ := ldcSVL X0 hx hZ hown (hw _ (List.mem_of_getElem? (i := 109) rfl)) (own_wS hw) e0 hS (by omega) (hnS ▸ N0) hkp hI (by decide) (hheld _ (List.mem_of_getElem? (i := 0) rfl)) hcw (vs := [(.int (109 : Int32)), (.int (97 : Int32)), (.int (112 : Int32)), (.int (60 : Int32)), (.int (115 : Int32)), (.int (116 : Int32)), (.int (114 : Int32)), (.int (105 : Int32)), (.int (110 : Int32)), (.int (103 : Int32)), (.int (44 : Int32)), (.int (32 : Int32)), (.int (66 : Int32)), (.int (111 : Int32)), (.int (111 : Int32)), (.int (107 : Int32)), (.int (62 : Int32))]) (z := (17 : Int32)) ⟨by decide, by decide⟩ (by decide) rfl (g := (mkF m 151 #[.val (.int p0), .val (.int p1), .val (.int p2), .val (.int p3), .val (.int p4), .val (.int p5), .val (.int p6), .val (.int p7), .val (.int p8), .val .null, .unset, .unset, .unset, .unset, .unset, .unset, .unset] [])) rfl (hb hby at_151) (n := 68) (by decide) (by decide) (by decide) (by decide)
    have sz5 : h0.size ≤ h5.size := E5.1
    refine GoW.pre st5 ?_
    show GoW p e below s _ _ _ (T5.setTop (mkF m 153 #[.val (.int p0), .val (.int p1), .val (.int p2), .val (.int p3), .val (.int p4), .val (.int p5), .val (.int p6), .val (.int p7), .val (.int p8), .val .null, .unset, .unset, .unset, .unset, .unset, .unset, .unset] [(.ref la5)]))
    refine GoW.pre (st' := T5.setTop (mkF m 169 #[.val (.int p0), .val (.int p1), .val (.int p2), .val (.int p3), .val (.int p4), .val (.int p5), .val (.int p6), .val (.int p7), .val (.int p8), .val .null, .val (.ref la5), .unset, .unset, .unset, .unset, .unset, .unset] [])) (fun target kt => ?_) ?_
    · show Steps p.tables e below (T5.setTop (mkF m 153 #[.val (.int p0), .val (.int p1), .val (.int p2), .val (.int p3), .val (.int p4), .val (.int p5), .val (.int p6), .val (.int p7), .val (.int p8), .val .null, .unset, .unset, .unset, .unset, .unset, .unset, .unset] [(.ref la5)])) _
      refine XS.astore X5.here hx rfl (hb hby at_153) rfl rfl (l' := #[.val (.int p0), .val (.int p1), .val (.int p2), .val (.int p3), .val (.int p4), .val (.int p5), .val (.int p6), .val (.int p7), .val (.int p8), .val .null, .val (.ref la5), .unset, .unset, .unset, .unset, .unset, .unset]) rfl ?_
      show Steps p.tables e below (T5.setTop (mkF m 155 #[.val (.int p0), .val (.int p1), .val (.int p2), .val (.int p3), .val (.int p4), .val (.int p5), .val (.int p6), .val (.int p7), .val (.int p8), .val .null, .val (.ref la5), .unset, .unset, .unset, .unset, .unset, .unset] [])) _
      refine XS.goto X5.here hx rfl (pc0 := 155) (pc' := 169) rfl (hb hby at_155) (by decide) (by decide) ?_
      exact kt
    have Y6 : Old Z n0 h5 := (Ol.ext E5)
    have Y7 : Arv Z h5 zd kd (.object "java/lang/Object") (0 : Int32) [] .null := (A_zd.ext E5)
    exact blk169N ⟨hx, hZ, hby, hml, hown, hrt, hlk⟩ hw hS (by omega) (IB.sup hI (by simp)) hnS hkp X5 e5 N0 p0 p1 p2 p3 p4 p5 p6 p7 p8 la5 zc zd kd (by omega) h01 S_COMPACT hcs S_D Y7 Y6 hcw hheld
theorem pd146R_0 : parseMethodDescriptor "(C)Ljava/lang/String;" = some ⟨[.char], some (.object "java/lang/String")⟩ := by decide +kernel
set_option maxRecDepth 65536 in
set_option maxHeartbeats 40000000 in
theorem blk146R {p : Program} {l : Launch} {e : Env} {s : State} {m : MethodId} {args : Array Value} {below : List Frame} {meth : Method} {c : Code} {Z : State} {a0 : Array Value} {T : State} {locs : List Loc} {h0 : Heap} {n0 : Nat} {vm0 : Vm} {k0 : Nat} (C : Ctx p (s.setVm vm0) m meth c Z code 17 "com/example/araucaria/araucaria/proto/ProtoFieldHasPresencePinLaw" (some .boolean)) (hw : ∀ d ∈ tables_1, d.before a0 Z = true) (hS : s.Since vm0 k0) (hk : k0 ≤ h0.size) (hI : IB Z vm0 [""]) (hnS : n0 = s.heap.size) (hkp : ∀ (b : Addr) (cl : Cell), Z.heap[b]? = some cl → s.heap[b]? = some cl)
    (X0 : Stand p l e room_1 (s.setVm vm0) m args below meth c T locs 6 20) (e0 : T.heap = h0) (N0 : Fr n0 locs) (p0 : Int32) (p1 : Int32) (p2 : Int32) (p3 : Int32) (p4 : Int32) (p5 : Int32) (p6 : Int32) (p7 : Int32) (p8 : Int32) (r9 : Addr) (zc : Int32) (zd : Addr) (kd : ClassId) (Z0 : n0 ≤ h0.size) (h01 : p5 = (0 : Int32) ∨ p5 = (1 : Int32)) (S_COMPACT : Sta Z Z.heap "java/lang/String" "COMPACT_STRINGS" "Z" (.int zc)) (hcs : ¬ (zc = (0 : Int32))) (S_D : Sta Z Z.heap "java/util/ArrayList" "DEFAULTCAPACITY_EMPTY_ELEMENTDATA" "[Ljava/lang/Object;" (.ref zd)) (A_zd : Arv Z h0 zd kd (.object "java/lang/Object") (0 : Int32) [] .null) (Ol : Old Z n0 h0) (hcw : Jvm.Lit.compactW.before a0 Z = true) (hheld : ∀ q ∈ consts_1, Jvm.Lit.constHeld Z q.1 q.2) :
    GoW p e below s 40 3264 (fun v vm h L => v = some (.int 1) ∧ Fr n0 L) (T.setTop (mkF m 146 #[.val (.int p0), .val (.int p1), .val (.int p2), .val (.int p3), .val (.int p4), .val (.int p5), .val (.int p6), .val (.int p7), .val (.int p8), .val (.ref r9), .unset, .unset, .unset, .unset, .unset, .unset, .unset] [])) := by
  obtain ⟨hx, hZ, hby, hml, hown, hrt, hlk⟩ := id C
  have lt_A_zd : LT.lt (α := Nat) zd h0.size := A_zd.lt
  refine GoW.pre (st' := T.setTop (mkF m 148 #[.val (.int p0), .val (.int p1), .val (.int p2), .val (.int p3), .val (.int p4), .val (.int p5), .val (.int p6), .val (.int p7), .val (.int p8), .val (.ref r9), .unset, .unset, .unset, .unset, .unset, .unset, .unset] [(.int p7)])) (fun target kt => ?_) ?_
  · show Steps p.tables e below (T.setTop (mkF m 146 #[.val (.int p0), .val (.int p1), .val (.int p2), .val (.int p3), .val (.int p4), .val (.int p5), .val (.int p6), .val (.int p7), .val (.int p8), .val (.ref r9), .unset, .unset, .unset, .unset, .unset, .unset, .unset] [])) _
    refine XS.iload X0.here hx rfl (hb hby at_146) rfl ?_
    exact kt
  by_cases h148_1 : p7 = (0 : Int32)
  · refine GoW.pre (st' := T.setTop (mkF m 158 #[.val (.int p0), .val (.int p1), .val (.int p2), .val (.int p3), .val (.int p4), .val (.int p5), .val (.int p6), .val (.int p7), .val (.int p8), .val (.ref r9), .unset, .unset, .unset, .unset, .unset, .unset, .unset] [])) (fun target kt => ?_) ?_
    · show Steps p.tables e below (T.setTop (mkF m 148 #[.val (.int p0), .val (.int p1), .val (.int p2), .val (.int p3), .val (.int p4), .val (.int p5), .val (.int p6), .val (.int p7), .val (.int p8), .val (.ref r9), .unset, .unset, .unset, .unset, .unset, .unset, .unset] [(.int p7)])) _
      refine XS.ifYes X0.here hx rfl (pc0 := 148) (pc' := 158) rfl (hb hby at_148) rfl ((if0 _ _).trans (teq h148_1).1) (by decide) (by decide) ?_
      exact kt
    refine GoW.pre (st' := T.setTop (mkF m 164 #[.val (.int p0), .val (.int p1), .val (.int p2), .val (.int p3), .val (.int p4), .val (.int p5), .val (.int p6), .val (.int p7), .val (.int p8), .val (.ref r9), .unset, .unset, .unset, .unset, .unset, .unset, .unset] [(.int ((p3 &&& (255 : Int32)).toUInt32.toUInt16.toUInt32.toInt32))])) (fun target kt => ?_) ?_
    · show Steps p.tables e below (T.setTop (mkF m 158 #[.val (.int p0), .val (.int p1), .val (.int p2), .val (.int p3), .val (.int p4), .val (.int p5), .val (.int p6), .val (.int p7), .val (.int p8), .val (.ref r9), .unset, .unset, .unset, .unset, .unset, .unset, .unset] [])) _
      refine XS.iloadN X0.here hx rfl (hb hby at_158) rfl ?_
      show Steps p.tables e below (T.setTop (mkF m 159 #[.val (.int p0), .val (.int p1), .val (.int p2), .val (.int p3), .val (.int p4), .val (.int p5), .val (.int p6), .val (.int p7), .val (.int p8), .val (.ref r9), .unset, .unset, .unset, .unset, .unset, .unset, .unset] [(.int p3)])) _
      refine XS.sipush X0.here hx rfl (hb hby at_159) ?_
      show Steps p.tables e below (T.setTop (mkF m 162 #[.val (.int p0), .val (.int p1), .val (.int p2), .val (.int p3), .val (.int p4), .val (.int p5), .val (.int p6), .val (.int p7), .val (.int p8), .val (.ref r9), .unset, .unset, .unset, .unset, .unset, .unset, .unset] [(.int (255 : Int32)), (.int p3)])) _
      refine XS.iand X0.here hx rfl (hb hby at_162) rfl ?_
      show Steps p.tables e below (T.setTop (mkF m 163 #[.val (.int p0), .val (.int p1), .val (.int p2), .val (.int p3), .val (.int p4), .val (.int p5), .val (.int p6), .val (.int p7), .val (.int p8), .val (.ref r9), .unset, .unset, .unset, .unset, .unset, .unset, .unset] [(.int (p3 &&& (255 : Int32)))])) _
      refine XS.i2c X0.here hx rfl (hb hby at_163) rfl ?_
      exact kt
    obtain ⟨_, _, ⟨T2, L2, k2, n2⟩, -, X2, ⟨Lc2, hQ2, l2, y2, z2⟩, st2⟩ := Jvm.LawKit.callS X0 hx (y := (⟨"java/lang/String", "valueOf", "(C)Ljava/lang/String;"⟩ : MethodName)) hown (mvT hZ (hw _ (List.mem_of_getElem? (i := 0) rfl))) (mvT hZ (hw _ (List.mem_of_getElem? (i := 1) rfl))) (mvT hZ (hw _ (List.mem_of_getElem? (i := 2) rfl))) (mvT hZ (hw _ (List.mem_of_getElem? (i := 3) rfl))) (by decide) (backOf (W := 0) (rm1 l Z a0 hw [] ((p3 &&& (255 : Int32)).toUInt32.toUInt16.toUInt32.toInt32) zc h0 n0 (by omega) S_COMPACT Ol (own_c255 _) hcs) hZ (hw _ (List.mem_of_getElem? (i := 3) rfl)) (hw _ (List.mem_of_getElem? (i := 2) rfl)) (by decide) (by decide)) (g := (mkF m 164 #[.val (.int p0), .val (.int p1), .val (.int p2), .val (.int p3), .val (.int p4), .val (.int p5), .val (.int p6), .val (.int p7), .val (.int p8), .val (.ref r9), .unset, .unset, .unset, .unset, .unset, .unset, .unset] [(.int ((p3 &&& (255 : Int32)).toUInt32.toUInt16.toUInt32.toInt32))])) rfl (by rw [hml]; rfl) (argsL := [(.int ((p3 &&& (255 : Int32)).toUInt32.toUInt16.toUInt32.toInt32))]) (rest := []) (lenOf pd146R_0 rfl) rfl (by show 2 * 0 + _ ≤ _; exact Nat.le_of_eq rfl) (hb hby at_164) (fun vm₁ hvm => ⟨rfl, e0, (by decide : 6 + 2 ≤ _), (by decide : 20 + 5 ≤ _)⟩)
    dsimp only [Pt.U, Pt.locs, Pt.cells, Pt.slots] at X2 l2 y2 z2 st2 hQ2
    subst l2 y2 z2
    obtain ⟨b2_0, b2_1, k2_0, rfl, N2q, K2, KF2, gb2_0, ltb2_0, gb2_1, ltb2_1, lob2_1, Y2_0, Y2_1, Y2_2, Y2_3⟩ := hQ2
    have sz2 : h0.size ≤ T2.heap.size := K2.1
    have N2 := Fr.app N0 N2q
    refine GoW.pre st2 ?_
    show GoW p e below s _ _ _ (T2.setTop (mkF m 167 #[.val (.int p0), .val (.int p1), .val (.int p2), .val (.int p3), .val (.int p4), .val (.int p5), .val (.int p6), .val (.int p7), .val (.int p8), .val (.ref r9), .unset, .unset, .unset, .unset, .unset, .unset, .unset] [(.ref b2_0)]))
    refine GoW.pre (st' := T2.setTop (mkF m 169 #[.val (.int p0), .val (.int p1), .val (.int p2), .val (.int p3), .val (.int p4), .val (.int p5), .val (.int p6), .val (.int p7), .val (.int p8), .val (.ref r9), .val (.ref b2_0), .unset, .unset, .unset, .unset, .unset, .unset] [])) (fun target kt => ?_) ?_
    · show Steps p.tables e below (T2.setTop (mkF m 167 #[.val (.int p0), .val (.int p1), .val (.int p2), .val (.int p3), .val (.int p4), .val (.int p5), .val (.int p6), .val (.int p7), .val (.int p8), .val (.ref r9), .unset, .unset, .unset, .unset, .unset, .unset, .unset] [(.ref b2_0)])) _
      refine XS.astore X2.here hx rfl (hb hby at_167) rfl rfl (l' := #[.val (.int p0), .val (.int p1), .val (.int p2), .val (.int p3), .val (.int p4), .val (.int p5), .val (.int p6), .val (.int p7), .val (.int p8), .val (.ref r9), .val (.ref b2_0), .unset, .unset, .unset, .unset, .unset, .unset]) rfl ?_
      exact kt
    have Y3 : Old Z n0 T2.heap := (Ol.keep K2 all0)
    have Y4 : Arv Z T2.heap zd kd (.object "java/lang/Object") (0 : Int32) [] .null := (A_zd.keep K2 nin0)
    exact blk169R ⟨hx, hZ, hby, hml, hown, hrt, hlk⟩ hw hS (by omega) (IB.sup hI (by simp)) hnS hkp (padS X2 (by decide) (by decide)) rfl N2 p0 p1 p2 p3 p4 p5 p6 p7 p8 r9 b2_0 zc zd kd (by omega) h01 S_COMPACT hcs S_D Y4 Y3 hcw hheld
  · refine GoW.pre (st' := T.setTop (mkF m 151 #[.val (.int p0), .val (.int p1), .val (.int p2), .val (.int p3), .val (.int p4), .val (.int p5), .val (.int p6), .val (.int p7), .val (.int p8), .val (.ref r9), .unset, .unset, .unset, .unset, .unset, .unset, .unset] [])) (fun target kt => ?_) ?_
    · show Steps p.tables e below (T.setTop (mkF m 148 #[.val (.int p0), .val (.int p1), .val (.int p2), .val (.int p3), .val (.int p4), .val (.int p5), .val (.int p6), .val (.int p7), .val (.int p8), .val (.ref r9), .unset, .unset, .unset, .unset, .unset, .unset, .unset] [(.int p7)])) _
      refine XS.ifNo X0.here hx rfl (hb hby at_148) rfl ((if0 _ _).trans (feq h148_1).1) ?_
      exact kt
    obtain ⟨la5, T5, h5, kq5, b5, k5, X5, e5, E5, hS, hk, hZ, hown, Ea5, Fc5, Fv5, Va5, lt5, lu5, hI, Lt_la5, st5⟩ := ldcSVL X0 hx hZ hown (hw _ (List.mem_of_getElem? (i := 109) rfl)) (own_wS hw) e0 hS (by omega) (hnS ▸ N0) hkp hI (by decide) (hheld _ (List.mem_of_getElem? (i := 0) rfl)) hcw (vs := [(.int (109 : Int32)), (.int (97 : Int32)), (.int (112 : Int32)), (.int (60 : Int32)), (.int (115 : Int32)), (.int (116 : Int32)), (.int (114 : Int32)), (.int (105 : Int32)), (.int (110 : Int32)), (.int (103 : Int32)), (.int (44 : Int32)), (.int (32 : Int32)), (.int (66 : Int32)), (.int (111 : Int32)), (.int (111 : Int32)), (.int (107 : Int32)), (.int (62 : Int32))]) (z := (17 : Int32)) ⟨by decide, by decide⟩ (by decide) rfl (g := (mkF m 151 #[.val (.int p0), .val (.int p1), .val (.int p2), .val (.int p3), .val (.int p4), .val (.int p5), .val (.int p6), .val (.int p7), .val (.int p8), .val (.ref r9), .unset, .unset, .unset, .unset, .unset, .unset, .unset] [])) rfl (hb hby at_151) (n := 68) (by decide) (by decide) (by decide) (by decide)
    have sz5 : h0.size ≤ h5.size := E5.1
    refine GoW.pre st5 ?_
    show GoW p e below s _ _ _ (T5.setTop (mkF m 153 #[.val (.int p0), .val (.int p1), .val (.int p2), .val (.int p3), .val (.int p4), .val (.int p5), .val (.int p6), .val (.int p7), .val (.int p8), .val (.ref r9), .unset, .unset, .unset, .unset, .unset, .unset, .unset] [(.ref la5)]))
    refine GoW.pre (st' := T5.setTop (mkF m 169 #[.val (.int p0), .val (.int p1), .val (.int p2), .val (.int p3), .val (.int p4), .val (.int p5), .val (.int p6), .val (.int p7), .val (.int p8), .val (.ref r9), .val (.ref la5), .unset, .unset, .unset, .unset, .unset, .unset] [])) (fun target kt => ?_) ?_
    · show Steps p.tables e below (T5.setTop (mkF m 153 #[.val (.int p0), .val (.int p1), .val (.int p2), .val (.int p3), .val (.int p4), .val (.int p5), .val (.int p6), .val (.int p7), .val (.int p8), .val (.ref r9), .unset, .unset, .unset, .unset, .unset, .unset, .unset] [(.ref la5)])) _
      refine XS.astore X5.here hx rfl (hb hby at_153) rfl rfl (l' := #[.val (.int p0), .val (.int p1), .val (.int p2), .val (.int p3), .val (.int p4), .val (.int p5), .val (.int p6), .val (.int p7), .val (.int p8), .val (.ref r9), .val (.ref la5), .unset, .unset, .unset, .unset, .unset, .unset]) rfl ?_
      show Steps p.tables e below (T5.setTop (mkF m 155 #[.val (.int p0), .val (.int p1), .val (.int p2), .val (.int p3), .val (.int p4), .val (.int p5), .val (.int p6), .val (.int p7), .val (.int p8), .val (.ref r9), .val (.ref la5), .unset, .unset, .unset, .unset, .unset, .unset] [])) _
      refine XS.goto X5.here hx rfl (pc0 := 155) (pc' := 169) rfl (hb hby at_155) (by decide) (by decide) ?_
      exact kt
    have Y6 : Old Z n0 h5 := (Ol.ext E5)
    have Y7 : Arv Z h5 zd kd (.object "java/lang/Object") (0 : Int32) [] .null := (A_zd.ext E5)
    exact blk169R ⟨hx, hZ, hby, hml, hown, hrt, hlk⟩ hw hS (by omega) (IB.sup hI (by simp)) hnS hkp X5 e5 N0 p0 p1 p2 p3 p4 p5 p6 p7 p8 r9 la5 zc zd kd (by omega) h01 S_COMPACT hcs S_D Y7 Y6 hcw hheld
theorem pd61_0 : parseMethodDescriptor "([C)V" = some ⟨[(.array .char)], none⟩ := by decide +kernel
theorem pd61_1 : parseMethodDescriptor "(C)Ljava/lang/String;" = some ⟨[.char], some (.object "java/lang/String")⟩ := by decide +kernel
set_option maxRecDepth 65536 in
set_option maxHeartbeats 40000000 in
theorem blk61 {p : Program} {l : Launch} {e : Env} {s : State} {m : MethodId} {args : Array Value} {below : List Frame} {meth : Method} {c : Code} {Z : State} {a0 : Array Value} {T : State} {locs : List Loc} {h0 : Heap} {n0 : Nat} {vm0 : Vm} {k0 : Nat} (C : Ctx p (s.setVm vm0) m meth c Z code 17 "com/example/araucaria/araucaria/proto/ProtoFieldHasPresencePinLaw" (some .boolean)) (hw : ∀ d ∈ tables_1, d.before a0 Z = true) (hS : s.Since vm0 k0) (hk : k0 ≤ h0.size) (hI : IB Z vm0 []) (hnS : n0 = s.heap.size) (hkp : ∀ (b : Addr) (cl : Cell), Z.heap[b]? = some cl → s.heap[b]? = some cl)
    (X0 : Stand p l e room_1 (s.setVm vm0) m args below meth c T locs 0 0) (e0 : T.heap = h0) (N0 : Fr n0 locs) (p0 : Int32) (p1 : Int32) (p2 : Int32) (p3 : Int32) (p4 : Int32) (p5 : Int32) (p6 : Int32) (p7 : Int32) (p8 : Int32) (zc : Int32) (zd : Addr) (kd : ClassId) (Z0 : n0 ≤ h0.size) (h01 : p5 = (0 : Int32) ∨ p5 = (1 : Int32)) (S_COMPACT : Sta Z Z.heap "java/lang/String" "COMPACT_STRINGS" "Z" (.int zc)) (hcs : ¬ (zc = (0 : Int32))) (S_D : Sta Z Z.heap "java/util/ArrayList" "DEFAULTCAPACITY_EMPTY_ELEMENTDATA" "[Ljava/lang/Object;" (.ref zd)) (A_zd : Arv Z h0 zd kd (.object "java/lang/Object") (0 : Int32) [] .null) (Ol : Old Z n0 h0) (hcw : Jvm.Lit.compactW.before a0 Z = true) (hheld : ∀ q ∈ consts_1, Jvm.Lit.constHeld Z q.1 q.2) :
    GoW p e below s 40 3264 (fun v vm h L => v = some (.int 1) ∧ Fr n0 L) (T.setTop (mkF m 61 #[.val (.int p0), .val (.int p1), .val (.int p2), .val (.int p3), .val (.int p4), .val (.int p5), .val (.int p6), .val (.int p7), .val (.int p8), .unset, .unset, .unset, .unset, .unset, .unset, .unset, .unset] [])) := by
  obtain ⟨hx, hZ, hby, hml, hown, hrt, hlk⟩ := id C
  have lt_A_zd : LT.lt (α := Nat) zd h0.size := A_zd.lt
  refine GoW.pre (st' := T.setTop (mkF m 63 #[.val (.int p0), .val (.int p1), .val (.int p2), .val (.int p3), .val (.int p4), .val (.int p5), .val (.int p6), .val (.int p7), .val (.int p8), .unset, .unset, .unset, .unset, .unset, .unset, .unset, .unset] [(.int p6)])) (fun target kt => ?_) ?_
  · show Steps p.tables e below (T.setTop (mkF m 61 #[.val (.int p0), .val (.int p1), .val (.int p2), .val (.int p3), .val (.int p4), .val (.int p5), .val (.int p6), .val (.int p7), .val (.int p8), .unset, .unset, .unset, .unset, .unset, .unset, .unset, .unset] [])) _
    refine XS.iload X0.here hx rfl (hb hby at_61) rfl ?_
    exact kt
  by_cases h63_1 : p6 = (0 : Int32)
  · refine GoW.pre (st' := T.setTop (mkF m 66 #[.val (.int p0), .val (.int p1), .val (.int p2), .val (.int p3), .val (.int p4), .val (.int p5), .val (.int p6), .val (.int p7), .val (.int p8), .unset, .unset, .unset, .unset, .unset, .unset, .unset, .unset] [])) (fun target kt => ?_) ?_
    · show Steps p.tables e below (T.setTop (mkF m 63 #[.val (.int p0), .val (.int p1), .val (.int p2), .val (.int p3), .val (.int p4), .val (.int p5), .val (.int p6), .val (.int p7), .val (.int p8), .unset, .unset, .unset, .unset, .unset, .unset, .unset, .unset] [(.int p6)])) _
      refine XS.ifNo X0.here hx rfl (hb hby at_63) rfl ((if0 _ _).trans (teq h63_1).2) ?_
      exact kt
    refine GoW.pre (st' := T.setTop (mkF m 146 #[.val (.int p0), .val (.int p1), .val (.int p2), .val (.int p3), .val (.int p4), .val (.int p5), .val (.int p6), .val (.int p7), .val (.int p8), .val .null, .unset, .unset, .unset, .unset, .unset, .unset, .unset] [])) (fun target kt => ?_) ?_
    · show Steps p.tables e below (T.setTop (mkF m 66 #[.val (.int p0), .val (.int p1), .val (.int p2), .val (.int p3), .val (.int p4), .val (.int p5), .val (.int p6), .val (.int p7), .val (.int p8), .unset, .unset, .unset, .unset, .unset, .unset, .unset, .unset] [])) _
      refine XS.aconstNull X0.here hx rfl (hb hby at_66) ?_
      show Steps p.tables e below (T.setTop (mkF m 67 #[.val (.int p0), .val (.int p1), .val (.int p2), .val (.int p3), .val (.int p4), .val (.int p5), .val (.int p6), .val (.int p7), .val (.int p8), .unset, .unset, .unset, .unset, .unset, .unset, .unset, .unset] [.null])) _
      refine XS.astore X0.here hx rfl (hb hby at_67) rfl rfl (l' := #[.val (.int p0), .val (.int p1), .val (.int p2), .val (.int p3), .val (.int p4), .val (.int p5), .val (.int p6), .val (.int p7), .val (.int p8), .val .null, .unset, .unset, .unset, .unset, .unset, .unset, .unset]) rfl ?_
      show Steps p.tables e below (T.setTop (mkF m 69 #[.val (.int p0), .val (.int p1), .val (.int p2), .val (.int p3), .val (.int p4), .val (.int p5), .val (.int p6), .val (.int p7), .val (.int p8), .val .null, .unset, .unset, .unset, .unset, .unset, .unset, .unset] [])) _
      refine XS.goto X0.here hx rfl (pc0 := 69) (pc' := 146) rfl (hb hby at_69) (by decide) (by decide) ?_
      exact kt
    exact blk146N ⟨hx, hZ, hby, hml, hown, hrt, hlk⟩ hw hS (by omega) (IB.sup hI (by simp)) hnS hkp (padS X0 (by decide) (by decide)) e0 N0 p0 p1 p2 p3 p4 p5 p6 p7 p8 zc zd kd (by omega) h01 S_COMPACT hcs S_D A_zd Ol hcw hheld
  · refine GoW.pre (st' := T.setTop (mkF m 72 #[.val (.int p0), .val (.int p1), .val (.int p2), .val (.int p3), .val (.int p4), .val (.int p5), .val (.int p6), .val (.int p7), .val (.int p8), .unset, .unset, .unset, .unset, .unset, .unset, .unset, .unset] [])) (fun target kt => ?_) ?_
    · show Steps p.tables e below (T.setTop (mkF m 63 #[.val (.int p0), .val (.int p1), .val (.int p2), .val (.int p3), .val (.int p4), .val (.int p5), .val (.int p6), .val (.int p7), .val (.int p8), .unset, .unset, .unset, .unset, .unset, .unset, .unset, .unset] [(.int p6)])) _
      refine XS.ifYes X0.here hx rfl (pc0 := 63) (pc' := 72) rfl (hb hby at_63) rfl ((if0 _ _).trans (feq h63_1).2) (by decide) (by decide) ?_
      exact kt
    refine GoW.pre (st' := T.setTop (mkF m 75 #[.val (.int p0), .val (.int p1), .val (.int p2), .val (.int p3), .val (.int p4), .val (.int p5), .val (.int p6), .val (.int p7), .val (.int p8), .unset, .unset, .unset, .unset, .unset, .unset, .unset, .unset] [(.int (1 : Int32)), (.int p6)])) (fun target kt => ?_) ?_
    · show Steps p.tables e below (T.setTop (mkF m 72 #[.val (.int p0), .val (.int p1), .val (.int p2), .val (.int p3), .val (.int p4), .val (.int p5), .val (.int p6), .val (.int p7), .val (.int p8), .unset, .unset, .unset, .unset, .unset, .unset, .unset, .unset] [])) _
      refine XS.iload X0.here hx rfl (hb hby at_72) rfl ?_
      show Steps p.tables e below (T.setTop (mkF m 74 #[.val (.int p0), .val (.int p1), .val (.int p2), .val (.int p3), .val (.int p4), .val (.int p5), .val (.int p6), .val (.int p7), .val (.int p8), .unset, .unset, .unset, .unset, .unset, .unset, .unset, .unset] [(.int p6)])) _
      refine XS.iconst X0.here hx rfl (hb hby at_74) ?_
      exact kt
    by_cases h75_2 : p6 = (1 : Int32)
    · refine GoW.pre (st' := T.setTop (mkF m 78 #[.val (.int p0), .val (.int p1), .val (.int p2), .val (.int p3), .val (.int p4), .val (.int p5), .val (.int p6), .val (.int p7), .val (.int p8), .unset, .unset, .unset, .unset, .unset, .unset, .unset, .unset] [])) (fun target kt => ?_) ?_
      · show Steps p.tables e below (T.setTop (mkF m 75 #[.val (.int p0), .val (.int p1), .val (.int p2), .val (.int p3), .val (.int p4), .val (.int p5), .val (.int p6), .val (.int p7), .val (.int p8), .unset, .unset, .unset, .unset, .unset, .unset, .unset, .unset] [(.int (1 : Int32)), (.int p6)])) _
        refine XS.icmpNo X0.here hx rfl (hb hby at_75) rfl (teq h75_2).2 ?_
        exact kt
      obtain ⟨T3, h3, X3, e3, E3, A3, D3, -, st3⟩ := newO X0 hx hZ hown (hw _ (List.mem_of_getElem? (i := 98) rfl)) (hw _ (List.mem_of_getElem? (i := 10) rfl)) (hw _ (List.mem_of_getElem? (i := 2) rfl)) e0 (g := (mkF m 78 #[.val (.int p0), .val (.int p1), .val (.int p2), .val (.int p3), .val (.int p4), .val (.int p5), .val (.int p6), .val (.int p7), .val (.int p8), .unset, .unset, .unset, .unset, .unset, .unset, .unset, .unset] [])) rfl (hb hby at_78) (by decide) (by decide)
      obtain ⟨b3, g3⟩ : ∃ z, z = h0.size := ⟨_, rfl⟩
      rw [← g3] at A3 D3 st3
      have sz3 : h0.size ≤ h3.size := E3.1
      have lt3 : b3 < h3.size := A3.lt
      have F3_value : Fld Z h3 b3 "java/lang/String" "value" "[B" .null := D3 (Or.inr (hw _ (List.mem_of_getElem? (i := 23) rfl))) (ty := (.array .byte)) (by decide)
      have F3_coder : Fld Z h3 b3 "java/lang/String" "coder" "B" (.int (0 : Int32)) := D3 (Or.inr (hw _ (List.mem_of_getElem? (i := 25) rfl))) (ty := .byte) (by decide)
      refine GoW.pre st3 ?_
      show GoW p e below s _ _ _ (T3.setTop (mkF m 81 #[.val (.int p0), .val (.int p1), .val (.int p2), .val (.int p3), .val (.int p4), .val (.int p5), .val (.int p6), .val (.int p7), .val (.int p8), .unset, .unset, .unset, .unset, .unset, .unset, .unset, .unset] [(.ref b3)]))
      refine GoW.pre (st' := T3.setTop (mkF m 83 #[.val (.int p0), .val (.int p1), .val (.int p2), .val (.int p3), .val (.int p4), .val (.int p5), .val (.int p6), .val (.int p7), .val (.int p8), .unset, .unset, .unset, .unset, .unset, .unset, .unset, .unset] [(.int (0 : Int32)), (.ref b3), (.ref b3)])) (fun target kt => ?_) ?_
      · show Steps p.tables e below (T3.setTop (mkF m 81 #[.val (.int p0), .val (.int p1), .val (.int p2), .val (.int p3), .val (.int p4), .val (.int p5), .val (.int p6), .val (.int p7), .val (.int p8), .unset, .unset, .unset, .unset, .unset, .unset, .unset, .unset] [(.ref b3)])) _
        refine XS.dup X3.here hx rfl (hb hby at_81) rfl rfl ?_
        show Steps p.tables e below (T3.setTop (mkF m 82 #[.val (.int p0), .val (.int p1), .val (.int p2), .val (.int p3), .val (.int p4), .val (.int p5), .val (.int p6), .val (.int p7), .val (.int p8), .unset, .unset, .unset, .unset, .unset, .unset, .unset, .unset] [(.ref b3), (.ref b3)])) _
        refine XS.iconst X3.here hx rfl (hb hby at_82) ?_
        exact kt
      obtain ⟨T4, h4, k4, X4, e4, E4, A4, st4⟩ := newP X3 hx hZ (hw _ (List.mem_of_getElem? (i := 99) rfl)) e3 (g := (mkF m 83 #[.val (.int p0), .val (.int p1), .val (.int p2), .val (.int p3), .val (.int p4), .val (.int p5), .val (.int p6), .val (.int p7), .val (.int p8), .unset, .unset, .unset, .unset, .unset, .unset, .unset, .unset] [(.int (0 : Int32)), (.ref b3), (.ref b3)])) rfl (hb hby at_83) rfl (by decide) (cap := 0) (by decide) (by decide) (by decide) (by decide)
      obtain ⟨b4, g4⟩ : ∃ z, z = h3.size := ⟨_, rfl⟩
      rw [← g4] at A4 st4
      have sz4 : h3.size ≤ h4.size := E4.1
      have V4 : Arv Z h4 b4 k4 .char (0 : Int32) [] (.int (0 : Int32)) := Arv.new A4 (by decide)
      have lt4 : b4 < h4.size := V4.lt
      refine GoW.pre st4 ?_
      show GoW p e below s _ _ _ (T4.setTop (mkF m 85 #[.val (.int p0), .val (.int p1), .val (.int p2), .val (.int p3), .val (.int p4), .val (.int p5), .val (.int p6), .val (.int p7), .val (.int p8), .unset, .unset, .unset, .unset, .unset, .unset, .unset, .unset] [(.ref b4), (.ref b3), (.ref b3)]))
      have Y6 : Old Z n0 h4 := ((Ol.ext E3).ext E4)
      have Y7 : Fld Z h4 b3 "java/lang/String" "value" "[B" .null := (F3_value.ext E4)
      have Y8 : Exa Z h4 b3 "java/lang/String" := (A3.ext E4)
      have Y9 : Fld Z h4 b3 "java/lang/String" "coder" "B" (.int (0 : Int32)) := (F3_coder.ext E4)
      obtain ⟨_, _, ⟨T5, L5, k5, n5⟩, -, X5', hS5, hgr5, ⟨Lc5, hQ5, l5, y5, z5⟩, st5⟩ := X4.specialBackS hx (y := (⟨"java/lang/String", "<init>", "([C)V"⟩ : MethodName)) rfl hown (mvT hZ (hw _ (List.mem_of_getElem? (i := 100) rfl))) (mvT hZ (hw _ (List.mem_of_getElem? (i := 101) rfl))) (mvT hZ (hw _ (List.mem_of_getElem? (i := 102) rfl))) (by decide) (backOfSI (W := 1) (rm13e l Z a0 hw [] b3 b4 k4 .null (.int (0 : Int32)) h4 n0 (by omega) hcw hheld Y6 V4 Y7 Y8 (by omega) Y9) hZ (hw _ (List.mem_of_getElem? (i := 102) rfl)) (hw _ (List.mem_of_getElem? (i := 2) rfl)) (by decide) (by decide)) (g := (mkF m 85 #[.val (.int p0), .val (.int p1), .val (.int p2), .val (.int p3), .val (.int p4), .val (.int p5), .val (.int p6), .val (.int p7), .val (.int p8), .unset, .unset, .unset, .unset, .unset, .unset, .unset, .unset] [(.ref b4), (.ref b3), (.ref b3)])) rfl (by rw [hml]; rfl) (Steps.refl _) (a := b3) (argsL := [(.ref b4)]) (rest := [(.ref b3)]) (lenOf pd61_0 rfl) rfl (by show 2 * 0 + _ ≤ _; exact Nat.le_of_eq rfl) (hb hby at_85) (fun vm₁ hvm => ⟨rfl, e4, (by decide : 2 + 2 ≤ _), (by decide : 4 + 4 ≤ _), IB.mv hI hvm⟩)
      dsimp only [Pt.U, Pt.locs, Pt.cells, Pt.slots] at X5' l5 y5 z5 st5 hQ5 hS5 hgr5
      subst l5 y5 z5
      obtain ⟨X5, hS, hZ, hown⟩ := rebS hS (leH e4 (by omega)) X5' hS5 hgr5 hZ hown
      have hk := Nat.le_refl T5.heap.size
      obtain ⟨rfl, N5q, K5, KF5, Y5_0, hI⟩ := hQ5
      have sz5 : h4.size ≤ T5.heap.size := K5.1
      have N5 := Fr.app N0 N5q
      refine GoW.trans st5 ?_
      show GoW p e below s _ _ _ (T5.setTop (mkF m 88 #[.val (.int p0), .val (.int p1), .val (.int p2), .val (.int p3), .val (.int p4), .val (.int p5), .val (.int p6), .val (.int p7), .val (.int p8), .unset, .unset, .unset, .unset, .unset, .unset, .unset, .unset] [(.ref b3)]))
      refine GoW.pre (st' := T5.setTop (mkF m 146 #[.val (.int p0), .val (.int p1), .val (.int p2), .val (.int p3), .val (.int p4), .val (.int p5), .val (.int p6), .val (.int p7), .val (.int p8), .val (.ref b3), .unset, .unset, .unset, .unset, .unset, .unset, .unset] [])) (fun target kt => ?_) ?_
      · show Steps p.tables e below (T5.setTop (mkF m 88 #[.val (.int p0), .val (.int p1), .val (.int p2), .val (.int p3), .val (.int p4), .val (.int p5), .val (.int p6), .val (.int p7), .val (.int p8), .unset, .unset, .unset, .unset, .unset, .unset, .unset, .unset] [(.ref b3)])) _
        refine XS.astore X5.here hx rfl (hb hby at_88) rfl rfl (l' := #[.val (.int p0), .val (.int p1), .val (.int p2), .val (.int p3), .val (.int p4), .val (.int p5), .val (.int p6), .val (.int p7), .val (.int p8), .val (.ref b3), .unset, .unset, .unset, .unset, .unset, .unset, .unset]) rfl ?_
        show Steps p.tables e below (T5.setTop (mkF m 90 #[.val (.int p0), .val (.int p1), .val (.int p2), .val (.int p3), .val (.int p4), .val (.int p5), .val (.int p6), .val (.int p7), .val (.int p8), .val (.ref b3), .unset, .unset, .unset, .unset, .unset, .unset, .unset] [])) _
        refine XS.goto X5.here hx rfl (pc0 := 90) (pc' := 146) rfl (hb hby at_90) (by decide) (by decide) ?_
        exact kt
      have Y10 : Old Z n0 T5.heap := (Y6.keep K5 (allS (by omega) all0))
      have Y11 : Arv Z T5.heap zd kd (.object "java/lang/Object") (0 : Int32) [] .null := (((A_zd.ext E3).ext E4).keep K5 (ninS (by show @Ne Nat zd b3; omega) nin0))
      exact blk146R ⟨hx, hZ, hby, hml, hown, hrt, hlk⟩ hw hS (by omega) (IB.sup hI (by simp)) hnS hkp (padS X5 (by decide) (by decide)) rfl N5 p0 p1 p2 p3 p4 p5 p6 p7 p8 b3 zc zd kd (by omega) h01 S_COMPACT hcs S_D Y11 Y10 hcw hheld
    · refine GoW.pre (st' := T.setTop (mkF m 93 #[.val (.int p0), .val (.int p1), .val (.int p2), .val (.int p3), .val (.int p4), .val (.int p5), .val (.int p6), .val (.int p7), .val (.int p8), .unset, .unset, .unset, .unset, .unset, .unset, .unset, .unset] [])) (fun target kt => ?_) ?_
      · show Steps p.tables e below (T.setTop (mkF m 75 #[.val (.int p0), .val (.int p1), .val (.int p2), .val (.int p3), .val (.int p4), .val (.int p5), .val (.int p6), .val (.int p7), .val (.int p8), .unset, .unset, .unset, .unset, .unset, .unset, .unset, .unset] [(.int (1 : Int32)), (.int p6)])) _
        refine XS.icmpYes X0.here hx rfl (pc0 := 75) (pc' := 93) rfl (hb hby at_75) rfl (feq h75_2).2 (by decide) (by decide) ?_
        exact kt
      refine GoW.pre (st' := T.setTop (mkF m 96 #[.val (.int p0), .val (.int p1), .val (.int p2), .val (.int p3), .val (.int p4), .val (.int p5), .val (.int p6), .val (.int p7), .val (.int p8), .unset, .unset, .unset, .unset, .unset, .unset, .unset, .unset] [(.int (2 : Int32)), (.int p6)])) (fun target kt => ?_) ?_
      · show Steps p.tables e below (T.setTop (mkF m 93 #[.val (.int p0), .val (.int p1), .val (.int p2), .val (.int p3), .val (.int p4), .val (.int p5), .val (.int p6), .val (.int p7), .val (.int p8), .unset, .unset, .unset, .unset, .unset, .unset, .unset, .unset] [])) _
        refine XS.iload X0.here hx rfl (hb hby at_93) rfl ?_
        show Steps p.tables e below (T.setTop (mkF m 95 #[.val (.int p0), .val (.int p1), .val (.int p2), .val (.int p3), .val (.int p4), .val (.int p5), .val (.int p6), .val (.int p7), .val (.int p8), .unset, .unset, .unset, .unset, .unset, .unset, .unset, .unset] [(.int p6)])) _
        refine XS.iconst X0.here hx rfl (hb hby at_95) ?_
        exact kt
      by_cases h96_12 : p6 = (2 : Int32)
      · refine GoW.pre (st' := T.setTop (mkF m 99 #[.val (.int p0), .val (.int p1), .val (.int p2), .val (.int p3), .val (.int p4), .val (.int p5), .val (.int p6), .val (.int p7), .val (.int p8), .unset, .unset, .unset, .unset, .unset, .unset, .unset, .unset] [])) (fun target kt => ?_) ?_
        · show Steps p.tables e below (T.setTop (mkF m 96 #[.val (.int p0), .val (.int p1), .val (.int p2), .val (.int p3), .val (.int p4), .val (.int p5), .val (.int p6), .val (.int p7), .val (.int p8), .unset, .unset, .unset, .unset, .unset, .unset, .unset, .unset] [(.int (2 : Int32)), (.int p6)])) _
          refine XS.icmpNo X0.here hx rfl (hb hby at_96) rfl (teq h96_12).2 ?_
          exact kt
        refine GoW.pre (st' := T.setTop (mkF m 105 #[.val (.int p0), .val (.int p1), .val (.int p2), .val (.int p3), .val (.int p4), .val (.int p5), .val (.int p6), .val (.int p7), .val (.int p8), .unset, .unset, .unset, .unset, .unset, .unset, .unset, .unset] [(.int ((p2 &&& (255 : Int32)).toUInt32.toUInt16.toUInt32.toInt32))])) (fun target kt => ?_) ?_
        · show Steps p.tables e below (T.setTop (mkF m 99 #[.val (.int p0), .val (.int p1), .val (.int p2), .val (.int p3), .val (.int p4), .val (.int p5), .val (.int p6), .val (.int p7), .val (.int p8), .unset, .unset, .unset, .unset, .unset, .unset, .unset, .unset] [])) _
          refine XS.iloadN X0.here hx rfl (hb hby at_99) rfl ?_
          show Steps p.tables e below (T.setTop (mkF m 100 #[.val (.int p0), .val (.int p1), .val (.int p2), .val (.int p3), .val (.int p4), .val (.int p5), .val (.int p6), .val (.int p7), .val (.int p8), .unset, .unset, .unset, .unset, .unset, .unset, .unset, .unset] [(.int p2)])) _
          refine XS.sipush X0.here hx rfl (hb hby at_100) ?_
          show Steps p.tables e below (T.setTop (mkF m 103 #[.val (.int p0), .val (.int p1), .val (.int p2), .val (.int p3), .val (.int p4), .val (.int p5), .val (.int p6), .val (.int p7), .val (.int p8), .unset, .unset, .unset, .unset, .unset, .unset, .unset, .unset] [(.int (255 : Int32)), (.int p2)])) _
          refine XS.iand X0.here hx rfl (hb hby at_103) rfl ?_
          show Steps p.tables e below (T.setTop (mkF m 104 #[.val (.int p0), .val (.int p1), .val (.int p2), .val (.int p3), .val (.int p4), .val (.int p5), .val (.int p6), .val (.int p7), .val (.int p8), .unset, .unset, .unset, .unset, .unset, .unset, .unset, .unset] [(.int (p2 &&& (255 : Int32)))])) _
          refine XS.i2c X0.here hx rfl (hb hby at_104) rfl ?_
          exact kt
        obtain ⟨_, _, ⟨T13, L13, k13, n13⟩, -, X13, ⟨Lc13, hQ13, l13, y13, z13⟩, st13⟩ := Jvm.LawKit.callS X0 hx (y := (⟨"java/lang/String", "valueOf", "(C)Ljava/lang/String;"⟩ : MethodName)) hown (mvT hZ (hw _ (List.mem_of_getElem? (i := 0) rfl))) (mvT hZ (hw _ (List.mem_of_getElem? (i := 1) rfl))) (mvT hZ (hw _ (List.mem_of_getElem? (i := 2) rfl))) (mvT hZ (hw _ (List.mem_of_getElem? (i := 3) rfl))) (by decide) (backOf (W := 0) (rm1 l Z a0 hw [] ((p2 &&& (255 : Int32)).toUInt32.toUInt16.toUInt32.toInt32) zc h0 n0 (by omega) S_COMPACT Ol (own_c255 _) hcs) hZ (hw _ (List.mem_of_getElem? (i := 3) rfl)) (hw _ (List.mem_of_getElem? (i := 2) rfl)) (by decide) (by decide)) (g := (mkF m 105 #[.val (.int p0), .val (.int p1), .val (.int p2), .val (.int p3), .val (.int p4), .val (.int p5), .val (.int p6), .val (.int p7), .val (.int p8), .unset, .unset, .unset, .unset, .unset, .unset, .unset, .unset] [(.int ((p2 &&& (255 : Int32)).toUInt32.toUInt16.toUInt32.toInt32))])) rfl (by rw [hml]; rfl) (argsL := [(.int ((p2 &&& (255 : Int32)).toUInt32.toUInt16.toUInt32.toInt32))]) (rest := []) (lenOf pd61_1 rfl) rfl (by show 2 * 0 + _ ≤ _; exact Nat.le_of_eq rfl) (hb hby at_105) (fun vm₁ hvm => ⟨rfl, e0, (by decide : 0 + 2 ≤ _), (by decide : 0 + 5 ≤ _)⟩)
        dsimp only [Pt.U, Pt.locs, Pt.cells, Pt.slots] at X13 l13 y13 z13 st13 hQ13
        subst l13 y13 z13
        obtain ⟨b13_0, b13_1, k13_0, rfl, N13q, K13, KF13, gb13_0, ltb13_0, gb13_1, ltb13_1, lob13_1, Y13_0, Y13_1, Y13_2, Y13_3⟩ := hQ13
        have sz13 : h0.size ≤ T13.heap.size := K13.1
        have N13 := Fr.app N0 N13q
        refine GoW.pre st13 ?_
        show GoW p e below s _ _ _ (T13.setTop (mkF m 108 #[.val (.int p0), .val (.int p1), .val (.int p2), .val (.int p3), .val (.int p4), .val (.int p5), .val (.int p6), .val (.int p7), .val (.int p8), .unset, .unset, .unset, .unset, .unset, .unset, .unset, .unset] [(.ref b13_0)]))
        refine GoW.pre (st' := T13.setTop (mkF m 146 #[.val (.int p0), .val (.int p1), .val (.int p2), .val (.int p3), .val (.int p4), .val (.int p5), .val (.int p6), .val (.int p7), .val (.int p8), .val (.ref b13_0), .unset, .unset, .unset, .unset, .unset, .unset, .unset] [])) (fun target kt => ?_) ?_
        · show Steps p.tables e below (T13.setTop (mkF m 108 #[.val (.int p0), .val (.int p1), .val (.int p2), .val (.int p3), .val (.int p4), .val (.int p5), .val (.int p6), .val (.int p7), .val (.int p8), .unset, .unset, .unset, .unset, .unset, .unset, .unset, .unset] [(.ref b13_0)])) _
          refine XS.astore X13.here hx rfl (hb hby at_108) rfl rfl (l' := #[.val (.int p0), .val (.int p1), .val (.int p2), .val (.int p3), .val (.int p4), .val (.int p5), .val (.int p6), .val (.int p7), .val (.int p8), .val (.ref b13_0), .unset, .unset, .unset, .unset, .unset, .unset, .unset]) rfl ?_
          show Steps p.tables e below (T13.setTop (mkF m 110 #[.val (.int p0), .val (.int p1), .val (.int p2), .val (.int p3), .val (.int p4), .val (.int p5), .val (.int p6), .val (.int p7), .val (.int p8), .val (.ref b13_0), .unset, .unset, .unset, .unset, .unset, .unset, .unset] [])) _
          refine XS.goto X13.here hx rfl (pc0 := 110) (pc' := 146) rfl (hb hby at_110) (by decide) (by decide) ?_
          exact kt
        have Y14 : Old Z n0 T13.heap := (Ol.keep K13 all0)
        have Y15 : Arv Z T13.heap zd kd (.object "java/lang/Object") (0 : Int32) [] .null := (A_zd.keep K13 nin0)
        exact blk146R ⟨hx, hZ, hby, hml, hown, hrt, hlk⟩ hw hS (by omega) (IB.sup hI (by simp)) hnS hkp (padS X13 (by decide) (by decide)) rfl N13 p0 p1 p2 p3 p4 p5 p6 p7 p8 b13_0 zc zd kd (by omega) h01 S_COMPACT hcs S_D Y15 Y14 hcw hheld
      · refine GoW.pre (st' := T.setTop (mkF m 113 #[.val (.int p0), .val (.int p1), .val (.int p2), .val (.int p3), .val (.int p4), .val (.int p5), .val (.int p6), .val (.int p7), .val (.int p8), .unset, .unset, .unset, .unset, .unset, .unset, .unset, .unset] [])) (fun target kt => ?_) ?_
        · show Steps p.tables e below (T.setTop (mkF m 96 #[.val (.int p0), .val (.int p1), .val (.int p2), .val (.int p3), .val (.int p4), .val (.int p5), .val (.int p6), .val (.int p7), .val (.int p8), .unset, .unset, .unset, .unset, .unset, .unset, .unset, .unset] [(.int (2 : Int32)), (.int p6)])) _
          refine XS.icmpYes X0.here hx rfl (pc0 := 96) (pc' := 113) rfl (hb hby at_96) rfl (feq h96_12).2 (by decide) (by decide) ?_
          exact kt
        obtain ⟨T16, h16, X16, e16, E16, A16, D16, -, st16⟩ := newO X0 hx hZ hown (hw _ (List.mem_of_getElem? (i := 98) rfl)) (hw _ (List.mem_of_getElem? (i := 10) rfl)) (hw _ (List.mem_of_getElem? (i := 2) rfl)) e0 (g := (mkF m 113 #[.val (.int p0), .val (.int p1), .val (.int p2), .val (.int p3), .val (.int p4), .val (.int p5), .val (.int p6), .val (.int p7), .val (.int p8), .unset, .unset, .unset, .unset, .unset, .unset, .unset, .unset] [])) rfl (hb hby at_113) (by decide) (by decide)
        obtain ⟨b16, g16⟩ : ∃ z, z = h0.size := ⟨_, rfl⟩
        rw [← g16] at A16 D16 st16
        have sz16 : h0.size ≤ h16.size := E16.1
        have lt16 : b16 < h16.size := A16.lt
        have F16_value : Fld Z h16 b16 "java/lang/String" "value" "[B" .null := D16 (Or.inr (hw _ (List.mem_of_getElem? (i := 23) rfl))) (ty := (.array .byte)) (by decide)
        have F16_coder : Fld Z h16 b16 "java/lang/String" "coder" "B" (.int (0 : Int32)) := D16 (Or.inr (hw _ (List.mem_of_getElem? (i := 25) rfl))) (ty := .byte) (by decide)
        refine GoW.pre st16 ?_
        show GoW p e below s _ _ _ (T16.setTop (mkF m 116 #[.val (.int p0), .val (.int p1), .val (.int p2), .val (.int p3), .val (.int p4), .val (.int p5), .val (.int p6), .val (.int p7), .val (.int p8), .unset, .unset, .unset, .unset, .unset, .unset, .unset, .unset] [(.ref b16)]))
        refine GoW.pre (st' := T16.setTop (mkF m 118 #[.val (.int p0), .val (.int p1), .val (.int p2), .val (.int p3), .val (.int p4), .val (.int p5), .val (.int p6), .val (.int p7), .val (.int p8), .unset, .unset, .unset, .unset, .unset, .unset, .unset, .unset] [(.int (2 : Int32)), (.ref b16), (.ref b16)])) (fun target kt => ?_) ?_
        · show Steps p.tables e below (T16.setTop (mkF m 116 #[.val (.int p0), .val (.int p1), .val (.int p2), .val (.int p3), .val (.int p4), .val (.int p5), .val (.int p6), .val (.int p7), .val (.int p8), .unset, .unset, .unset, .unset, .unset, .unset, .unset, .unset] [(.ref b16)])) _
          refine XS.dup X16.here hx rfl (hb hby at_116) rfl rfl ?_
          show Steps p.tables e below (T16.setTop (mkF m 117 #[.val (.int p0), .val (.int p1), .val (.int p2), .val (.int p3), .val (.int p4), .val (.int p5), .val (.int p6), .val (.int p7), .val (.int p8), .unset, .unset, .unset, .unset, .unset, .unset, .unset, .unset] [(.ref b16), (.ref b16)])) _
          refine XS.iconst X16.here hx rfl (hb hby at_117) ?_
          exact kt
        obtain ⟨T17, h17, k17, X17, e17, E17, A17, st17⟩ := newP X16 hx hZ (hw _ (List.mem_of_getElem? (i := 99) rfl)) e16 (g := (mkF m 118 #[.val (.int p0), .val (.int p1), .val (.int p2), .val (.int p3), .val (.int p4), .val (.int p5), .val (.int p6), .val (.int p7), .val (.int p8), .unset, .unset, .unset, .unset, .unset, .unset, .unset, .unset] [(.int (2 : Int32)), (.ref b16), (.ref b16)])) rfl (hb hby at_118) rfl (by decide) (cap := 2) (by decide) (by decide) (by decide) (by decide)
        obtain ⟨b17, g17⟩ : ∃ z, z = h16.size := ⟨_, rfl⟩
        rw [← g17] at A17 st17
        have sz17 : h16.size ≤ h17.size := E17.1
        have V17 : Arv Z h17 b17 k17 .char (2 : Int32) [(.int (0 : Int32)), (.int (0 : Int32))] (.int (0 : Int32)) := (Arv.new A17 (by decide)).pad (pad_rep [] (.int (0 : Int32)) 2)
        have lt17 : b17 < h17.size := V17.lt
        refine GoW.pre st17 ?_
        show GoW p e below s _ _ _ (T17.setTop (mkF m 120 #[.val (.int p0), .val (.int p1), .val (.int p2), .val (.int p3), .val (.int p4), .val (.int p5), .val (.int p6), .val (.int p7), .val (.int p8), .unset, .unset, .unset, .unset, .unset, .unset, .unset, .unset] [(.ref b17), (.ref b16), (.ref b16)]))
        refine GoW.pre (st' := T17.setTop (mkF m 128 #[.val (.int p0), .val (.int p1), .val (.int p2), .val (.int p3), .val (.int p4), .val (.int p5), .val (.int p6), .val (.int p7), .val (.int p8), .unset, .unset, .unset, .unset, .unset, .unset, .unset, .unset] [(.int ((p2 &&& (255 : Int32)).toUInt32.toUInt16.toUInt32.toInt32)), (.int (0 : Int32)), (.ref b17), (.ref b17), (.ref b16), (.ref b16)])) (fun target kt => ?_) ?_
        · show Steps p.tables e below (T17.setTop (mkF m 120 #[.val (.int p0), .val (.int p1), .val (.int p2), .val (.int p3), .val (.int p4), .val (.int p5), .val (.int p6), .val (.int p7), .val (.int p8), .unset, .unset, .unset, .unset, .unset, .unset, .unset, .unset] [(.ref b17), (.ref b16), (.ref b16)])) _
          refine XS.dup X17.here hx rfl (hb hby at_120) rfl rfl ?_
          show Steps p.tables e below (T17.setTop (mkF m 121 #[.val (.int p0), .val (.int p1), .val (.int p2), .val (.int p3), .val (.int p4), .val (.int p5), .val (.int p6), .val (.int p7), .val (.int p8), .unset, .unset, .unset, .unset, .unset, .unset, .unset, .unset] [(.ref b17), (.ref b17), (.ref b16), (.ref b16)])) _
          refine XS.iconst X17.here hx rfl (hb hby at_121) ?_
          show Steps p.tables e below (T17.setTop (mkF m 122 #[.val (.int p0), .val (.int p1), .val (.int p2), .val (.int p3), .val (.int p4), .val (.int p5), .val (.int p6), .val (.int p7), .val (.int p8), .unset, .unset, .unset, .unset, .unset, .unset, .unset, .unset] [(.int (0 : Int32)), (.ref b17), (.ref b17), (.ref b16), (.ref b16)])) _
          refine XS.iloadN X17.here hx rfl (hb hby at_122) rfl ?_
          show Steps p.tables e below (T17.setTop (mkF m 123 #[.val (.int p0), .val (.int p1), .val (.int p2), .val (.int p3), .val (.int p4), .val (.int p5), .val (.int p6), .val (.int p7), .val (.int p8), .unset, .unset, .unset, .unset, .unset, .unset, .unset, .unset] [(.int p2), (.int (0 : Int32)), (.ref b17), (.ref b17), (.ref b16), (.ref b16)])) _
          refine XS.sipush X17.here hx rfl (hb hby at_123) ?_
          show Steps p.tables e below (T17.setTop (mkF m 126 #[.val (.int p0), .val (.int p1), .val (.int p2), .val (.int p3), .val (.int p4), .val (.int p5), .val (.int p6), .val (.int p7), .val (.int p8), .unset, .unset, .unset, .unset, .unset, .unset, .unset, .unset] [(.int (255 : Int32)), (.int p2), (.int (0 : Int32)), (.ref b17), (.ref b17), (.ref b16), (.ref b16)])) _
          refine XS.iand X17.here hx rfl (hb hby at_126) rfl ?_
          show Steps p.tables e below (T17.setTop (mkF m 127 #[.val (.int p0), .val (.int p1), .val (.int p2), .val (.int p3), .val (.int p4), .val (.int p5), .val (.int p6), .val (.int p7), .val (.int p8), .unset, .unset, .unset, .unset, .unset, .unset, .unset, .unset] [(.int (p2 &&& (255 : Int32))), (.int (0 : Int32)), (.ref b17), (.ref b17), (.ref b16), (.ref b16)])) _
          refine XS.i2c X17.here hx rfl (hb hby at_127) rfl ?_
          exact kt
        obtain ⟨cl18, Ar18, q18, Sz18, Nn18, Hs18, Gs18⟩ := id V17
        have in18 := inb_of (j := (0 : Int32)) Sz18 ⟨by decide, by decide⟩
        obtain ⟨T18, h18, X18, e18, W18, st18⟩ := stC X17 hx hZ e17 Ar18 (j := (0 : Int32)) in18 (g := (mkF m 128 #[.val (.int p0), .val (.int p1), .val (.int p2), .val (.int p3), .val (.int p4), .val (.int p5), .val (.int p6), .val (.int p7), .val (.int p8), .unset, .unset, .unset, .unset, .unset, .unset, .unset, .unset] [(.int ((p2 &&& (255 : Int32)).toUInt32.toUInt16.toUInt32.toInt32)), (.int (0 : Int32)), (.ref b17), (.ref b17), (.ref b16), (.ref b16)])) rfl rfl (hb hby at_128)
        have sz18 : h17.size ≤ h18.size := (Keep.of_wr W18).1
        have V18 : Arv Z h18 b17 k17 .char (2 : Int32) [(.int (nar .char ((p2 &&& (255 : Int32)).toUInt32.toUInt16.toUInt32.toInt32))), (.int (0 : Int32))] (.int (0 : Int32)) := Arv.set Ar18 q18 Sz18 Nn18 Hs18 Gs18 (fits_nar_char _) W18 0 rfl (Nat.le_of_ble_eq_true rfl)
        have N18 := Fr.snoc X18 N0 (by omega)
        refine GoW.pre st18 ?_
        show GoW p e below s _ _ _ (T18.setTop (mkF m 129 #[.val (.int p0), .val (.int p1), .val (.int p2), .val (.int p3), .val (.int p4), .val (.int p5), .val (.int p6), .val (.int p7), .val (.int p8), .unset, .unset, .unset, .unset, .unset, .unset, .unset, .unset] [(.ref b17), (.ref b16), (.ref b16)]))
        refine GoW.pre (st' := T18.setTop (mkF m 140 #[.val (.int p0), .val (.int p1), .val (.int p2), .val (.int p3), .val (.int p4), .val (.int p5), .val (.int p6), .val (.int p7), .val (.int p8), .unset, .unset, .unset, .unset, .unset, .unset, .unset, .unset] [(.int ((((p2.toUInt32 >>> ((8 : Int32) &&& 31).toUInt32).toInt32) &&& (255 : Int32)).toUInt32.toUInt16.toUInt32.toInt32)), (.int (1 : Int32)), (.ref b17), (.ref b17), (.ref b16), (.ref b16)])) (fun target kt => ?_) ?_
        · show Steps p.tables e below (T18.setTop (mkF m 129 #[.val (.int p0), .val (.int p1), .val (.int p2), .val (.int p3), .val (.int p4), .val (.int p5), .val (.int p6), .val (.int p7), .val (.int p8), .unset, .unset, .unset, .unset, .unset, .unset, .unset, .unset] [(.ref b17), (.ref b16), (.ref b16)])) _
          refine XS.dup X18.here hx rfl (hb hby at_129) rfl rfl ?_
          show Steps p.tables e below (T18.setTop (mkF m 130 #[.val (.int p0), .val (.int p1), .val (.int p2), .val (.int p3), .val (.int p4), .val (.int p5), .val (.int p6), .val (.int p7), .val (.int p8), .unset, .unset, .unset, .unset, .unset, .unset, .unset, .unset] [(.ref b17), (.ref b17), (.ref b16), (.ref b16)])) _
          refine XS.iconst X18.here hx rfl (hb hby at_130) ?_
          show Steps p.tables e below (T18.setTop (mkF m 131 #[.val (.int p0), .val (.int p1), .val (.int p2), .val (.int p3), .val (.int p4), .val (.int p5), .val (.int p6), .val (.int p7), .val (.int p8), .unset, .unset, .unset, .unset, .unset, .unset, .unset, .unset] [(.int (1 : Int32)), (.ref b17), (.ref b17), (.ref b16), (.ref b16)])) _
          refine XS.iloadN X18.here hx rfl (hb hby at_131) rfl ?_
          show Steps p.tables e below (T18.setTop (mkF m 132 #[.val (.int p0), .val (.int p1), .val (.int p2), .val (.int p3), .val (.int p4), .val (.int p5), .val (.int p6), .val (.int p7), .val (.int p8), .unset, .unset, .unset, .unset, .unset, .unset, .unset, .unset] [(.int p2), (.int (1 : Int32)), (.ref b17), (.ref b17), (.ref b16), (.ref b16)])) _
          refine XS.bipush X18.here hx rfl (hb hby at_132) ?_
          show Steps p.tables e below (T18.setTop (mkF m 134 #[.val (.int p0), .val (.int p1), .val (.int p2), .val (.int p3), .val (.int p4), .val (.int p5), .val (.int p6), .val (.int p7), .val (.int p8), .unset, .unset, .unset, .unset, .unset, .unset, .unset, .unset] [(.int (8 : Int32)), (.int p2), (.int (1 : Int32)), (.ref b17), (.ref b17), (.ref b16), (.ref b16)])) _
          refine XS.iushr X18.here hx rfl (hb hby at_134) rfl ?_
          show Steps p.tables e below (T18.setTop (mkF m 135 #[.val (.int p0), .val (.int p1), .val (.int p2), .val (.int p3), .val (.int p4), .val (.int p5), .val (.int p6), .val (.int p7), .val (.int p8), .unset, .unset, .unset, .unset, .unset, .unset, .unset, .unset] [(.int ((p2.toUInt32 >>> ((8 : Int32) &&& 31).toUInt32).toInt32)), (.int (1 : Int32)), (.ref b17), (.ref b17), (.ref b16), (.ref b16)])) _
          refine XS.sipush X18.here hx rfl (hb hby at_135) ?_
          show Steps p.tables e below (T18.setTop (mkF m 138 #[.val (.int p0), .val (.int p1), .val (.int p2), .val (.int p3), .val (.int p4), .val (.int p5), .val (.int p6), .val (.int p7), .val (.int p8), .unset, .unset, .unset, .unset, .unset, .unset, .unset, .unset] [(.int (255 : Int32)), (.int ((p2.toUInt32 >>> ((8 : Int32) &&& 31).toUInt32).toInt32)), (.int (1 : Int32)), (.ref b17), (.ref b17), (.ref b16), (.ref b16)])) _
          refine XS.iand X18.here hx rfl (hb hby at_138) rfl ?_
          show Steps p.tables e below (T18.setTop (mkF m 139 #[.val (.int p0), .val (.int p1), .val (.int p2), .val (.int p3), .val (.int p4), .val (.int p5), .val (.int p6), .val (.int p7), .val (.int p8), .unset, .unset, .unset, .unset, .unset, .unset, .unset, .unset] [(.int (((p2.toUInt32 >>> ((8 : Int32) &&& 31).toUInt32).toInt32) &&& (255 : Int32))), (.int (1 : Int32)), (.ref b17), (.ref b17), (.ref b16), (.ref b16)])) _
          refine XS.i2c X18.here hx rfl (hb hby at_139) rfl ?_
          exact kt
        obtain ⟨cl19, Ar19, q19, Sz19, Nn19, Hs19, Gs19⟩ := id V18
        have in19 := inb_of (j := (1 : Int32)) Sz19 ⟨by decide, by decide⟩
        obtain ⟨T19, h19, X19, e19, W19, st19⟩ := stC X18 hx hZ e18 Ar19 (j := (1 : Int32)) in19 (g := (mkF m 140 #[.val (.int p0), .val (.int p1), .val (.int p2), .val (.int p3), .val (.int p4), .val (.int p5), .val (.int p6), .val (.int p7), .val (.int p8), .unset, .unset, .unset, .unset, .unset, .unset, .unset, .unset] [(.int ((((p2.toUInt32 >>> ((8 : Int32) &&& 31).toUInt32).toInt32) &&& (255 : Int32)).toUInt32.toUInt16.toUInt32.toInt32)), (.int (1 : Int32)), (.ref b17), (.ref b17), (.ref b16), (.ref b16)])) rfl rfl (hb hby at_140)
        have sz19 : h18.size ≤ h19.size := (Keep.of_wr W19).1
        have V19 : Arv Z h19 b17 k17 .char (2 : Int32) [(.int (nar .char ((p2 &&& (255 : Int32)).toUInt32.toUInt16.toUInt32.toInt32))), (.int (nar .char ((((p2.toUInt32 >>> ((8 : Int32) &&& 31).toUInt32).toInt32) &&& (255 : Int32)).toUInt32.toUInt16.toUInt32.toInt32)))] (.int (0 : Int32)) := Arv.set Ar19 q19 Sz19 Nn19 Hs19 Gs19 (fits_nar_char _) W19 1 rfl (Nat.le_of_ble_eq_true rfl)
        have N19 := Fr.snoc X19 N18 (by omega)
        refine GoW.pre st19 ?_
        show GoW p e below s _ _ _ (T19.setTop (mkF m 141 #[.val (.int p0), .val (.int p1), .val (.int p2), .val (.int p3), .val (.int p4), .val (.int p5), .val (.int p6), .val (.int p7), .val (.int p8), .unset, .unset, .unset, .unset, .unset, .unset, .unset, .unset] [(.ref b17), (.ref b16), (.ref b16)]))
        have Y21 : Old Z n0 h19 := ((((Ol.ext E16).ext E17).wr W18 (by omega)).wr W19 (by omega))
        have Y22 : Fld Z h19 b16 "java/lang/String" "coder" "B" (.int (0 : Int32)) := (((F16_coder.ext E17).other W18 (Or.inl (by show @Ne Nat b16 b17; omega))).other W19 (Or.inl (by show @Ne Nat b16 b17; omega)))
        have Y23 : Exa Z h19 b16 "java/lang/String" := (((A16.ext E17).wr W18).wr W19)
        have Y24 : Fld Z h19 b16 "java/lang/String" "value" "[B" .null := (((F16_value.ext E17).other W18 (Or.inl (by show @Ne Nat b16 b17; omega))).other W19 (Or.inl (by show @Ne Nat b16 b17; omega)))
        obtain ⟨_, _, ⟨T20, L20, k20, n20⟩, -, X20, ⟨Lc20, hQ20, l20, y20, z20⟩, st20⟩ := X19.specialBack hx (y := (⟨"java/lang/String", "<init>", "([C)V"⟩ : MethodName)) rfl hown (mvT hZ (hw _ (List.mem_of_getElem? (i := 100) rfl))) (mvT hZ (hw _ (List.mem_of_getElem? (i := 101) rfl))) (mvT hZ (hw _ (List.mem_of_getElem? (i := 102) rfl))) (by decide) (backOf (W := 1) (rm13c l Z a0 hw [] b16 b17 k17 (nar .char ((p2 &&& (255 : Int32)).toUInt32.toUInt16.toUInt32.toInt32)) (nar .char ((((p2.toUInt32 >>> ((8 : Int32) &&& 31).toUInt32).toInt32) &&& (255 : Int32)).toUInt32.toUInt16.toUInt32.toInt32)) zc (.int (0 : Int32)) .null h19 n0 (by omega) V19 S_COMPACT Y21 Y22 Y23 (by omega) Y24 (own_c255n _) (own_c255n _) hcs) hZ (hw _ (List.mem_of_getElem? (i := 102) rfl)) (hw _ (List.mem_of_getElem? (i := 2) rfl)) (by decide) (by decide)) (g := (mkF m 141 #[.val (.int p0), .val (.int p1), .val (.int p2), .val (.int p3), .val (.int p4), .val (.int p5), .val (.int p6), .val (.int p7), .val (.int p8), .unset, .unset, .unset, .unset, .unset, .unset, .unset, .unset] [(.ref b17), (.ref b16), (.ref b16)])) rfl (by rw [hml]; rfl) (Steps.refl _) (a := b16) (argsL := [(.ref b17)]) (rest := [(.ref b16)]) (lenOf pd61_0 rfl) rfl (by show 2 * 0 + _ ≤ _; exact Nat.le_of_eq rfl) (hb hby at_141) (fun vm₁ hvm => ⟨rfl, e19, (by decide : 2 + 1 ≤ _), (by decide : 6 + 2 ≤ _)⟩)
        dsimp only [Pt.U, Pt.locs, Pt.cells, Pt.slots] at X20 l20 y20 z20 st20 hQ20
        subst l20 y20 z20
        obtain ⟨b20_0, k20_0, rfl, N20q, K20, KF20, gb20_0, ltb20_0, Y20_0, Y20_1, Y20_2⟩ := hQ20
        have sz20 : h19.size ≤ T20.heap.size := K20.1
        have N20 := Fr.app N19 N20q
        refine GoW.trans st20 ?_
        show GoW p e below s _ _ _ (T20.setTop (mkF m 144 #[.val (.int p0), .val (.int p1), .val (.int p2), .val (.int p3), .val (.int p4), .val (.int p5), .val (.int p6), .val (.int p7), .val (.int p8), .unset, .unset, .unset, .unset, .unset, .unset, .unset, .unset] [(.ref b16)]))
        refine GoW.pre (st' := T20.setTop (mkF m 146 #[.val (.int p0), .val (.int p1), .val (.int p2), .val (.int p3), .val (.int p4), .val (.int p5), .val (.int p6), .val (.int p7), .val (.int p8), .val (.ref b16), .unset, .unset, .unset, .unset, .unset, .unset, .unset] [])) (fun target kt => ?_) ?_
        · show Steps p.tables e below (T20.setTop (mkF m 144 #[.val (.int p0), .val (.int p1), .val (.int p2), .val (.int p3), .val (.int p4), .val (.int p5), .val (.int p6), .val (.int p7), .val (.int p8), .unset, .unset, .unset, .unset, .unset, .unset, .unset, .unset] [(.ref b16)])) _
          refine XS.astore X20.here hx rfl (hb hby at_144) rfl rfl (l' := #[.val (.int p0), .val (.int p1), .val (.int p2), .val (.int p3), .val (.int p4), .val (.int p5), .val (.int p6), .val (.int p7), .val (.int p8), .val (.ref b16), .unset, .unset, .unset, .unset, .unset, .unset, .unset]) rfl ?_
          exact kt
        have Y25 : Old Z n0 T20.heap := (Y21.keep K20 (allS (by omega) all0))
        have Y26 : Arv Z T20.heap zd kd (.object "java/lang/Object") (0 : Int32) [] .null := (((((A_zd.ext E16).ext E17).other W18 (by show @Ne Nat zd b17; omega)).other W19 (by show @Ne Nat zd b17; omega)).keep K20 (ninS (by show @Ne Nat zd b16; omega) nin0))
        exact blk146R ⟨hx, hZ, hby, hml, hown, hrt, hlk⟩ hw hS (by omega) (IB.sup hI (by simp)) hnS hkp (padS X20 (by decide) (by decide)) rfl N20 p0 p1 p2 p3 p4 p5 p6 p7 p8 b16 zc zd kd (by omega) h01 S_COMPACT hcs S_D Y26 Y25 hcw hheld
/-! ProtoFieldHasPresencePinLaw.law (0) -/
theorem pn_0 : plainName "com/example/araucaria/araucaria/proto/ProtoFieldHasPresencePinLaw" = true := by first | (simp [plainName, overriddenIn]; done) | decide +kernel
theorem ef_0 (m : MethodId) (p0 : Int32) (p1 : Int32) (p2 : Int32) (p3 : Int32) : entryFrame m #[(.int p0), (.int p1), (.int p2), (.int p3)] maxLocals = (mkF m 0 #[.val (.int p0), .val (.int p1), .val (.int p2), .val (.int p3), .unset, .unset, .unset, .unset, .unset, .unset, .unset, .unset, .unset, .unset, .unset, .unset, .unset] []) := by first | (simp [entryFrame, mkF, argsToLocals, Value.category, maxLocals]; done) | rfl
def Q0 (Z : State) (p0 : Int32) (p1 : Int32) (p2 : Int32) (p3 : Int32) (zc : Int32) (zd : Addr) (kd : ClassId) (h0 : Heap) (n0 : Nat) (v : Option Value) (vm : Vm) (h : Heap) (L : List Loc) : Prop := v = some (.int 1) ∧ Fr n0 L
set_option maxRecDepth 65536 in
set_option maxHeartbeats 40000000 in
theorem rm0 (l : Launch) (Z : State) (a0 : Array Value) (hw : ∀ d ∈ tables_1, d.before a0 Z = true) (ws : List Jvm.Cond) (p0 : Int32) (p1 : Int32) (p2 : Int32) (p3 : Int32) (zc : Int32) (zd : Addr) (kd : ClassId) (h0 : Heap) (n0 : Nat) (Z0 : n0 ≤ h0.size) (S_COMPACT : Sta Z Z.heap "java/lang/String" "COMPACT_STRINGS" "Z" (.int zc)) (hcs : ¬ (zc = (0 : Int32))) (S_D : Sta Z Z.heap "java/util/ArrayList" "DEFAULTCAPACITY_EMPTY_ELEMENTDATA" "[Ljava/lang/Object;" (.ref zd)) (A_zd : Arv Z h0 zd kd (.object "java/lang/Object") (0 : Int32) [] .null) (Ol : Old Z n0 h0) (hcw : Jvm.Lit.compactW.before a0 Z = true) (hheld : ∀ q ∈ consts_1, Jvm.Lit.constHeld Z q.1 q.2) (hn0 : n0 = h0.size) :
    MetFree l x (head1 (Jvm.Cond.code x code maxLocals ret :: ws) room_1) (fun a U => a = #[(.int p0), (.int p1), (.int p2), (.int p3)] ∧ Z.Warmed39 U.vm ∧ U.heap = h0 ∧ IB Z U.vm []) (fun _ _ _ _ _ => True) (fun _ U o U' => ∃ v L, o = .returned v ∧ Q0 Z p0 p1 p2 p3 zc zd kd h0 n0 v U'.vm U'.heap L ∧ ReturnedEndW U o U' L 40 3264) := by
  refine MetFree.of_bodySF (plainFor_of_name pn_0) hisR ?_
  intro p e s m args below meth c s₁ Bd hml0 hP hK
  obtain ⟨rfl, hZ, hh, hI⟩ := hP
  have hx := Bd.exec
  have hby := Bd.bytes
  have hml : c.maxLocals = 17 := hml0
  have hown : s.vm.findClass "com/example/araucaria/araucaria/proto/ProtoFieldHasPresencePinLaw" = some m.cls := findClass_of_methodNamed Bd.named
  have hnm := (name_of_methodNamed Bd.named Bd.method).1
  have hrt := Bd.returns
  have hlk := Bd.notSynchronized
  have X0 : Stand p l e room_1 (s.setVm s.vm) m #[(.int p0), (.int p1), (.int p2), (.int p3)] below meth c s₁ [] 0 0 := Stand.of_body Bd
  have hS : s.Since s.vm 0 := (State.WarmedH.refl s).since 0
  have hk := Nat.zero_le h0.size
  have hkp : ∀ (b : Addr) (cl : Cell), Z.heap[b]? = some cl → s.heap[b]? = some cl := fun b cl q => by rw [show (s.heap : Heap) = h0 from hh]; exact Ol.2.2 b cl q
  have hnS : n0 = s.heap.size := by rw [show (s.heap : Heap) = h0 from hh]; exact hn0
  have e0 : s₁.heap = h0 := by rw [← hh, Bd.state]; rfl
  have N0 := Fr.nil n0
  have lt_A_zd : LT.lt (α := Nat) zd h0.size := A_zd.lt
  show GoW p e below s 40 3264 (Q0 Z p0 p1 p2 p3 zc zd kd h0 n0) (s₁.setTop (entryFrame m #[(.int p0), (.int p1), (.int p2), (.int p3)] maxLocals))
  rw [ef_0 m p0 p1 p2 p3]
  refine GoW.pre (st' := s₁.setTop (mkF m 3 #[.val (.int p0), .val (.int p1), .val (.int p2), .val (.int p3), .unset, .unset, .unset, .unset, .unset, .unset, .unset, .unset, .unset, .unset, .unset, .unset, .unset] [(.int (p1 &&& (1 : Int32)))])) (fun target kt => ?_) ?_
  · show Steps p.tables e below (s₁.setTop (mkF m 0 #[.val (.int p0), .val (.int p1), .val (.int p2), .val (.int p3), .unset, .unset, .unset, .unset, .unset, .unset, .unset, .unset, .unset, .unset, .unset, .unset, .unset] [])) _
    refine XS.iloadN X0.here hx rfl (hb hby at_0) rfl ?_
    show Steps p.tables e below (s₁.setTop (mkF m 1 #[.val (.int p0), .val (.int p1), .val (.int p2), .val (.int p3), .unset, .unset, .unset, .unset, .unset, .unset, .unset, .unset, .unset, .unset, .unset, .unset, .unset] [(.int p1)])) _
    refine XS.iconst X0.here hx rfl (hb hby at_1) ?_
    show Steps p.tables e below (s₁.setTop (mkF m 2 #[.val (.int p0), .val (.int p1), .val (.int p2), .val (.int p3), .unset, .unset, .unset, .unset, .unset, .unset, .unset, .unset, .unset, .unset, .unset, .unset, .unset] [(.int (1 : Int32)), (.int p1)])) _
    refine XS.iand X0.here hx rfl (hb hby at_2) rfl ?_
    exact kt
  by_cases h3_1 : (p1 &&& (1 : Int32)) = (0 : Int32)
  · refine GoW.pre (st' := s₁.setTop (mkF m 10 #[.val (.int p0), .val (.int p1), .val (.int p2), .val (.int p3), .unset, .unset, .unset, .unset, .unset, .unset, .unset, .unset, .unset, .unset, .unset, .unset, .unset] [])) (fun target kt => ?_) ?_
    · show Steps p.tables e below (s₁.setTop (mkF m 3 #[.val (.int p0), .val (.int p1), .val (.int p2), .val (.int p3), .unset, .unset, .unset, .unset, .unset, .unset, .unset, .unset, .unset, .unset, .unset, .unset, .unset] [(.int (p1 &&& (1 : Int32)))])) _
      refine XS.ifYes X0.here hx rfl (pc0 := 3) (pc' := 10) rfl (hb hby at_3) rfl ((if0 _ _).trans (teq h3_1).1) (by decide) (by decide) ?_
      exact kt
    refine GoW.pre (st' := s₁.setTop (mkF m 16 #[.val (.int p0), .val (.int p1), .val (.int p2), .val (.int p3), .val (.int (0 : Int32)), .unset, .unset, .unset, .unset, .unset, .unset, .unset, .unset, .unset, .unset, .unset, .unset] [(.int (p1 &&& (2 : Int32)))])) (fun target kt => ?_) ?_
    · show Steps p.tables e below (s₁.setTop (mkF m 10 #[.val (.int p0), .val (.int p1), .val (.int p2), .val (.int p3), .unset, .unset, .unset, .unset, .unset, .unset, .unset, .unset, .unset, .unset, .unset, .unset, .unset] [])) _
      refine XS.iconst X0.here hx rfl (hb hby at_10) ?_
      show Steps p.tables e below (s₁.setTop (mkF m 11 #[.val (.int p0), .val (.int p1), .val (.int p2), .val (.int p3), .unset, .unset, .unset, .unset, .unset, .unset, .unset, .unset, .unset, .unset, .unset, .unset, .unset] [(.int (0 : Int32))])) _
      refine XS.istore X0.here hx rfl (hb hby at_11) rfl (l' := #[.val (.int p0), .val (.int p1), .val (.int p2), .val (.int p3), .val (.int (0 : Int32)), .unset, .unset, .unset, .unset, .unset, .unset, .unset, .unset, .unset, .unset, .unset, .unset]) rfl ?_
      show Steps p.tables e below (s₁.setTop (mkF m 13 #[.val (.int p0), .val (.int p1), .val (.int p2), .val (.int p3), .val (.int (0 : Int32)), .unset, .unset, .unset, .unset, .unset, .unset, .unset, .unset, .unset, .unset, .unset, .unset] [])) _
      refine XS.iloadN X0.here hx rfl (hb hby at_13) rfl ?_
      show Steps p.tables e below (s₁.setTop (mkF m 14 #[.val (.int p0), .val (.int p1), .val (.int p2), .val (.int p3), .val (.int (0 : Int32)), .unset, .unset, .unset, .unset, .unset, .unset, .unset, .unset, .unset, .unset, .unset, .unset] [(.int p1)])) _
      refine XS.iconst X0.here hx rfl (hb hby at_14) ?_
      show Steps p.tables e below (s₁.setTop (mkF m 15 #[.val (.int p0), .val (.int p1), .val (.int p2), .val (.int p3), .val (.int (0 : Int32)), .unset, .unset, .unset, .unset, .unset, .unset, .unset, .unset, .unset, .unset, .unset, .unset] [(.int (2 : Int32)), (.int p1)])) _
      refine XS.iand X0.here hx rfl (hb hby at_15) rfl ?_
      exact kt
    by_cases h16_2 : (p1 &&& (2 : Int32)) = (0 : Int32)
    · refine GoW.pre (st' := s₁.setTop (mkF m 23 #[.val (.int p0), .val (.int p1), .val (.int p2), .val (.int p3), .val (.int (0 : Int32)), .unset, .unset, .unset, .unset, .unset, .unset, .unset, .unset, .unset, .unset, .unset, .unset] [])) (fun target kt => ?_) ?_
      · show Steps p.tables e below (s₁.setTop (mkF m 16 #[.val (.int p0), .val (.int p1), .val (.int p2), .val (.int p3), .val (.int (0 : Int32)), .unset, .unset, .unset, .unset, .unset, .unset, .unset, .unset, .unset, .unset, .unset, .unset] [(.int (p1 &&& (2 : Int32)))])) _
        refine XS.ifYes X0.here hx rfl (pc0 := 16) (pc' := 23) rfl (hb hby at_16) rfl ((if0 _ _).trans (teq h16_2).1) (by decide) (by decide) ?_
        exact kt
      refine GoW.pre (st' := s₁.setTop (mkF m 37 #[.val (.int p0), .val (.int p1), .val (.int p2), .val (.int p3), .val (.int (0 : Int32)), .val (.int (0 : Int32)), .val (.int (((p1.toUInt32 >>> ((2 : Int32) &&& 31).toUInt32).toInt32) &&& (3 : Int32))), .unset, .unset, .unset, .unset, .unset, .unset, .unset, .unset, .unset, .unset] [(.int (p1 &&& (16 : Int32)))])) (fun target kt => ?_) ?_
      · show Steps p.tables e below (s₁.setTop (mkF m 23 #[.val (.int p0), .val (.int p1), .val (.int p2), .val (.int p3), .val (.int (0 : Int32)), .unset, .unset, .unset, .unset, .unset, .unset, .unset, .unset, .unset, .unset, .unset, .unset] [])) _
        refine XS.iconst X0.here hx rfl (hb hby at_23) ?_
        show Steps p.tables e below (s₁.setTop (mkF m 24 #[.val (.int p0), .val (.int p1), .val (.int p2), .val (.int p3), .val (.int (0 : Int32)), .unset, .unset, .unset, .unset, .unset, .unset, .unset, .unset, .unset, .unset, .unset, .unset] [(.int (0 : Int32))])) _
        refine XS.istore X0.here hx rfl (hb hby at_24) rfl (l' := #[.val (.int p0), .val (.int p1), .val (.int p2), .val (.int p3), .val (.int (0 : Int32)), .val (.int (0 : Int32)), .unset, .unset, .unset, .unset, .unset, .unset, .unset, .unset, .unset, .unset, .unset]) rfl ?_
        show Steps p.tables e below (s₁.setTop (mkF m 26 #[.val (.int p0), .val (.int p1), .val (.int p2), .val (.int p3), .val (.int (0 : Int32)), .val (.int (0 : Int32)), .unset, .unset, .unset, .unset, .unset, .unset, .unset, .unset, .unset, .unset, .unset] [])) _
        refine XS.iloadN X0.here hx rfl (hb hby at_26) rfl ?_
        show Steps p.tables e below (s₁.setTop (mkF m 27 #[.val (.int p0), .val (.int p1), .val (.int p2), .val (.int p3), .val (.int (0 : Int32)), .val (.int (0 : Int32)), .unset, .unset, .unset, .unset, .unset, .unset, .unset, .unset, .unset, .unset, .unset] [(.int p1)])) _
        refine XS.iconst X0.here hx rfl (hb hby at_27) ?_
        show Steps p.tables e below (s₁.setTop (mkF m 28 #[.val (.int p0), .val (.int p1), .val (.int p2), .val (.int p3), .val (.int (0 : Int32)), .val (.int (0 : Int32)), .unset, .unset, .unset, .unset, .unset, .unset, .unset, .unset, .unset, .unset, .unset] [(.int (2 : Int32)), (.int p1)])) _
        refine XS.iushr X0.here hx rfl (hb hby at_28) rfl ?_
        show Steps p.tables e below (s₁.setTop (mkF m 29 #[.val (.int p0), .val (.int p1), .val (.int p2), .val (.int p3), .val (.int (0 : Int32)), .val (.int (0 : Int32)), .unset, .unset, .unset, .unset, .unset, .unset, .unset, .unset, .unset, .unset, .unset] [(.int ((p1.toUInt32 >>> ((2 : Int32) &&& 31).toUInt32).toInt32))])) _
        refine XS.iconst X0.here hx rfl (hb hby at_29) ?_
        show Steps p.tables e below (s₁.setTop (mkF m 30 #[.val (.int p0), .val (.int p1), .val (.int p2), .val (.int p3), .val (.int (0 : Int32)), .val (.int (0 : Int32)), .unset, .unset, .unset, .unset, .unset, .unset, .unset, .unset, .unset, .unset, .unset] [(.int (3 : Int32)), (.int ((p1.toUInt32 >>> ((2 : Int32) &&& 31).toUInt32).toInt32))])) _
        refine XS.iand X0.here hx rfl (hb hby at_30) rfl ?_
        show Steps p.tables e below (s₁.setTop (mkF m 31 #[.val (.int p0), .val (.int p1), .val (.int p2), .val (.int p3), .val (.int (0 : Int32)), .val (.int (0 : Int32)), .unset, .unset, .unset, .unset, .unset, .unset, .unset, .unset, .unset, .unset, .unset] [(.int (((p1.toUInt32 >>> ((2 : Int32) &&& 31).toUInt32).toInt32) &&& (3 : Int32)))])) _
        refine XS.istore X0.here hx rfl (hb hby at_31) rfl (l' := #[.val (.int p0), .val (.int p1), .val (.int p2), .val (.int p3), .val (.int (0 : Int32)), .val (.int (0 : Int32)), .val (.int (((p1.toUInt32 >>> ((2 : Int32) &&& 31).toUInt32).toInt32) &&& (3 : Int32))), .unset, .unset, .unset, .unset, .unset, .unset, .unset, .unset, .unset, .unset]) rfl ?_
        show Steps p.tables e below (s₁.setTop (mkF m 33 #[.val (.int p0), .val (.int p1), .val (.int p2), .val (.int p3), .val (.int (0 : Int32)), .val (.int (0 : Int32)), .val (.int (((p1.toUInt32 >>> ((2 : Int32) &&& 31).toUInt32).toInt32) &&& (3 : Int32))), .unset, .unset, .unset, .unset, .unset, .unset, .unset, .unset, .unset, .unset] [])) _
        refine XS.iloadN X0.here hx rfl (hb hby at_33) rfl ?_
        show Steps p.tables e below (s₁.setTop (mkF m 34 #[.val (.int p0), .val (.int p1), .val (.int p2), .val (.int p3), .val (.int (0 : Int32)), .val (.int (0 : Int32)), .val (.int (((p1.toUInt32 >>> ((2 : Int32) &&& 31).toUInt32).toInt32) &&& (3 : Int32))), .unset, .unset, .unset, .unset, .unset, .unset, .unset, .unset, .unset, .unset] [(.int p1)])) _
        refine XS.bipush X0.here hx rfl (hb hby at_34) ?_
        show Steps p.tables e below (s₁.setTop (mkF m 36 #[.val (.int p0), .val (.int p1), .val (.int p2), .val (.int p3), .val (.int (0 : Int32)), .val (.int (0 : Int32)), .val (.int (((p1.toUInt32 >>> ((2 : Int32) &&& 31).toUInt32).toInt32) &&& (3 : Int32))), .unset, .unset, .unset, .unset, .unset, .unset, .unset, .unset, .unset, .unset] [(.int (16 : Int32)), (.int p1)])) _
        refine XS.iand X0.here hx rfl (hb hby at_36) rfl ?_
        exact kt
      by_cases h37_3 : (p1 &&& (16 : Int32)) = (0 : Int32)
      · refine GoW.pre (st' := s₁.setTop (mkF m 44 #[.val (.int p0), .val (.int p1), .val (.int p2), .val (.int p3), .val (.int (0 : Int32)), .val (.int (0 : Int32)), .val (.int (((p1.toUInt32 >>> ((2 : Int32) &&& 31).toUInt32).toInt32) &&& (3 : Int32))), .unset, .unset, .unset, .unset, .unset, .unset, .unset, .unset, .unset, .unset] [])) (fun target kt => ?_) ?_
        · show Steps p.tables e below (s₁.setTop (mkF m 37 #[.val (.int p0), .val (.int p1), .val (.int p2), .val (.int p3), .val (.int (0 : Int32)), .val (.int (0 : Int32)), .val (.int (((p1.toUInt32 >>> ((2 : Int32) &&& 31).toUInt32).toInt32) &&& (3 : Int32))), .unset, .unset, .unset, .unset, .unset, .unset, .unset, .unset, .unset, .unset] [(.int (p1 &&& (16 : Int32)))])) _
          refine XS.ifYes X0.here hx rfl (pc0 := 37) (pc' := 44) rfl (hb hby at_37) rfl ((if0 _ _).trans (teq h37_3).1) (by decide) (by decide) ?_
          exact kt
        refine GoW.pre (st' := s₁.setTop (mkF m 51 #[.val (.int p0), .val (.int p1), .val (.int p2), .val (.int p3), .val (.int (0 : Int32)), .val (.int (0 : Int32)), .val (.int (((p1.toUInt32 >>> ((2 : Int32) &&& 31).toUInt32).toInt32) &&& (3 : Int32))), .val (.int (0 : Int32)), .unset, .unset, .unset, .unset, .unset, .unset, .unset, .unset, .unset] [(.int (p1 &&& (32 : Int32)))])) (fun target kt => ?_) ?_
        · show Steps p.tables e below (s₁.setTop (mkF m 44 #[.val (.int p0), .val (.int p1), .val (.int p2), .val (.int p3), .val (.int (0 : Int32)), .val (.int (0 : Int32)), .val (.int (((p1.toUInt32 >>> ((2 : Int32) &&& 31).toUInt32).toInt32) &&& (3 : Int32))), .unset, .unset, .unset, .unset, .unset, .unset, .unset, .unset, .unset, .unset] [])) _
          refine XS.iconst X0.here hx rfl (hb hby at_44) ?_
          show Steps p.tables e below (s₁.setTop (mkF m 45 #[.val (.int p0), .val (.int p1), .val (.int p2), .val (.int p3), .val (.int (0 : Int32)), .val (.int (0 : Int32)), .val (.int (((p1.toUInt32 >>> ((2 : Int32) &&& 31).toUInt32).toInt32) &&& (3 : Int32))), .unset, .unset, .unset, .unset, .unset, .unset, .unset, .unset, .unset, .unset] [(.int (0 : Int32))])) _
          refine XS.istore X0.here hx rfl (hb hby at_45) rfl (l' := #[.val (.int p0), .val (.int p1), .val (.int p2), .val (.int p3), .val (.int (0 : Int32)), .val (.int (0 : Int32)), .val (.int (((p1.toUInt32 >>> ((2 : Int32) &&& 31).toUInt32).toInt32) &&& (3 : Int32))), .val (.int (0 : Int32)), .unset, .unset, .unset, .unset, .unset, .unset, .unset, .unset, .unset]) rfl ?_
          show Steps p.tables e below (s₁.setTop (mkF m 47 #[.val (.int p0), .val (.int p1), .val (.int p2), .val (.int p3), .val (.int (0 : Int32)), .val (.int (0 : Int32)), .val (.int (((p1.toUInt32 >>> ((2 : Int32) &&& 31).toUInt32).toInt32) &&& (3 : Int32))), .val (.int (0 : Int32)), .unset, .unset, .unset, .unset, .unset, .unset, .unset, .unset, .unset] [])) _
          refine XS.iloadN X0.here hx rfl (hb hby at_47) rfl ?_
          show Steps p.tables e below (s₁.setTop (mkF m 48 #[.val (.int p0), .val (.int p1), .val (.int p2), .val (.int p3), .val (.int (0 : Int32)), .val (.int (0 : Int32)), .val (.int (((p1.toUInt32 >>> ((2 : Int32) &&& 31).toUInt32).toInt32) &&& (3 : Int32))), .val (.int (0 : Int32)), .unset, .unset, .unset, .unset, .unset, .unset, .unset, .unset, .unset] [(.int p1)])) _
          refine XS.bipush X0.here hx rfl (hb hby at_48) ?_
          show Steps p.tables e below (s₁.setTop (mkF m 50 #[.val (.int p0), .val (.int p1), .val (.int p2), .val (.int p3), .val (.int (0 : Int32)), .val (.int (0 : Int32)), .val (.int (((p1.toUInt32 >>> ((2 : Int32) &&& 31).toUInt32).toInt32) &&& (3 : Int32))), .val (.int (0 : Int32)), .unset, .unset, .unset, .unset, .unset, .unset, .unset, .unset, .unset] [(.int (32 : Int32)), (.int p1)])) _
          refine XS.iand X0.here hx rfl (hb hby at_50) rfl ?_
          exact kt
        by_cases h51_4 : (p1 &&& (32 : Int32)) = (0 : Int32)
        · refine GoW.pre (st' := s₁.setTop (mkF m 58 #[.val (.int p0), .val (.int p1), .val (.int p2), .val (.int p3), .val (.int (0 : Int32)), .val (.int (0 : Int32)), .val (.int (((p1.toUInt32 >>> ((2 : Int32) &&& 31).toUInt32).toInt32) &&& (3 : Int32))), .val (.int (0 : Int32)), .unset, .unset, .unset, .unset, .unset, .unset, .unset, .unset, .unset] [])) (fun target kt => ?_) ?_
          · show Steps p.tables e below (s₁.setTop (mkF m 51 #[.val (.int p0), .val (.int p1), .val (.int p2), .val (.int p3), .val (.int (0 : Int32)), .val (.int (0 : Int32)), .val (.int (((p1.toUInt32 >>> ((2 : Int32) &&& 31).toUInt32).toInt32) &&& (3 : Int32))), .val (.int (0 : Int32)), .unset, .unset, .unset, .unset, .unset, .unset, .unset, .unset, .unset] [(.int (p1 &&& (32 : Int32)))])) _
            refine XS.ifYes X0.here hx rfl (pc0 := 51) (pc' := 58) rfl (hb hby at_51) rfl ((if0 _ _).trans (teq h51_4).1) (by decide) (by decide) ?_
            exact kt
          refine GoW.pre (st' := s₁.setTop (mkF m 61 #[.val (.int p0), .val (.int p1), .val (.int p2), .val (.int p3), .val (.int (0 : Int32)), .val (.int (0 : Int32)), .val (.int (((p1.toUInt32 >>> ((2 : Int32) &&& 31).toUInt32).toInt32) &&& (3 : Int32))), .val (.int (0 : Int32)), .val (.int (0 : Int32)), .unset, .unset, .unset, .unset, .unset, .unset, .unset, .unset] [])) (fun target kt => ?_) ?_
          · show Steps p.tables e below (s₁.setTop (mkF m 58 #[.val (.int p0), .val (.int p1), .val (.int p2), .val (.int p3), .val (.int (0 : Int32)), .val (.int (0 : Int32)), .val (.int (((p1.toUInt32 >>> ((2 : Int32) &&& 31).toUInt32).toInt32) &&& (3 : Int32))), .val (.int (0 : Int32)), .unset, .unset, .unset, .unset, .unset, .unset, .unset, .unset, .unset] [])) _
            refine XS.iconst X0.here hx rfl (hb hby at_58) ?_
            show Steps p.tables e below (s₁.setTop (mkF m 59 #[.val (.int p0), .val (.int p1), .val (.int p2), .val (.int p3), .val (.int (0 : Int32)), .val (.int (0 : Int32)), .val (.int (((p1.toUInt32 >>> ((2 : Int32) &&& 31).toUInt32).toInt32) &&& (3 : Int32))), .val (.int (0 : Int32)), .unset, .unset, .unset, .unset, .unset, .unset, .unset, .unset, .unset] [(.int (0 : Int32))])) _
            refine XS.istore X0.here hx rfl (hb hby at_59) rfl (l' := #[.val (.int p0), .val (.int p1), .val (.int p2), .val (.int p3), .val (.int (0 : Int32)), .val (.int (0 : Int32)), .val (.int (((p1.toUInt32 >>> ((2 : Int32) &&& 31).toUInt32).toInt32) &&& (3 : Int32))), .val (.int (0 : Int32)), .val (.int (0 : Int32)), .unset, .unset, .unset, .unset, .unset, .unset, .unset, .unset]) rfl ?_
            exact kt
          exact blk61 ⟨hx, hZ, hby, hml, hown, hrt, hlk⟩ hw hS (by omega) (IB.sup hI (by simp)) hnS hkp X0 e0 N0 p0 p1 p2 p3 (0 : Int32) (0 : Int32) (((p1.toUInt32 >>> ((2 : Int32) &&& 31).toUInt32).toInt32) &&& (3 : Int32)) (0 : Int32) (0 : Int32) zc zd kd (by omega) (Or.inl rfl) S_COMPACT hcs S_D A_zd Ol hcw hheld
        · refine GoW.pre (st' := s₁.setTop (mkF m 54 #[.val (.int p0), .val (.int p1), .val (.int p2), .val (.int p3), .val (.int (0 : Int32)), .val (.int (0 : Int32)), .val (.int (((p1.toUInt32 >>> ((2 : Int32) &&& 31).toUInt32).toInt32) &&& (3 : Int32))), .val (.int (0 : Int32)), .unset, .unset, .unset, .unset, .unset, .unset, .unset, .unset, .unset] [])) (fun target kt => ?_) ?_
          · show Steps p.tables e below (s₁.setTop (mkF m 51 #[.val (.int p0), .val (.int p1), .val (.int p2), .val (.int p3), .val (.int (0 : Int32)), .val (.int (0 : Int32)), .val (.int (((p1.toUInt32 >>> ((2 : Int32) &&& 31).toUInt32).toInt32) &&& (3 : Int32))), .val (.int (0 : Int32)), .unset, .unset, .unset, .unset, .unset, .unset, .unset, .unset, .unset] [(.int (p1 &&& (32 : Int32)))])) _
            refine XS.ifNo X0.here hx rfl (hb hby at_51) rfl ((if0 _ _).trans (feq h51_4).1) ?_
            exact kt
          refine GoW.pre (st' := s₁.setTop (mkF m 61 #[.val (.int p0), .val (.int p1), .val (.int p2), .val (.int p3), .val (.int (0 : Int32)), .val (.int (0 : Int32)), .val (.int (((p1.toUInt32 >>> ((2 : Int32) &&& 31).toUInt32).toInt32) &&& (3 : Int32))), .val (.int (0 : Int32)), .val (.int (1 : Int32)), .unset, .unset, .unset, .unset, .unset, .unset, .unset, .unset] [])) (fun target kt => ?_) ?_
          · show Steps p.tables e below (s₁.setTop (mkF m 54 #[.val (.int p0), .val (.int p1), .val (.int p2), .val (.int p3), .val (.int (0 : Int32)), .val (.int (0 : Int32)), .val (.int (((p1.toUInt32 >>> ((2 : Int32) &&& 31).toUInt32).toInt32) &&& (3 : Int32))), .val (.int (0 : Int32)), .unset, .unset, .unset, .unset, .unset, .unset, .unset, .unset, .unset] [])) _
            refine XS.iconst X0.here hx rfl (hb hby at_54) ?_
            show Steps p.tables e below (s₁.setTop (mkF m 55 #[.val (.int p0), .val (.int p1), .val (.int p2), .val (.int p3), .val (.int (0 : Int32)), .val (.int (0 : Int32)), .val (.int (((p1.toUInt32 >>> ((2 : Int32) &&& 31).toUInt32).toInt32) &&& (3 : Int32))), .val (.int (0 : Int32)), .unset, .unset, .unset, .unset, .unset, .unset, .unset, .unset, .unset] [(.int (1 : Int32))])) _
            refine XS.goto X0.here hx rfl (pc0 := 55) (pc' := 59) rfl (hb hby at_55) (by decide) (by decide) ?_
            show Steps p.tables e below (s₁.setTop (mkF m 59 #[.val (.int p0), .val (.int p1), .val (.int p2), .val (.int p3), .val (.int (0 : Int32)), .val (.int (0 : Int32)), .val (.int (((p1.toUInt32 >>> ((2 : Int32) &&& 31).toUInt32).toInt32) &&& (3 : Int32))), .val (.int (0 : Int32)), .unset, .unset, .unset, .unset, .unset, .unset, .unset, .unset, .unset] [(.int (1 : Int32))])) _
            refine XS.istore X0.here hx rfl (hb hby at_59) rfl (l' := #[.val (.int p0), .val (.int p1), .val (.int p2), .val (.int p3), .val (.int (0 : Int32)), .val (.int (0 : Int32)), .val (.int (((p1.toUInt32 >>> ((2 : Int32) &&& 31).toUInt32).toInt32) &&& (3 : Int32))), .val (.int (0 : Int32)), .val (.int (1 : Int32)), .unset, .unset, .unset, .unset, .unset, .unset, .unset, .unset]) rfl ?_
            exact kt
          exact blk61 ⟨hx, hZ, hby, hml, hown, hrt, hlk⟩ hw hS (by omega) (IB.sup hI (by simp)) hnS hkp X0 e0 N0 p0 p1 p2 p3 (0 : Int32) (0 : Int32) (((p1.toUInt32 >>> ((2 : Int32) &&& 31).toUInt32).toInt32) &&& (3 : Int32)) (0 : Int32) (1 : Int32) zc zd kd (by omega) (Or.inl rfl) S_COMPACT hcs S_D A_zd Ol hcw hheld
      · refine GoW.pre (st' := s₁.setTop (mkF m 40 #[.val (.int p0), .val (.int p1), .val (.int p2), .val (.int p3), .val (.int (0 : Int32)), .val (.int (0 : Int32)), .val (.int (((p1.toUInt32 >>> ((2 : Int32) &&& 31).toUInt32).toInt32) &&& (3 : Int32))), .unset, .unset, .unset, .unset, .unset, .unset, .unset, .unset, .unset, .unset] [])) (fun target kt => ?_) ?_
        · show Steps p.tables e below (s₁.setTop (mkF m 37 #[.val (.int p0), .val (.int p1), .val (.int p2), .val (.int p3), .val (.int (0 : Int32)), .val (.int (0 : Int32)), .val (.int (((p1.toUInt32 >>> ((2 : Int32) &&& 31).toUInt32).toInt32) &&& (3 : Int32))), .unset, .unset, .unset, .unset, .unset, .unset, .unset, .unset, .unset, .unset] [(.int (p1 &&& (16 : Int32)))])) _
          refine XS.ifNo X0.here hx rfl (hb hby at_37) rfl ((if0 _ _).trans (feq h37_3).1) ?_
          exact kt
        refine GoW.pre (st' := s₁.setTop (mkF m 51 #[.val (.int p0), .val (.int p1), .val (.int p2), .val (.int p3), .val (.int (0 : Int32)), .val (.int (0 : Int32)), .val (.int (((p1.toUInt32 >>> ((2 : Int32) &&& 31).toUInt32).toInt32) &&& (3 : Int32))), .val (.int (1 : Int32)), .unset, .unset, .unset, .unset, .unset, .unset, .unset, .unset, .unset] [(.int (p1 &&& (32 : Int32)))])) (fun target kt => ?_) ?_
        · show Steps p.tables e below (s₁.setTop (mkF m 40 #[.val (.int p0), .val (.int p1), .val (.int p2), .val (.int p3), .val (.int (0 : Int32)), .val (.int (0 : Int32)), .val (.int (((p1.toUInt32 >>> ((2 : Int32) &&& 31).toUInt32).toInt32) &&& (3 : Int32))), .unset, .unset, .unset, .unset, .unset, .unset, .unset, .unset, .unset, .unset] [])) _
          refine XS.iconst X0.here hx rfl (hb hby at_40) ?_
          show Steps p.tables e below (s₁.setTop (mkF m 41 #[.val (.int p0), .val (.int p1), .val (.int p2), .val (.int p3), .val (.int (0 : Int32)), .val (.int (0 : Int32)), .val (.int (((p1.toUInt32 >>> ((2 : Int32) &&& 31).toUInt32).toInt32) &&& (3 : Int32))), .unset, .unset, .unset, .unset, .unset, .unset, .unset, .unset, .unset, .unset] [(.int (1 : Int32))])) _
          refine XS.goto X0.here hx rfl (pc0 := 41) (pc' := 45) rfl (hb hby at_41) (by decide) (by decide) ?_
          show Steps p.tables e below (s₁.setTop (mkF m 45 #[.val (.int p0), .val (.int p1), .val (.int p2), .val (.int p3), .val (.int (0 : Int32)), .val (.int (0 : Int32)), .val (.int (((p1.toUInt32 >>> ((2 : Int32) &&& 31).toUInt32).toInt32) &&& (3 : Int32))), .unset, .unset, .unset, .unset, .unset, .unset, .unset, .unset, .unset, .unset] [(.int (1 : Int32))])) _
          refine XS.istore X0.here hx rfl (hb hby at_45) rfl (l' := #[.val (.int p0), .val (.int p1), .val (.int p2), .val (.int p3), .val (.int (0 : Int32)), .val (.int (0 : Int32)), .val (.int (((p1.toUInt32 >>> ((2 : Int32) &&& 31).toUInt32).toInt32) &&& (3 : Int32))), .val (.int (1 : Int32)), .unset, .unset, .unset, .unset, .unset, .unset, .unset, .unset, .unset]) rfl ?_
          show Steps p.tables e below (s₁.setTop (mkF m 47 #[.val (.int p0), .val (.int p1), .val (.int p2), .val (.int p3), .val (.int (0 : Int32)), .val (.int (0 : Int32)), .val (.int (((p1.toUInt32 >>> ((2 : Int32) &&& 31).toUInt32).toInt32) &&& (3 : Int32))), .val (.int (1 : Int32)), .unset, .unset, .unset, .unset, .unset, .unset, .unset, .unset, .unset] [])) _
          refine XS.iloadN X0.here hx rfl (hb hby at_47) rfl ?_
          show Steps p.tables e below (s₁.setTop (mkF m 48 #[.val (.int p0), .val (.int p1), .val (.int p2), .val (.int p3), .val (.int (0 : Int32)), .val (.int (0 : Int32)), .val (.int (((p1.toUInt32 >>> ((2 : Int32) &&& 31).toUInt32).toInt32) &&& (3 : Int32))), .val (.int (1 : Int32)), .unset, .unset, .unset, .unset, .unset, .unset, .unset, .unset, .unset] [(.int p1)])) _
          refine XS.bipush X0.here hx rfl (hb hby at_48) ?_
          show Steps p.tables e below (s₁.setTop (mkF m 50 #[.val (.int p0), .val (.int p1), .val (.int p2), .val (.int p3), .val (.int (0 : Int32)), .val (.int (0 : Int32)), .val (.int (((p1.toUInt32 >>> ((2 : Int32) &&& 31).toUInt32).toInt32) &&& (3 : Int32))), .val (.int (1 : Int32)), .unset, .unset, .unset, .unset, .unset, .unset, .unset, .unset, .unset] [(.int (32 : Int32)), (.int p1)])) _
          refine XS.iand X0.here hx rfl (hb hby at_50) rfl ?_
          exact kt
        by_cases h51_5 : (p1 &&& (32 : Int32)) = (0 : Int32)
        · refine GoW.pre (st' := s₁.setTop (mkF m 58 #[.val (.int p0), .val (.int p1), .val (.int p2), .val (.int p3), .val (.int (0 : Int32)), .val (.int (0 : Int32)), .val (.int (((p1.toUInt32 >>> ((2 : Int32) &&& 31).toUInt32).toInt32) &&& (3 : Int32))), .val (.int (1 : Int32)), .unset, .unset, .unset, .unset, .unset, .unset, .unset, .unset, .unset] [])) (fun target kt => ?_) ?_
          · show Steps p.tables e below (s₁.setTop (mkF m 51 #[.val (.int p0), .val (.int p1), .val (.int p2), .val (.int p3), .val (.int (0 : Int32)), .val (.int (0 : Int32)), .val (.int (((p1.toUInt32 >>> ((2 : Int32) &&& 31).toUInt32).toInt32) &&& (3 : Int32))), .val (.int (1 : Int32)), .unset, .unset, .unset, .unset, .unset, .unset, .unset, .unset, .unset] [(.int (p1 &&& (32 : Int32)))])) _
            refine XS.ifYes X0.here hx rfl (pc0 := 51) (pc' := 58) rfl (hb hby at_51) rfl ((if0 _ _).trans (teq h51_5).1) (by decide) (by decide) ?_
            exact kt
          refine GoW.pre (st' := s₁.setTop (mkF m 61 #[.val (.int p0), .val (.int p1), .val (.int p2), .val (.int p3), .val (.int (0 : Int32)), .val (.int (0 : Int32)), .val (.int (((p1.toUInt32 >>> ((2 : Int32) &&& 31).toUInt32).toInt32) &&& (3 : Int32))), .val (.int (1 : Int32)), .val (.int (0 : Int32)), .unset, .unset, .unset, .unset, .unset, .unset, .unset, .unset] [])) (fun target kt => ?_) ?_
          · show Steps p.tables e below (s₁.setTop (mkF m 58 #[.val (.int p0), .val (.int p1), .val (.int p2), .val (.int p3), .val (.int (0 : Int32)), .val (.int (0 : Int32)), .val (.int (((p1.toUInt32 >>> ((2 : Int32) &&& 31).toUInt32).toInt32) &&& (3 : Int32))), .val (.int (1 : Int32)), .unset, .unset, .unset, .unset, .unset, .unset, .unset, .unset, .unset] [])) _
            refine XS.iconst X0.here hx rfl (hb hby at_58) ?_
            show Steps p.tables e below (s₁.setTop (mkF m 59 #[.val (.int p0), .val (.int p1), .val (.int p2), .val (.int p3), .val (.int (0 : Int32)), .val (.int (0 : Int32)), .val (.int (((p1.toUInt32 >>> ((2 : Int32) &&& 31).toUInt32).toInt32) &&& (3 : Int32))), .val (.int (1 : Int32)), .unset, .unset, .unset, .unset, .unset, .unset, .unset, .unset, .unset] [(.int (0 : Int32))])) _
            refine XS.istore X0.here hx rfl (hb hby at_59) rfl (l' := #[.val (.int p0), .val (.int p1), .val (.int p2), .val (.int p3), .val (.int (0 : Int32)), .val (.int (0 : Int32)), .val (.int (((p1.toUInt32 >>> ((2 : Int32) &&& 31).toUInt32).toInt32) &&& (3 : Int32))), .val (.int (1 : Int32)), .val (.int (0 : Int32)), .unset, .unset, .unset, .unset, .unset, .unset, .unset, .unset]) rfl ?_
            exact kt
          exact blk61 ⟨hx, hZ, hby, hml, hown, hrt, hlk⟩ hw hS (by omega) (IB.sup hI (by simp)) hnS hkp X0 e0 N0 p0 p1 p2 p3 (0 : Int32) (0 : Int32) (((p1.toUInt32 >>> ((2 : Int32) &&& 31).toUInt32).toInt32) &&& (3 : Int32)) (1 : Int32) (0 : Int32) zc zd kd (by omega) (Or.inl rfl) S_COMPACT hcs S_D A_zd Ol hcw hheld
        · refine GoW.pre (st' := s₁.setTop (mkF m 54 #[.val (.int p0), .val (.int p1), .val (.int p2), .val (.int p3), .val (.int (0 : Int32)), .val (.int (0 : Int32)), .val (.int (((p1.toUInt32 >>> ((2 : Int32) &&& 31).toUInt32).toInt32) &&& (3 : Int32))), .val (.int (1 : Int32)), .unset, .unset, .unset, .unset, .unset, .unset, .unset, .unset, .unset] [])) (fun target kt => ?_) ?_
          · show Steps p.tables e below (s₁.setTop (mkF m 51 #[.val (.int p0), .val (.int p1), .val (.int p2), .val (.int p3), .val (.int (0 : Int32)), .val (.int (0 : Int32)), .val (.int (((p1.toUInt32 >>> ((2 : Int32) &&& 31).toUInt32).toInt32) &&& (3 : Int32))), .val (.int (1 : Int32)), .unset, .unset, .unset, .unset, .unset, .unset, .unset, .unset, .unset] [(.int (p1 &&& (32 : Int32)))])) _
            refine XS.ifNo X0.here hx rfl (hb hby at_51) rfl ((if0 _ _).trans (feq h51_5).1) ?_
            exact kt
          refine GoW.pre (st' := s₁.setTop (mkF m 61 #[.val (.int p0), .val (.int p1), .val (.int p2), .val (.int p3), .val (.int (0 : Int32)), .val (.int (0 : Int32)), .val (.int (((p1.toUInt32 >>> ((2 : Int32) &&& 31).toUInt32).toInt32) &&& (3 : Int32))), .val (.int (1 : Int32)), .val (.int (1 : Int32)), .unset, .unset, .unset, .unset, .unset, .unset, .unset, .unset] [])) (fun target kt => ?_) ?_
          · show Steps p.tables e below (s₁.setTop (mkF m 54 #[.val (.int p0), .val (.int p1), .val (.int p2), .val (.int p3), .val (.int (0 : Int32)), .val (.int (0 : Int32)), .val (.int (((p1.toUInt32 >>> ((2 : Int32) &&& 31).toUInt32).toInt32) &&& (3 : Int32))), .val (.int (1 : Int32)), .unset, .unset, .unset, .unset, .unset, .unset, .unset, .unset, .unset] [])) _
            refine XS.iconst X0.here hx rfl (hb hby at_54) ?_
            show Steps p.tables e below (s₁.setTop (mkF m 55 #[.val (.int p0), .val (.int p1), .val (.int p2), .val (.int p3), .val (.int (0 : Int32)), .val (.int (0 : Int32)), .val (.int (((p1.toUInt32 >>> ((2 : Int32) &&& 31).toUInt32).toInt32) &&& (3 : Int32))), .val (.int (1 : Int32)), .unset, .unset, .unset, .unset, .unset, .unset, .unset, .unset, .unset] [(.int (1 : Int32))])) _
            refine XS.goto X0.here hx rfl (pc0 := 55) (pc' := 59) rfl (hb hby at_55) (by decide) (by decide) ?_
            show Steps p.tables e below (s₁.setTop (mkF m 59 #[.val (.int p0), .val (.int p1), .val (.int p2), .val (.int p3), .val (.int (0 : Int32)), .val (.int (0 : Int32)), .val (.int (((p1.toUInt32 >>> ((2 : Int32) &&& 31).toUInt32).toInt32) &&& (3 : Int32))), .val (.int (1 : Int32)), .unset, .unset, .unset, .unset, .unset, .unset, .unset, .unset, .unset] [(.int (1 : Int32))])) _
            refine XS.istore X0.here hx rfl (hb hby at_59) rfl (l' := #[.val (.int p0), .val (.int p1), .val (.int p2), .val (.int p3), .val (.int (0 : Int32)), .val (.int (0 : Int32)), .val (.int (((p1.toUInt32 >>> ((2 : Int32) &&& 31).toUInt32).toInt32) &&& (3 : Int32))), .val (.int (1 : Int32)), .val (.int (1 : Int32)), .unset, .unset, .unset, .unset, .unset, .unset, .unset, .unset]) rfl ?_
            exact kt
          exact blk61 ⟨hx, hZ, hby, hml, hown, hrt, hlk⟩ hw hS (by omega) (IB.sup hI (by simp)) hnS hkp X0 e0 N0 p0 p1 p2 p3 (0 : Int32) (0 : Int32) (((p1.toUInt32 >>> ((2 : Int32) &&& 31).toUInt32).toInt32) &&& (3 : Int32)) (1 : Int32) (1 : Int32) zc zd kd (by omega) (Or.inl rfl) S_COMPACT hcs S_D A_zd Ol hcw hheld
    · refine GoW.pre (st' := s₁.setTop (mkF m 19 #[.val (.int p0), .val (.int p1), .val (.int p2), .val (.int p3), .val (.int (0 : Int32)), .unset, .unset, .unset, .unset, .unset, .unset, .unset, .unset, .unset, .unset, .unset, .unset] [])) (fun target kt => ?_) ?_
      · show Steps p.tables e below (s₁.setTop (mkF m 16 #[.val (.int p0), .val (.int p1), .val (.int p2), .val (.int p3), .val (.int (0 : Int32)), .unset, .unset, .unset, .unset, .unset, .unset, .unset, .unset, .unset, .unset, .unset, .unset] [(.int (p1 &&& (2 : Int32)))])) _
        refine XS.ifNo X0.here hx rfl (hb hby at_16) rfl ((if0 _ _).trans (feq h16_2).1) ?_
        exact kt
      refine GoW.pre (st' := s₁.setTop (mkF m 37 #[.val (.int p0), .val (.int p1), .val (.int p2), .val (.int p3), .val (.int (0 : Int32)), .val (.int (1 : Int32)), .val (.int (((p1.toUInt32 >>> ((2 : Int32) &&& 31).toUInt32).toInt32) &&& (3 : Int32))), .unset, .unset, .unset, .unset, .unset, .unset, .unset, .unset, .unset, .unset] [(.int (p1 &&& (16 : Int32)))])) (fun target kt => ?_) ?_
      · show Steps p.tables e below (s₁.setTop (mkF m 19 #[.val (.int p0), .val (.int p1), .val (.int p2), .val (.int p3), .val (.int (0 : Int32)), .unset, .unset, .unset, .unset, .unset, .unset, .unset, .unset, .unset, .unset, .unset, .unset] [])) _
        refine XS.iconst X0.here hx rfl (hb hby at_19) ?_
        show Steps p.tables e below (s₁.setTop (mkF m 20 #[.val (.int p0), .val (.int p1), .val (.int p2), .val (.int p3), .val (.int (0 : Int32)), .unset, .unset, .unset, .unset, .unset, .unset, .unset, .unset, .unset, .unset, .unset, .unset] [(.int (1 : Int32))])) _
        refine XS.goto X0.here hx rfl (pc0 := 20) (pc' := 24) rfl (hb hby at_20) (by decide) (by decide) ?_
        show Steps p.tables e below (s₁.setTop (mkF m 24 #[.val (.int p0), .val (.int p1), .val (.int p2), .val (.int p3), .val (.int (0 : Int32)), .unset, .unset, .unset, .unset, .unset, .unset, .unset, .unset, .unset, .unset, .unset, .unset] [(.int (1 : Int32))])) _
        refine XS.istore X0.here hx rfl (hb hby at_24) rfl (l' := #[.val (.int p0), .val (.int p1), .val (.int p2), .val (.int p3), .val (.int (0 : Int32)), .val (.int (1 : Int32)), .unset, .unset, .unset, .unset, .unset, .unset, .unset, .unset, .unset, .unset, .unset]) rfl ?_
        show Steps p.tables e below (s₁.setTop (mkF m 26 #[.val (.int p0), .val (.int p1), .val (.int p2), .val (.int p3), .val (.int (0 : Int32)), .val (.int (1 : Int32)), .unset, .unset, .unset, .unset, .unset, .unset, .unset, .unset, .unset, .unset, .unset] [])) _
        refine XS.iloadN X0.here hx rfl (hb hby at_26) rfl ?_
        show Steps p.tables e below (s₁.setTop (mkF m 27 #[.val (.int p0), .val (.int p1), .val (.int p2), .val (.int p3), .val (.int (0 : Int32)), .val (.int (1 : Int32)), .unset, .unset, .unset, .unset, .unset, .unset, .unset, .unset, .unset, .unset, .unset] [(.int p1)])) _
        refine XS.iconst X0.here hx rfl (hb hby at_27) ?_
        show Steps p.tables e below (s₁.setTop (mkF m 28 #[.val (.int p0), .val (.int p1), .val (.int p2), .val (.int p3), .val (.int (0 : Int32)), .val (.int (1 : Int32)), .unset, .unset, .unset, .unset, .unset, .unset, .unset, .unset, .unset, .unset, .unset] [(.int (2 : Int32)), (.int p1)])) _
        refine XS.iushr X0.here hx rfl (hb hby at_28) rfl ?_
        show Steps p.tables e below (s₁.setTop (mkF m 29 #[.val (.int p0), .val (.int p1), .val (.int p2), .val (.int p3), .val (.int (0 : Int32)), .val (.int (1 : Int32)), .unset, .unset, .unset, .unset, .unset, .unset, .unset, .unset, .unset, .unset, .unset] [(.int ((p1.toUInt32 >>> ((2 : Int32) &&& 31).toUInt32).toInt32))])) _
        refine XS.iconst X0.here hx rfl (hb hby at_29) ?_
        show Steps p.tables e below (s₁.setTop (mkF m 30 #[.val (.int p0), .val (.int p1), .val (.int p2), .val (.int p3), .val (.int (0 : Int32)), .val (.int (1 : Int32)), .unset, .unset, .unset, .unset, .unset, .unset, .unset, .unset, .unset, .unset, .unset] [(.int (3 : Int32)), (.int ((p1.toUInt32 >>> ((2 : Int32) &&& 31).toUInt32).toInt32))])) _
        refine XS.iand X0.here hx rfl (hb hby at_30) rfl ?_
        show Steps p.tables e below (s₁.setTop (mkF m 31 #[.val (.int p0), .val (.int p1), .val (.int p2), .val (.int p3), .val (.int (0 : Int32)), .val (.int (1 : Int32)), .unset, .unset, .unset, .unset, .unset, .unset, .unset, .unset, .unset, .unset, .unset] [(.int (((p1.toUInt32 >>> ((2 : Int32) &&& 31).toUInt32).toInt32) &&& (3 : Int32)))])) _
        refine XS.istore X0.here hx rfl (hb hby at_31) rfl (l' := #[.val (.int p0), .val (.int p1), .val (.int p2), .val (.int p3), .val (.int (0 : Int32)), .val (.int (1 : Int32)), .val (.int (((p1.toUInt32 >>> ((2 : Int32) &&& 31).toUInt32).toInt32) &&& (3 : Int32))), .unset, .unset, .unset, .unset, .unset, .unset, .unset, .unset, .unset, .unset]) rfl ?_
        show Steps p.tables e below (s₁.setTop (mkF m 33 #[.val (.int p0), .val (.int p1), .val (.int p2), .val (.int p3), .val (.int (0 : Int32)), .val (.int (1 : Int32)), .val (.int (((p1.toUInt32 >>> ((2 : Int32) &&& 31).toUInt32).toInt32) &&& (3 : Int32))), .unset, .unset, .unset, .unset, .unset, .unset, .unset, .unset, .unset, .unset] [])) _
        refine XS.iloadN X0.here hx rfl (hb hby at_33) rfl ?_
        show Steps p.tables e below (s₁.setTop (mkF m 34 #[.val (.int p0), .val (.int p1), .val (.int p2), .val (.int p3), .val (.int (0 : Int32)), .val (.int (1 : Int32)), .val (.int (((p1.toUInt32 >>> ((2 : Int32) &&& 31).toUInt32).toInt32) &&& (3 : Int32))), .unset, .unset, .unset, .unset, .unset, .unset, .unset, .unset, .unset, .unset] [(.int p1)])) _
        refine XS.bipush X0.here hx rfl (hb hby at_34) ?_
        show Steps p.tables e below (s₁.setTop (mkF m 36 #[.val (.int p0), .val (.int p1), .val (.int p2), .val (.int p3), .val (.int (0 : Int32)), .val (.int (1 : Int32)), .val (.int (((p1.toUInt32 >>> ((2 : Int32) &&& 31).toUInt32).toInt32) &&& (3 : Int32))), .unset, .unset, .unset, .unset, .unset, .unset, .unset, .unset, .unset, .unset] [(.int (16 : Int32)), (.int p1)])) _
        refine XS.iand X0.here hx rfl (hb hby at_36) rfl ?_
        exact kt
      by_cases h37_6 : (p1 &&& (16 : Int32)) = (0 : Int32)
      · refine GoW.pre (st' := s₁.setTop (mkF m 44 #[.val (.int p0), .val (.int p1), .val (.int p2), .val (.int p3), .val (.int (0 : Int32)), .val (.int (1 : Int32)), .val (.int (((p1.toUInt32 >>> ((2 : Int32) &&& 31).toUInt32).toInt32) &&& (3 : Int32))), .unset, .unset, .unset, .unset, .unset, .unset, .unset, .unset, .unset, .unset] [])) (fun target kt => ?_) ?_
        · show Steps p.tables e below (s₁.setTop (mkF m 37 #[.val (.int p0), .val (.int p1), .val (.int p2), .val (.int p3), .val (.int (0 : Int32)), .val (.int (1 : Int32)), .val (.int (((p1.toUInt32 >>> ((2 : Int32) &&& 31).toUInt32).toInt32) &&& (3 : Int32))), .unset, .unset, .unset, .unset, .unset, .unset, .unset, .unset, .unset, .unset] [(.int (p1 &&& (16 : Int32)))])) _
          refine XS.ifYes X0.here hx rfl (pc0 := 37) (pc' := 44) rfl (hb hby at_37) rfl ((if0 _ _).trans (teq h37_6).1) (by decide) (by decide) ?_
          exact kt
        refine GoW.pre (st' := s₁.setTop (mkF m 51 #[.val (.int p0), .val (.int p1), .val (.int p2), .val (.int p3), .val (.int (0 : Int32)), .val (.int (1 : Int32)), .val (.int (((p1.toUInt32 >>> ((2 : Int32) &&& 31).toUInt32).toInt32) &&& (3 : Int32))), .val (.int (0 : Int32)), .unset, .unset, .unset, .unset, .unset, .unset, .unset, .unset, .unset] [(.int (p1 &&& (32 : Int32)))])) (fun target kt => ?_) ?_
        · show Steps p.tables e below (s₁.setTop (mkF m 44 #[.val (.int p0), .val (.int p1), .val (.int p2), .val (.int p3), .val (.int (0 : Int32)), .val (.int (1 : Int32)), .val (.int (((p1.toUInt32 >>> ((2 : Int32) &&& 31).toUInt32).toInt32) &&& (3 : Int32))), .unset, .unset, .unset, .unset, .unset, .unset, .unset, .unset, .unset, .unset] [])) _
          refine XS.iconst X0.here hx rfl (hb hby at_44) ?_
          show Steps p.tables e below (s₁.setTop (mkF m 45 #[.val (.int p0), .val (.int p1), .val (.int p2), .val (.int p3), .val (.int (0 : Int32)), .val (.int (1 : Int32)), .val (.int (((p1.toUInt32 >>> ((2 : Int32) &&& 31).toUInt32).toInt32) &&& (3 : Int32))), .unset, .unset, .unset, .unset, .unset, .unset, .unset, .unset, .unset, .unset] [(.int (0 : Int32))])) _
          refine XS.istore X0.here hx rfl (hb hby at_45) rfl (l' := #[.val (.int p0), .val (.int p1), .val (.int p2), .val (.int p3), .val (.int (0 : Int32)), .val (.int (1 : Int32)), .val (.int (((p1.toUInt32 >>> ((2 : Int32) &&& 31).toUInt32).toInt32) &&& (3 : Int32))), .val (.int (0 : Int32)), .unset, .unset, .unset, .unset, .unset, .unset, .unset, .unset, .unset]) rfl ?_
          show Steps p.tables e below (s₁.setTop (mkF m 47 #[.val (.int p0), .val (.int p1), .val (.int p2), .val (.int p3), .val (.int (0 : Int32)), .val (.int (1 : Int32)), .val (.int (((p1.toUInt32 >>> ((2 : Int32) &&& 31).toUInt32).toInt32) &&& (3 : Int32))), .val (.int (0 : Int32)), .unset, .unset, .unset, .unset, .unset, .unset, .unset, .unset, .unset] [])) _
          refine XS.iloadN X0.here hx rfl (hb hby at_47) rfl ?_
          show Steps p.tables e below (s₁.setTop (mkF m 48 #[.val (.int p0), .val (.int p1), .val (.int p2), .val (.int p3), .val (.int (0 : Int32)), .val (.int (1 : Int32)), .val (.int (((p1.toUInt32 >>> ((2 : Int32) &&& 31).toUInt32).toInt32) &&& (3 : Int32))), .val (.int (0 : Int32)), .unset, .unset, .unset, .unset, .unset, .unset, .unset, .unset, .unset] [(.int p1)])) _
          refine XS.bipush X0.here hx rfl (hb hby at_48) ?_
          show Steps p.tables e below (s₁.setTop (mkF m 50 #[.val (.int p0), .val (.int p1), .val (.int p2), .val (.int p3), .val (.int (0 : Int32)), .val (.int (1 : Int32)), .val (.int (((p1.toUInt32 >>> ((2 : Int32) &&& 31).toUInt32).toInt32) &&& (3 : Int32))), .val (.int (0 : Int32)), .unset, .unset, .unset, .unset, .unset, .unset, .unset, .unset, .unset] [(.int (32 : Int32)), (.int p1)])) _
          refine XS.iand X0.here hx rfl (hb hby at_50) rfl ?_
          exact kt
        by_cases h51_7 : (p1 &&& (32 : Int32)) = (0 : Int32)
        · refine GoW.pre (st' := s₁.setTop (mkF m 58 #[.val (.int p0), .val (.int p1), .val (.int p2), .val (.int p3), .val (.int (0 : Int32)), .val (.int (1 : Int32)), .val (.int (((p1.toUInt32 >>> ((2 : Int32) &&& 31).toUInt32).toInt32) &&& (3 : Int32))), .val (.int (0 : Int32)), .unset, .unset, .unset, .unset, .unset, .unset, .unset, .unset, .unset] [])) (fun target kt => ?_) ?_
          · show Steps p.tables e below (s₁.setTop (mkF m 51 #[.val (.int p0), .val (.int p1), .val (.int p2), .val (.int p3), .val (.int (0 : Int32)), .val (.int (1 : Int32)), .val (.int (((p1.toUInt32 >>> ((2 : Int32) &&& 31).toUInt32).toInt32) &&& (3 : Int32))), .val (.int (0 : Int32)), .unset, .unset, .unset, .unset, .unset, .unset, .unset, .unset, .unset] [(.int (p1 &&& (32 : Int32)))])) _
            refine XS.ifYes X0.here hx rfl (pc0 := 51) (pc' := 58) rfl (hb hby at_51) rfl ((if0 _ _).trans (teq h51_7).1) (by decide) (by decide) ?_
            exact kt
          refine GoW.pre (st' := s₁.setTop (mkF m 61 #[.val (.int p0), .val (.int p1), .val (.int p2), .val (.int p3), .val (.int (0 : Int32)), .val (.int (1 : Int32)), .val (.int (((p1.toUInt32 >>> ((2 : Int32) &&& 31).toUInt32).toInt32) &&& (3 : Int32))), .val (.int (0 : Int32)), .val (.int (0 : Int32)), .unset, .unset, .unset, .unset, .unset, .unset, .unset, .unset] [])) (fun target kt => ?_) ?_
          · show Steps p.tables e below (s₁.setTop (mkF m 58 #[.val (.int p0), .val (.int p1), .val (.int p2), .val (.int p3), .val (.int (0 : Int32)), .val (.int (1 : Int32)), .val (.int (((p1.toUInt32 >>> ((2 : Int32) &&& 31).toUInt32).toInt32) &&& (3 : Int32))), .val (.int (0 : Int32)), .unset, .unset, .unset, .unset, .unset, .unset, .unset, .unset, .unset] [])) _
            refine XS.iconst X0.here hx rfl (hb hby at_58) ?_
            show Steps p.tables e below (s₁.setTop (mkF m 59 #[.val (.int p0), .val (.int p1), .val (.int p2), .val (.int p3), .val (.int (0 : Int32)), .val (.int (1 : Int32)), .val (.int (((p1.toUInt32 >>> ((2 : Int32) &&& 31).toUInt32).toInt32) &&& (3 : Int32))), .val (.int (0 : Int32)), .unset, .unset, .unset, .unset, .unset, .unset, .unset, .unset, .unset] [(.int (0 : Int32))])) _
            refine XS.istore X0.here hx rfl (hb hby at_59) rfl (l' := #[.val (.int p0), .val (.int p1), .val (.int p2), .val (.int p3), .val (.int (0 : Int32)), .val (.int (1 : Int32)), .val (.int (((p1.toUInt32 >>> ((2 : Int32) &&& 31).toUInt32).toInt32) &&& (3 : Int32))), .val (.int (0 : Int32)), .val (.int (0 : Int32)), .unset, .unset, .unset, .unset, .unset, .unset, .unset, .unset]) rfl ?_
            exact kt
          exact blk61 ⟨hx, hZ, hby, hml, hown, hrt, hlk⟩ hw hS (by omega) (IB.sup hI (by simp)) hnS hkp X0 e0 N0 p0 p1 p2 p3 (0 : Int32) (1 : Int32) (((p1.toUInt32 >>> ((2 : Int32) &&& 31).toUInt32).toInt32) &&& (3 : Int32)) (0 : Int32) (0 : Int32) zc zd kd (by omega) (Or.inr rfl) S_COMPACT hcs S_D A_zd Ol hcw hheld
        · refine GoW.pre (st' := s₁.setTop (mkF m 54 #[.val (.int p0), .val (.int p1), .val (.int p2), .val (.int p3), .val (.int (0 : Int32)), .val (.int (1 : Int32)), .val (.int (((p1.toUInt32 >>> ((2 : Int32) &&& 31).toUInt32).toInt32) &&& (3 : Int32))), .val (.int (0 : Int32)), .unset, .unset, .unset, .unset, .unset, .unset, .unset, .unset, .unset] [])) (fun target kt => ?_) ?_
          · show Steps p.tables e below (s₁.setTop (mkF m 51 #[.val (.int p0), .val (.int p1), .val (.int p2), .val (.int p3), .val (.int (0 : Int32)), .val (.int (1 : Int32)), .val (.int (((p1.toUInt32 >>> ((2 : Int32) &&& 31).toUInt32).toInt32) &&& (3 : Int32))), .val (.int (0 : Int32)), .unset, .unset, .unset, .unset, .unset, .unset, .unset, .unset, .unset] [(.int (p1 &&& (32 : Int32)))])) _
            refine XS.ifNo X0.here hx rfl (hb hby at_51) rfl ((if0 _ _).trans (feq h51_7).1) ?_
            exact kt
          refine GoW.pre (st' := s₁.setTop (mkF m 61 #[.val (.int p0), .val (.int p1), .val (.int p2), .val (.int p3), .val (.int (0 : Int32)), .val (.int (1 : Int32)), .val (.int (((p1.toUInt32 >>> ((2 : Int32) &&& 31).toUInt32).toInt32) &&& (3 : Int32))), .val (.int (0 : Int32)), .val (.int (1 : Int32)), .unset, .unset, .unset, .unset, .unset, .unset, .unset, .unset] [])) (fun target kt => ?_) ?_
          · show Steps p.tables e below (s₁.setTop (mkF m 54 #[.val (.int p0), .val (.int p1), .val (.int p2), .val (.int p3), .val (.int (0 : Int32)), .val (.int (1 : Int32)), .val (.int (((p1.toUInt32 >>> ((2 : Int32) &&& 31).toUInt32).toInt32) &&& (3 : Int32))), .val (.int (0 : Int32)), .unset, .unset, .unset, .unset, .unset, .unset, .unset, .unset, .unset] [])) _
            refine XS.iconst X0.here hx rfl (hb hby at_54) ?_
            show Steps p.tables e below (s₁.setTop (mkF m 55 #[.val (.int p0), .val (.int p1), .val (.int p2), .val (.int p3), .val (.int (0 : Int32)), .val (.int (1 : Int32)), .val (.int (((p1.toUInt32 >>> ((2 : Int32) &&& 31).toUInt32).toInt32) &&& (3 : Int32))), .val (.int (0 : Int32)), .unset, .unset, .unset, .unset, .unset, .unset, .unset, .unset, .unset] [(.int (1 : Int32))])) _
            refine XS.goto X0.here hx rfl (pc0 := 55) (pc' := 59) rfl (hb hby at_55) (by decide) (by decide) ?_
            show Steps p.tables e below (s₁.setTop (mkF m 59 #[.val (.int p0), .val (.int p1), .val (.int p2), .val (.int p3), .val (.int (0 : Int32)), .val (.int (1 : Int32)), .val (.int (((p1.toUInt32 >>> ((2 : Int32) &&& 31).toUInt32).toInt32) &&& (3 : Int32))), .val (.int (0 : Int32)), .unset, .unset, .unset, .unset, .unset, .unset, .unset, .unset, .unset] [(.int (1 : Int32))])) _
            refine XS.istore X0.here hx rfl (hb hby at_59) rfl (l' := #[.val (.int p0), .val (.int p1), .val (.int p2), .val (.int p3), .val (.int (0 : Int32)), .val (.int (1 : Int32)), .val (.int (((p1.toUInt32 >>> ((2 : Int32) &&& 31).toUInt32).toInt32) &&& (3 : Int32))), .val (.int (0 : Int32)), .val (.int (1 : Int32)), .unset, .unset, .unset, .unset, .unset, .unset, .unset, .unset]) rfl ?_
            exact kt
          exact blk61 ⟨hx, hZ, hby, hml, hown, hrt, hlk⟩ hw hS (by omega) (IB.sup hI (by simp)) hnS hkp X0 e0 N0 p0 p1 p2 p3 (0 : Int32) (1 : Int32) (((p1.toUInt32 >>> ((2 : Int32) &&& 31).toUInt32).toInt32) &&& (3 : Int32)) (0 : Int32) (1 : Int32) zc zd kd (by omega) (Or.inr rfl) S_COMPACT hcs S_D A_zd Ol hcw hheld
      · refine GoW.pre (st' := s₁.setTop (mkF m 40 #[.val (.int p0), .val (.int p1), .val (.int p2), .val (.int p3), .val (.int (0 : Int32)), .val (.int (1 : Int32)), .val (.int (((p1.toUInt32 >>> ((2 : Int32) &&& 31).toUInt32).toInt32) &&& (3 : Int32))), .unset, .unset, .unset, .unset, .unset, .unset, .unset, .unset, .unset, .unset] [])) (fun target kt => ?_) ?_
        · show Steps p.tables e below (s₁.setTop (mkF m 37 #[.val (.int p0), .val (.int p1), .val (.int p2), .val (.int p3), .val (.int (0 : Int32)), .val (.int (1 : Int32)), .val (.int (((p1.toUInt32 >>> ((2 : Int32) &&& 31).toUInt32).toInt32) &&& (3 : Int32))), .unset, .unset, .unset, .unset, .unset, .unset, .unset, .unset, .unset, .unset] [(.int (p1 &&& (16 : Int32)))])) _
          refine XS.ifNo X0.here hx rfl (hb hby at_37) rfl ((if0 _ _).trans (feq h37_6).1) ?_
          exact kt
        refine GoW.pre (st' := s₁.setTop (mkF m 51 #[.val (.int p0), .val (.int p1), .val (.int p2), .val (.int p3), .val (.int (0 : Int32)), .val (.int (1 : Int32)), .val (.int (((p1.toUInt32 >>> ((2 : Int32) &&& 31).toUInt32).toInt32) &&& (3 : Int32))), .val (.int (1 : Int32)), .unset, .unset, .unset, .unset, .unset, .unset, .unset, .unset, .unset] [(.int (p1 &&& (32 : Int32)))])) (fun target kt => ?_) ?_
        · show Steps p.tables e below (s₁.setTop (mkF m 40 #[.val (.int p0), .val (.int p1), .val (.int p2), .val (.int p3), .val (.int (0 : Int32)), .val (.int (1 : Int32)), .val (.int (((p1.toUInt32 >>> ((2 : Int32) &&& 31).toUInt32).toInt32) &&& (3 : Int32))), .unset, .unset, .unset, .unset, .unset, .unset, .unset, .unset, .unset, .unset] [])) _
          refine XS.iconst X0.here hx rfl (hb hby at_40) ?_
          show Steps p.tables e below (s₁.setTop (mkF m 41 #[.val (.int p0), .val (.int p1), .val (.int p2), .val (.int p3), .val (.int (0 : Int32)), .val (.int (1 : Int32)), .val (.int (((p1.toUInt32 >>> ((2 : Int32) &&& 31).toUInt32).toInt32) &&& (3 : Int32))), .unset, .unset, .unset, .unset, .unset, .unset, .unset, .unset, .unset, .unset] [(.int (1 : Int32))])) _
          refine XS.goto X0.here hx rfl (pc0 := 41) (pc' := 45) rfl (hb hby at_41) (by decide) (by decide) ?_
          show Steps p.tables e below (s₁.setTop (mkF m 45 #[.val (.int p0), .val (.int p1), .val (.int p2), .val (.int p3), .val (.int (0 : Int32)), .val (.int (1 : Int32)), .val (.int (((p1.toUInt32 >>> ((2 : Int32) &&& 31).toUInt32).toInt32) &&& (3 : Int32))), .unset, .unset, .unset, .unset, .unset, .unset, .unset, .unset, .unset, .unset] [(.int (1 : Int32))])) _
          refine XS.istore X0.here hx rfl (hb hby at_45) rfl (l' := #[.val (.int p0), .val (.int p1), .val (.int p2), .val (.int p3), .val (.int (0 : Int32)), .val (.int (1 : Int32)), .val (.int (((p1.toUInt32 >>> ((2 : Int32) &&& 31).toUInt32).toInt32) &&& (3 : Int32))), .val (.int (1 : Int32)), .unset, .unset, .unset, .unset, .unset, .unset, .unset, .unset, .unset]) rfl ?_
          show Steps p.tables e below (s₁.setTop (mkF m 47 #[.val (.int p0), .val (.int p1), .val (.int p2), .val (.int p3), .val (.int (0 : Int32)), .val (.int (1 : Int32)), .val (.int (((p1.toUInt32 >>> ((2 : Int32) &&& 31).toUInt32).toInt32) &&& (3 : Int32))), .val (.int (1 : Int32)), .unset, .unset, .unset, .unset, .unset, .unset, .unset, .unset, .unset] [])) _
          refine XS.iloadN X0.here hx rfl (hb hby at_47) rfl ?_
          show Steps p.tables e below (s₁.setTop (mkF m 48 #[.val (.int p0), .val (.int p1), .val (.int p2), .val (.int p3), .val (.int (0 : Int32)), .val (.int (1 : Int32)), .val (.int (((p1.toUInt32 >>> ((2 : Int32) &&& 31).toUInt32).toInt32) &&& (3 : Int32))), .val (.int (1 : Int32)), .unset, .unset, .unset, .unset, .unset, .unset, .unset, .unset, .unset] [(.int p1)])) _
          refine XS.bipush X0.here hx rfl (hb hby at_48) ?_
          show Steps p.tables e below (s₁.setTop (mkF m 50 #[.val (.int p0), .val (.int p1), .val (.int p2), .val (.int p3), .val (.int (0 : Int32)), .val (.int (1 : Int32)), .val (.int (((p1.toUInt32 >>> ((2 : Int32) &&& 31).toUInt32).toInt32) &&& (3 : Int32))), .val (.int (1 : Int32)), .unset, .unset, .unset, .unset, .unset, .unset, .unset, .unset, .unset] [(.int (32 : Int32)), (.int p1)])) _
          refine XS.iand X0.here hx rfl (hb hby at_50) rfl ?_
          exact kt
        by_cases h51_8 : (p1 &&& (32 : Int32)) = (0 : Int32)
        · refine GoW.pre (st' := s₁.setTop (mkF m 58 #[.val (.int p0), .val (.int p1), .val (.int p2), .val (.int p3), .val (.int (0 : Int32)), .val (.int (1 : Int32)), .val (.int (((p1.toUInt32 >>> ((2 : Int32) &&& 31).toUInt32).toInt32) &&& (3 : Int32))), .val (.int (1 : Int32)), .unset, .unset, .unset, .unset, .unset, .unset, .unset, .unset, .unset] [])) (fun target kt => ?_) ?_
          · show Steps p.tables e below (s₁.setTop (mkF m 51 #[.val (.int p0), .val (.int p1), .val (.int p2), .val (.int p3), .val (.int (0 : Int32)), .val (.int (1 : Int32)), .val (.int (((p1.toUInt32 >>> ((2 : Int32) &&& 31).toUInt32).toInt32) &&& (3 : Int32))), .val (.int (1 : Int32)), .unset, .unset, .unset, .unset, .unset, .unset, .unset, .unset, .unset] [(.int (p1 &&& (32 : Int32)))])) _
            refine XS.ifYes X0.here hx rfl (pc0 := 51) (pc' := 58) rfl (hb hby at_51) rfl ((if0 _ _).trans (teq h51_8).1) (by decide) (by decide) ?_
            exact kt
          refine GoW.pre (st' := s₁.setTop (mkF m 61 #[.val (.int p0), .val (.int p1), .val (.int p2), .val (.int p3), .val (.int (0 : Int32)), .val (.int (1 : Int32)), .val (.int (((p1.toUInt32 >>> ((2 : Int32) &&& 31).toUInt32).toInt32) &&& (3 : Int32))), .val (.int (1 : Int32)), .val (.int (0 : Int32)), .unset, .unset, .unset, .unset, .unset, .unset, .unset, .unset] [])) (fun target kt => ?_) ?_
          · show Steps p.tables e below (s₁.setTop (mkF m 58 #[.val (.int p0), .val (.int p1), .val (.int p2), .val (.int p3), .val (.int (0 : Int32)), .val (.int (1 : Int32)), .val (.int (((p1.toUInt32 >>> ((2 : Int32) &&& 31).toUInt32).toInt32) &&& (3 : Int32))), .val (.int (1 : Int32)), .unset, .unset, .unset, .unset, .unset, .unset, .unset, .unset, .unset] [])) _
            refine XS.iconst X0.here hx rfl (hb hby at_58) ?_
            show Steps p.tables e below (s₁.setTop (mkF m 59 #[.val (.int p0), .val (.int p1), .val (.int p2), .val (.int p3), .val (.int (0 : Int32)), .val (.int (1 : Int32)), .val (.int (((p1.toUInt32 >>> ((2 : Int32) &&& 31).toUInt32).toInt32) &&& (3 : Int32))), .val (.int (1 : Int32)), .unset, .unset, .unset, .unset, .unset, .unset, .unset, .unset, .unset] [(.int (0 : Int32))])) _
            refine XS.istore X0.here hx rfl (hb hby at_59) rfl (l' := #[.val (.int p0), .val (.int p1), .val (.int p2), .val (.int p3), .val (.int (0 : Int32)), .val (.int (1 : Int32)), .val (.int (((p1.toUInt32 >>> ((2 : Int32) &&& 31).toUInt32).toInt32) &&& (3 : Int32))), .val (.int (1 : Int32)), .val (.int (0 : Int32)), .unset, .unset, .unset, .unset, .unset, .unset, .unset, .unset]) rfl ?_
            exact kt
          exact blk61 ⟨hx, hZ, hby, hml, hown, hrt, hlk⟩ hw hS (by omega) (IB.sup hI (by simp)) hnS hkp X0 e0 N0 p0 p1 p2 p3 (0 : Int32) (1 : Int32) (((p1.toUInt32 >>> ((2 : Int32) &&& 31).toUInt32).toInt32) &&& (3 : Int32)) (1 : Int32) (0 : Int32) zc zd kd (by omega) (Or.inr rfl) S_COMPACT hcs S_D A_zd Ol hcw hheld
        · refine GoW.pre (st' := s₁.setTop (mkF m 54 #[.val (.int p0), .val (.int p1), .val (.int p2), .val (.int p3), .val (.int (0 : Int32)), .val (.int (1 : Int32)), .val (.int (((p1.toUInt32 >>> ((2 : Int32) &&& 31).toUInt32).toInt32) &&& (3 : Int32))), .val (.int (1 : Int32)), .unset, .unset, .unset, .unset, .unset, .unset, .unset, .unset, .unset] [])) (fun target kt => ?_) ?_
          · show Steps p.tables e below (s₁.setTop (mkF m 51 #[.val (.int p0), .val (.int p1), .val (.int p2), .val (.int p3), .val (.int (0 : Int32)), .val (.int (1 : Int32)), .val (.int (((p1.toUInt32 >>> ((2 : Int32) &&& 31).toUInt32).toInt32) &&& (3 : Int32))), .val (.int (1 : Int32)), .unset, .unset, .unset, .unset, .unset, .unset, .unset, .unset, .unset] [(.int (p1 &&& (32 : Int32)))])) _
            refine XS.ifNo X0.here hx rfl (hb hby at_51) rfl ((if0 _ _).trans (feq h51_8).1) ?_
            exact kt
          refine GoW.pre (st' := s₁.setTop (mkF m 61 #[.val (.int p0), .val (.int p1), .val (.int p2), .val (.int p3), .val (.int (0 : Int32)), .val (.int (1 : Int32)), .val (.int (((p1.toUInt32 >>> ((2 : Int32) &&& 31).toUInt32).toInt32) &&& (3 : Int32))), .val (.int (1 : Int32)), .val (.int (1 : Int32)), .unset, .unset, .unset, .unset, .unset, .unset, .unset, .unset] [])) (fun target kt => ?_) ?_
          · show Steps p.tables e below (s₁.setTop (mkF m 54 #[.val (.int p0), .val (.int p1), .val (.int p2), .val (.int p3), .val (.int (0 : Int32)), .val (.int (1 : Int32)), .val (.int (((p1.toUInt32 >>> ((2 : Int32) &&& 31).toUInt32).toInt32) &&& (3 : Int32))), .val (.int (1 : Int32)), .unset, .unset, .unset, .unset, .unset, .unset, .unset, .unset, .unset] [])) _
            refine XS.iconst X0.here hx rfl (hb hby at_54) ?_
            show Steps p.tables e below (s₁.setTop (mkF m 55 #[.val (.int p0), .val (.int p1), .val (.int p2), .val (.int p3), .val (.int (0 : Int32)), .val (.int (1 : Int32)), .val (.int (((p1.toUInt32 >>> ((2 : Int32) &&& 31).toUInt32).toInt32) &&& (3 : Int32))), .val (.int (1 : Int32)), .unset, .unset, .unset, .unset, .unset, .unset, .unset, .unset, .unset] [(.int (1 : Int32))])) _
            refine XS.goto X0.here hx rfl (pc0 := 55) (pc' := 59) rfl (hb hby at_55) (by decide) (by decide) ?_
            show Steps p.tables e below (s₁.setTop (mkF m 59 #[.val (.int p0), .val (.int p1), .val (.int p2), .val (.int p3), .val (.int (0 : Int32)), .val (.int (1 : Int32)), .val (.int (((p1.toUInt32 >>> ((2 : Int32) &&& 31).toUInt32).toInt32) &&& (3 : Int32))), .val (.int (1 : Int32)), .unset, .unset, .unset, .unset, .unset, .unset, .unset, .unset, .unset] [(.int (1 : Int32))])) _
            refine XS.istore X0.here hx rfl (hb hby at_59) rfl (l' := #[.val (.int p0), .val (.int p1), .val (.int p2), .val (.int p3), .val (.int (0 : Int32)), .val (.int (1 : Int32)), .val (.int (((p1.toUInt32 >>> ((2 : Int32) &&& 31).toUInt32).toInt32) &&& (3 : Int32))), .val (.int (1 : Int32)), .val (.int (1 : Int32)), .unset, .unset, .unset, .unset, .unset, .unset, .unset, .unset]) rfl ?_
            exact kt
          exact blk61 ⟨hx, hZ, hby, hml, hown, hrt, hlk⟩ hw hS (by omega) (IB.sup hI (by simp)) hnS hkp X0 e0 N0 p0 p1 p2 p3 (0 : Int32) (1 : Int32) (((p1.toUInt32 >>> ((2 : Int32) &&& 31).toUInt32).toInt32) &&& (3 : Int32)) (1 : Int32) (1 : Int32) zc zd kd (by omega) (Or.inr rfl) S_COMPACT hcs S_D A_zd Ol hcw hheld
  · refine GoW.pre (st' := s₁.setTop (mkF m 6 #[.val (.int p0), .val (.int p1), .val (.int p2), .val (.int p3), .unset, .unset, .unset, .unset, .unset, .unset, .unset, .unset, .unset, .unset, .unset, .unset, .unset] [])) (fun target kt => ?_) ?_
    · show Steps p.tables e below (s₁.setTop (mkF m 3 #[.val (.int p0), .val (.int p1), .val (.int p2), .val (.int p3), .unset, .unset, .unset, .unset, .unset, .unset, .unset, .unset, .unset, .unset, .unset, .unset, .unset] [(.int (p1 &&& (1 : Int32)))])) _
      refine XS.ifNo X0.here hx rfl (hb hby at_3) rfl ((if0 _ _).trans (feq h3_1).1) ?_
      exact kt
    refine GoW.pre (st' := s₁.setTop (mkF m 16 #[.val (.int p0), .val (.int p1), .val (.int p2), .val (.int p3), .val (.int (1 : Int32)), .unset, .unset, .unset, .unset, .unset, .unset, .unset, .unset, .unset, .unset, .unset, .unset] [(.int (p1 &&& (2 : Int32)))])) (fun target kt => ?_) ?_
    · show Steps p.tables e below (s₁.setTop (mkF m 6 #[.val (.int p0), .val (.int p1), .val (.int p2), .val (.int p3), .unset, .unset, .unset, .unset, .unset, .unset, .unset, .unset, .unset, .unset, .unset, .unset, .unset] [])) _
      refine XS.iconst X0.here hx rfl (hb hby at_6) ?_
      show Steps p.tables e below (s₁.setTop (mkF m 7 #[.val (.int p0), .val (.int p1), .val (.int p2), .val (.int p3), .unset, .unset, .unset, .unset, .unset, .unset, .unset, .unset, .unset, .unset, .unset, .unset, .unset] [(.int (1 : Int32))])) _
      refine XS.goto X0.here hx rfl (pc0 := 7) (pc' := 11) rfl (hb hby at_7) (by decide) (by decide) ?_
      show Steps p.tables e below (s₁.setTop (mkF m 11 #[.val (.int p0), .val (.int p1), .val (.int p2), .val (.int p3), .unset, .unset, .unset, .unset, .unset, .unset, .unset, .unset, .unset, .unset, .unset, .unset, .unset] [(.int (1 : Int32))])) _
      refine XS.istore X0.here hx rfl (hb hby at_11) rfl (l' := #[.val (.int p0), .val (.int p1), .val (.int p2), .val (.int p3), .val (.int (1 : Int32)), .unset, .unset, .unset, .unset, .unset, .unset, .unset, .unset, .unset, .unset, .unset, .unset]) rfl ?_
      show Steps p.tables e below (s₁.setTop (mkF m 13 #[.val (.int p0), .val (.int p1), .val (.int p2), .val (.int p3), .val (.int (1 : Int32)), .unset, .unset, .unset, .unset, .unset, .unset, .unset, .unset, .unset, .unset, .unset, .unset] [])) _
      refine XS.iloadN X0.here hx rfl (hb hby at_13) rfl ?_
      show Steps p.tables e below (s₁.setTop (mkF m 14 #[.val (.int p0), .val (.int p1), .val (.int p2), .val (.int p3), .val (.int (1 : Int32)), .unset, .unset, .unset, .unset, .unset, .unset, .unset, .unset, .unset, .unset, .unset, .unset] [(.int p1)])) _
      refine XS.iconst X0.here hx rfl (hb hby at_14) ?_
      show Steps p.tables e below (s₁.setTop (mkF m 15 #[.val (.int p0), .val (.int p1), .val (.int p2), .val (.int p3), .val (.int (1 : Int32)), .unset, .unset, .unset, .unset, .unset, .unset, .unset, .unset, .unset, .unset, .unset, .unset] [(.int (2 : Int32)), (.int p1)])) _
      refine XS.iand X0.here hx rfl (hb hby at_15) rfl ?_
      exact kt
    by_cases h16_9 : (p1 &&& (2 : Int32)) = (0 : Int32)
    · refine GoW.pre (st' := s₁.setTop (mkF m 23 #[.val (.int p0), .val (.int p1), .val (.int p2), .val (.int p3), .val (.int (1 : Int32)), .unset, .unset, .unset, .unset, .unset, .unset, .unset, .unset, .unset, .unset, .unset, .unset] [])) (fun target kt => ?_) ?_
      · show Steps p.tables e below (s₁.setTop (mkF m 16 #[.val (.int p0), .val (.int p1), .val (.int p2), .val (.int p3), .val (.int (1 : Int32)), .unset, .unset, .unset, .unset, .unset, .unset, .unset, .unset, .unset, .unset, .unset, .unset] [(.int (p1 &&& (2 : Int32)))])) _
        refine XS.ifYes X0.here hx rfl (pc0 := 16) (pc' := 23) rfl (hb hby at_16) rfl ((if0 _ _).trans (teq h16_9).1) (by decide) (by decide) ?_
        exact kt
      refine GoW.pre (st' := s₁.setTop (mkF m 37 #[.val (.int p0), .val (.int p1), .val (.int p2), .val (.int p3), .val (.int (1 : Int32)), .val (.int (0 : Int32)), .val (.int (((p1.toUInt32 >>> ((2 : Int32) &&& 31).toUInt32).toInt32) &&& (3 : Int32))), .unset, .unset, .unset, .unset, .unset, .unset, .unset, .unset, .unset, .unset] [(.int (p1 &&& (16 : Int32)))])) (fun target kt => ?_) ?_
      · show Steps p.tables e below (s₁.setTop (mkF m 23 #[.val (.int p0), .val (.int p1), .val (.int p2), .val (.int p3), .val (.int (1 : Int32)), .unset, .unset, .unset, .unset, .unset, .unset, .unset, .unset, .unset, .unset, .unset, .unset] [])) _
        refine XS.iconst X0.here hx rfl (hb hby at_23) ?_
        show Steps p.tables e below (s₁.setTop (mkF m 24 #[.val (.int p0), .val (.int p1), .val (.int p2), .val (.int p3), .val (.int (1 : Int32)), .unset, .unset, .unset, .unset, .unset, .unset, .unset, .unset, .unset, .unset, .unset, .unset] [(.int (0 : Int32))])) _
        refine XS.istore X0.here hx rfl (hb hby at_24) rfl (l' := #[.val (.int p0), .val (.int p1), .val (.int p2), .val (.int p3), .val (.int (1 : Int32)), .val (.int (0 : Int32)), .unset, .unset, .unset, .unset, .unset, .unset, .unset, .unset, .unset, .unset, .unset]) rfl ?_
        show Steps p.tables e below (s₁.setTop (mkF m 26 #[.val (.int p0), .val (.int p1), .val (.int p2), .val (.int p3), .val (.int (1 : Int32)), .val (.int (0 : Int32)), .unset, .unset, .unset, .unset, .unset, .unset, .unset, .unset, .unset, .unset, .unset] [])) _
        refine XS.iloadN X0.here hx rfl (hb hby at_26) rfl ?_
        show Steps p.tables e below (s₁.setTop (mkF m 27 #[.val (.int p0), .val (.int p1), .val (.int p2), .val (.int p3), .val (.int (1 : Int32)), .val (.int (0 : Int32)), .unset, .unset, .unset, .unset, .unset, .unset, .unset, .unset, .unset, .unset, .unset] [(.int p1)])) _
        refine XS.iconst X0.here hx rfl (hb hby at_27) ?_
        show Steps p.tables e below (s₁.setTop (mkF m 28 #[.val (.int p0), .val (.int p1), .val (.int p2), .val (.int p3), .val (.int (1 : Int32)), .val (.int (0 : Int32)), .unset, .unset, .unset, .unset, .unset, .unset, .unset, .unset, .unset, .unset, .unset] [(.int (2 : Int32)), (.int p1)])) _
        refine XS.iushr X0.here hx rfl (hb hby at_28) rfl ?_
        show Steps p.tables e below (s₁.setTop (mkF m 29 #[.val (.int p0), .val (.int p1), .val (.int p2), .val (.int p3), .val (.int (1 : Int32)), .val (.int (0 : Int32)), .unset, .unset, .unset, .unset, .unset, .unset, .unset, .unset, .unset, .unset, .unset] [(.int ((p1.toUInt32 >>> ((2 : Int32) &&& 31).toUInt32).toInt32))])) _
        refine XS.iconst X0.here hx rfl (hb hby at_29) ?_
        show Steps p.tables e below (s₁.setTop (mkF m 30 #[.val (.int p0), .val (.int p1), .val (.int p2), .val (.int p3), .val (.int (1 : Int32)), .val (.int (0 : Int32)), .unset, .unset, .unset, .unset, .unset, .unset, .unset, .unset, .unset, .unset, .unset] [(.int (3 : Int32)), (.int ((p1.toUInt32 >>> ((2 : Int32) &&& 31).toUInt32).toInt32))])) _
        refine XS.iand X0.here hx rfl (hb hby at_30) rfl ?_
        show Steps p.tables e below (s₁.setTop (mkF m 31 #[.val (.int p0), .val (.int p1), .val (.int p2), .val (.int p3), .val (.int (1 : Int32)), .val (.int (0 : Int32)), .unset, .unset, .unset, .unset, .unset, .unset, .unset, .unset, .unset, .unset, .unset] [(.int (((p1.toUInt32 >>> ((2 : Int32) &&& 31).toUInt32).toInt32) &&& (3 : Int32)))])) _
        refine XS.istore X0.here hx rfl (hb hby at_31) rfl (l' := #[.val (.int p0), .val (.int p1), .val (.int p2), .val (.int p3), .val (.int (1 : Int32)), .val (.int (0 : Int32)), .val (.int (((p1.toUInt32 >>> ((2 : Int32) &&& 31).toUInt32).toInt32) &&& (3 : Int32))), .unset, .unset, .unset, .unset, .unset, .unset, .unset, .unset, .unset, .unset]) rfl ?_
        show Steps p.tables e below (s₁.setTop (mkF m 33 #[.val (.int p0), .val (.int p1), .val (.int p2), .val (.int p3), .val (.int (1 : Int32)), .val (.int (0 : Int32)), .val (.int (((p1.toUInt32 >>> ((2 : Int32) &&& 31).toUInt32).toInt32) &&& (3 : Int32))), .unset, .unset, .unset, .unset, .unset, .unset, .unset, .unset, .unset, .unset] [])) _
        refine XS.iloadN X0.here hx rfl (hb hby at_33) rfl ?_
        show Steps p.tables e below (s₁.setTop (mkF m 34 #[.val (.int p0), .val (.int p1), .val (.int p2), .val (.int p3), .val (.int (1 : Int32)), .val (.int (0 : Int32)), .val (.int (((p1.toUInt32 >>> ((2 : Int32) &&& 31).toUInt32).toInt32) &&& (3 : Int32))), .unset, .unset, .unset, .unset, .unset, .unset, .unset, .unset, .unset, .unset] [(.int p1)])) _
        refine XS.bipush X0.here hx rfl (hb hby at_34) ?_
        show Steps p.tables e below (s₁.setTop (mkF m 36 #[.val (.int p0), .val (.int p1), .val (.int p2), .val (.int p3), .val (.int (1 : Int32)), .val (.int (0 : Int32)), .val (.int (((p1.toUInt32 >>> ((2 : Int32) &&& 31).toUInt32).toInt32) &&& (3 : Int32))), .unset, .unset, .unset, .unset, .unset, .unset, .unset, .unset, .unset, .unset] [(.int (16 : Int32)), (.int p1)])) _
        refine XS.iand X0.here hx rfl (hb hby at_36) rfl ?_
        exact kt
      by_cases h37_10 : (p1 &&& (16 : Int32)) = (0 : Int32)
      · refine GoW.pre (st' := s₁.setTop (mkF m 44 #[.val (.int p0), .val (.int p1), .val (.int p2), .val (.int p3), .val (.int (1 : Int32)), .val (.int (0 : Int32)), .val (.int (((p1.toUInt32 >>> ((2 : Int32) &&& 31).toUInt32).toInt32) &&& (3 : Int32))), .unset, .unset, .unset, .unset, .unset, .unset, .unset, .unset, .unset, .unset] [])) (fun target kt => ?_) ?_
        · show Steps p.tables e below (s₁.setTop (mkF m 37 #[.val (.int p0), .val (.int p1), .val (.int p2), .val (.int p3), .val (.int (1 : Int32)), .val (.int (0 : Int32)), .val (.int (((p1.toUInt32 >>> ((2 : Int32) &&& 31).toUInt32).toInt32) &&& (3 : Int32))), .unset, .unset, .unset, .unset, .unset, .unset, .unset, .unset, .unset, .unset] [(.int (p1 &&& (16 : Int32)))])) _
          refine XS.ifYes X0.here hx rfl (pc0 := 37) (pc' := 44) rfl (hb hby at_37) rfl ((if0 _ _).trans (teq h37_10).1) (by decide) (by decide) ?_
          exact kt
        refine GoW.pre (st' := s₁.setTop (mkF m 51 #[.val (.int p0), .val (.int p1), .val (.int p2), .val (.int p3), .val (.int (1 : Int32)), .val (.int (0 : Int32)), .val (.int (((p1.toUInt32 >>> ((2 : Int32) &&& 31).toUInt32).toInt32) &&& (3 : Int32))), .val (.int (0 : Int32)), .unset, .unset, .unset, .unset, .unset, .unset, .unset, .unset, .unset] [(.int (p1 &&& (32 : Int32)))])) (fun target kt => ?_) ?_
        · show Steps p.tables e below (s₁.setTop (mkF m 44 #[.val (.int p0), .val (.int p1), .val (.int p2), .val (.int p3), .val (.int (1 : Int32)), .val (.int (0 : Int32)), .val (.int (((p1.toUInt32 >>> ((2 : Int32) &&& 31).toUInt32).toInt32) &&& (3 : Int32))), .unset, .unset, .unset, .unset, .unset, .unset, .unset, .unset, .unset, .unset] [])) _
          refine XS.iconst X0.here hx rfl (hb hby at_44) ?_
          show Steps p.tables e below (s₁.setTop (mkF m 45 #[.val (.int p0), .val (.int p1), .val (.int p2), .val (.int p3), .val (.int (1 : Int32)), .val (.int (0 : Int32)), .val (.int (((p1.toUInt32 >>> ((2 : Int32) &&& 31).toUInt32).toInt32) &&& (3 : Int32))), .unset, .unset, .unset, .unset, .unset, .unset, .unset, .unset, .unset, .unset] [(.int (0 : Int32))])) _
          refine XS.istore X0.here hx rfl (hb hby at_45) rfl (l' := #[.val (.int p0), .val (.int p1), .val (.int p2), .val (.int p3), .val (.int (1 : Int32)), .val (.int (0 : Int32)), .val (.int (((p1.toUInt32 >>> ((2 : Int32) &&& 31).toUInt32).toInt32) &&& (3 : Int32))), .val (.int (0 : Int32)), .unset, .unset, .unset, .unset, .unset, .unset, .unset, .unset, .unset]) rfl ?_
          show Steps p.tables e below (s₁.setTop (mkF m 47 #[.val (.int p0), .val (.int p1), .val (.int p2), .val (.int p3), .val (.int (1 : Int32)), .val (.int (0 : Int32)), .val (.int (((p1.toUInt32 >>> ((2 : Int32) &&& 31).toUInt32).toInt32) &&& (3 : Int32))), .val (.int (0 : Int32)), .unset, .unset, .unset, .unset, .unset, .unset, .unset, .unset, .unset] [])) _
          refine XS.iloadN X0.here hx rfl (hb hby at_47) rfl ?_
          show Steps p.tables e below (s₁.setTop (mkF m 48 #[.val (.int p0), .val (.int p1), .val (.int p2), .val (.int p3), .val (.int (1 : Int32)), .val (.int (0 : Int32)), .val (.int (((p1.toUInt32 >>> ((2 : Int32) &&& 31).toUInt32).toInt32) &&& (3 : Int32))), .val (.int (0 : Int32)), .unset, .unset, .unset, .unset, .unset, .unset, .unset, .unset, .unset] [(.int p1)])) _
          refine XS.bipush X0.here hx rfl (hb hby at_48) ?_
          show Steps p.tables e below (s₁.setTop (mkF m 50 #[.val (.int p0), .val (.int p1), .val (.int p2), .val (.int p3), .val (.int (1 : Int32)), .val (.int (0 : Int32)), .val (.int (((p1.toUInt32 >>> ((2 : Int32) &&& 31).toUInt32).toInt32) &&& (3 : Int32))), .val (.int (0 : Int32)), .unset, .unset, .unset, .unset, .unset, .unset, .unset, .unset, .unset] [(.int (32 : Int32)), (.int p1)])) _
          refine XS.iand X0.here hx rfl (hb hby at_50) rfl ?_
          exact kt
        by_cases h51_11 : (p1 &&& (32 : Int32)) = (0 : Int32)
        · refine GoW.pre (st' := s₁.setTop (mkF m 58 #[.val (.int p0), .val (.int p1), .val (.int p2), .val (.int p3), .val (.int (1 : Int32)), .val (.int (0 : Int32)), .val (.int (((p1.toUInt32 >>> ((2 : Int32) &&& 31).toUInt32).toInt32) &&& (3 : Int32))), .val (.int (0 : Int32)), .unset, .unset, .unset, .unset, .unset, .unset, .unset, .unset, .unset] [])) (fun target kt => ?_) ?_
          · show Steps p.tables e below (s₁.setTop (mkF m 51 #[.val (.int p0), .val (.int p1), .val (.int p2), .val (.int p3), .val (.int (1 : Int32)), .val (.int (0 : Int32)), .val (.int (((p1.toUInt32 >>> ((2 : Int32) &&& 31).toUInt32).toInt32) &&& (3 : Int32))), .val (.int (0 : Int32)), .unset, .unset, .unset, .unset, .unset, .unset, .unset, .unset, .unset] [(.int (p1 &&& (32 : Int32)))])) _
            refine XS.ifYes X0.here hx rfl (pc0 := 51) (pc' := 58) rfl (hb hby at_51) rfl ((if0 _ _).trans (teq h51_11).1) (by decide) (by decide) ?_
            exact kt
          refine GoW.pre (st' := s₁.setTop (mkF m 61 #[.val (.int p0), .val (.int p1), .val (.int p2), .val (.int p3), .val (.int (1 : Int32)), .val (.int (0 : Int32)), .val (.int (((p1.toUInt32 >>> ((2 : Int32) &&& 31).toUInt32).toInt32) &&& (3 : Int32))), .val (.int (0 : Int32)), .val (.int (0 : Int32)), .unset, .unset, .unset, .unset, .unset, .unset, .unset, .unset] [])) (fun target kt => ?_) ?_
          · show Steps p.tables e below (s₁.setTop (mkF m 58 #[.val (.int p0), .val (.int p1), .val (.int p2), .val (.int p3), .val (.int (1 : Int32)), .val (.int (0 : Int32)), .val (.int (((p1.toUInt32 >>> ((2 : Int32) &&& 31).toUInt32).toInt32) &&& (3 : Int32))), .val (.int (0 : Int32)), .unset, .unset, .unset, .unset, .unset, .unset, .unset, .unset, .unset] [])) _
            refine XS.iconst X0.here hx rfl (hb hby at_58) ?_
            show Steps p.tables e below (s₁.setTop (mkF m 59 #[.val (.int p0), .val (.int p1), .val (.int p2), .val (.int p3), .val (.int (1 : Int32)), .val (.int (0 : Int32)), .val (.int (((p1.toUInt32 >>> ((2 : Int32) &&& 31).toUInt32).toInt32) &&& (3 : Int32))), .val (.int (0 : Int32)), .unset, .unset, .unset, .unset, .unset, .unset, .unset, .unset, .unset] [(.int (0 : Int32))])) _
            refine XS.istore X0.here hx rfl (hb hby at_59) rfl (l' := #[.val (.int p0), .val (.int p1), .val (.int p2), .val (.int p3), .val (.int (1 : Int32)), .val (.int (0 : Int32)), .val (.int (((p1.toUInt32 >>> ((2 : Int32) &&& 31).toUInt32).toInt32) &&& (3 : Int32))), .val (.int (0 : Int32)), .val (.int (0 : Int32)), .unset, .unset, .unset, .unset, .unset, .unset, .unset, .unset]) rfl ?_
            exact kt
          exact blk61 ⟨hx, hZ, hby, hml, hown, hrt, hlk⟩ hw hS (by omega) (IB.sup hI (by simp)) hnS hkp X0 e0 N0 p0 p1 p2 p3 (1 : Int32) (0 : Int32) (((p1.toUInt32 >>> ((2 : Int32) &&& 31).toUInt32).toInt32) &&& (3 : Int32)) (0 : Int32) (0 : Int32) zc zd kd (by omega) (Or.inl rfl) S_COMPACT hcs S_D A_zd Ol hcw hheld
        · refine GoW.pre (st' := s₁.setTop (mkF m 54 #[.val (.int p0), .val (.int p1), .val (.int p2), .val (.int p3), .val (.int (1 : Int32)), .val (.int (0 : Int32)), .val (.int (((p1.toUInt32 >>> ((2 : Int32) &&& 31).toUInt32).toInt32) &&& (3 : Int32))), .val (.int (0 : Int32)), .unset, .unset, .unset, .unset, .unset, .unset, .unset, .unset, .unset] [])) (fun target kt => ?_) ?_
          · show Steps p.tables e below (s₁.setTop (mkF m 51 #[.val (.int p0), .val (.int p1), .val (.int p2), .val (.int p3), .val (.int (1 : Int32)), .val (.int (0 : Int32)), .val (.int (((p1.toUInt32 >>> ((2 : Int32) &&& 31).toUInt32).toInt32) &&& (3 : Int32))), .val (.int (0 : Int32)), .unset, .unset, .unset, .unset, .unset, .unset, .unset, .unset, .unset] [(.int (p1 &&& (32 : Int32)))])) _
            refine XS.ifNo X0.here hx rfl (hb hby at_51) rfl ((if0 _ _).trans (feq h51_11).1) ?_
            exact kt
          refine GoW.pre (st' := s₁.setTop (mkF m 61 #[.val (.int p0), .val (.int p1), .val (.int p2), .val (.int p3), .val (.int (1 : Int32)), .val (.int (0 : Int32)), .val (.int (((p1.toUInt32 >>> ((2 : Int32) &&& 31).toUInt32).toInt32) &&& (3 : Int32))), .val (.int (0 : Int32)), .val (.int (1 : Int32)), .unset, .unset, .unset, .unset, .unset, .unset, .unset, .unset] [])) (fun target kt => ?_) ?_
          · show Steps p.tables e below (s₁.setTop (mkF m 54 #[.val (.int p0), .val (.int p1), .val (.int p2), .val (.int p3), .val (.int (1 : Int32)), .val (.int (0 : Int32)), .val (.int (((p1.toUInt32 >>> ((2 : Int32) &&& 31).toUInt32).toInt32) &&& (3 : Int32))), .val (.int (0 : Int32)), .unset, .unset, .unset, .unset, .unset, .unset, .unset, .unset, .unset] [])) _
            refine XS.iconst X0.here hx rfl (hb hby at_54) ?_
            show Steps p.tables e below (s₁.setTop (mkF m 55 #[.val (.int p0), .val (.int p1), .val (.int p2), .val (.int p3), .val (.int (1 : Int32)), .val (.int (0 : Int32)), .val (.int (((p1.toUInt32 >>> ((2 : Int32) &&& 31).toUInt32).toInt32) &&& (3 : Int32))), .val (.int (0 : Int32)), .unset, .unset, .unset, .unset, .unset, .unset, .unset, .unset, .unset] [(.int (1 : Int32))])) _
            refine XS.goto X0.here hx rfl (pc0 := 55) (pc' := 59) rfl (hb hby at_55) (by decide) (by decide) ?_
            show Steps p.tables e below (s₁.setTop (mkF m 59 #[.val (.int p0), .val (.int p1), .val (.int p2), .val (.int p3), .val (.int (1 : Int32)), .val (.int (0 : Int32)), .val (.int (((p1.toUInt32 >>> ((2 : Int32) &&& 31).toUInt32).toInt32) &&& (3 : Int32))), .val (.int (0 : Int32)), .unset, .unset, .unset, .unset, .unset, .unset, .unset, .unset, .unset] [(.int (1 : Int32))])) _
            refine XS.istore X0.here hx rfl (hb hby at_59) rfl (l' := #[.val (.int p0), .val (.int p1), .val (.int p2), .val (.int p3), .val (.int (1 : Int32)), .val (.int (0 : Int32)), .val (.int (((p1.toUInt32 >>> ((2 : Int32) &&& 31).toUInt32).toInt32) &&& (3 : Int32))), .val (.int (0 : Int32)), .val (.int (1 : Int32)), .unset, .unset, .unset, .unset, .unset, .unset, .unset, .unset]) rfl ?_
            exact kt
          exact blk61 ⟨hx, hZ, hby, hml, hown, hrt, hlk⟩ hw hS (by omega) (IB.sup hI (by simp)) hnS hkp X0 e0 N0 p0 p1 p2 p3 (1 : Int32) (0 : Int32) (((p1.toUInt32 >>> ((2 : Int32) &&& 31).toUInt32).toInt32) &&& (3 : Int32)) (0 : Int32) (1 : Int32) zc zd kd (by omega) (Or.inl rfl) S_COMPACT hcs S_D A_zd Ol hcw hheld
      · refine GoW.pre (st' := s₁.setTop (mkF m 40 #[.val (.int p0), .val (.int p1), .val (.int p2), .val (.int p3), .val (.int (1 : Int32)), .val (.int (0 : Int32)), .val (.int (((p1.toUInt32 >>> ((2 : Int32) &&& 31).toUInt32).toInt32) &&& (3 : Int32))), .unset, .unset, .unset, .unset, .unset, .unset, .unset, .unset, .unset, .unset] [])) (fun target kt => ?_) ?_
        · show Steps p.tables e below (s₁.setTop (mkF m 37 #[.val (.int p0), .val (.int p1), .val (.int p2), .val (.int p3), .val (.int (1 : Int32)), .val (.int (0 : Int32)), .val (.int (((p1.toUInt32 >>> ((2 : Int32) &&& 31).toUInt32).toInt32) &&& (3 : Int32))), .unset, .unset, .unset, .unset, .unset, .unset, .unset, .unset, .unset, .unset] [(.int (p1 &&& (16 : Int32)))])) _
          refine XS.ifNo X0.here hx rfl (hb hby at_37) rfl ((if0 _ _).trans (feq h37_10).1) ?_
          exact kt
        refine GoW.pre (st' := s₁.setTop (mkF m 51 #[.val (.int p0), .val (.int p1), .val (.int p2), .val (.int p3), .val (.int (1 : Int32)), .val (.int (0 : Int32)), .val (.int (((p1.toUInt32 >>> ((2 : Int32) &&& 31).toUInt32).toInt32) &&& (3 : Int32))), .val (.int (1 : Int32)), .unset, .unset, .unset, .unset, .unset, .unset, .unset, .unset, .unset] [(.int (p1 &&& (32 : Int32)))])) (fun target kt => ?_) ?_
        · show Steps p.tables e below (s₁.setTop (mkF m 40 #[.val (.int p0), .val (.int p1), .val (.int p2), .val (.int p3), .val (.int (1 : Int32)), .val (.int (0 : Int32)), .val (.int (((p1.toUInt32 >>> ((2 : Int32) &&& 31).toUInt32).toInt32) &&& (3 : Int32))), .unset, .unset, .unset, .unset, .unset, .unset, .unset, .unset, .unset, .unset] [])) _
          refine XS.iconst X0.here hx rfl (hb hby at_40) ?_
          show Steps p.tables e below (s₁.setTop (mkF m 41 #[.val (.int p0), .val (.int p1), .val (.int p2), .val (.int p3), .val (.int (1 : Int32)), .val (.int (0 : Int32)), .val (.int (((p1.toUInt32 >>> ((2 : Int32) &&& 31).toUInt32).toInt32) &&& (3 : Int32))), .unset, .unset, .unset, .unset, .unset, .unset, .unset, .unset, .unset, .unset] [(.int (1 : Int32))])) _
          refine XS.goto X0.here hx rfl (pc0 := 41) (pc' := 45) rfl (hb hby at_41) (by decide) (by decide) ?_
          show Steps p.tables e below (s₁.setTop (mkF m 45 #[.val (.int p0), .val (.int p1), .val (.int p2), .val (.int p3), .val (.int (1 : Int32)), .val (.int (0 : Int32)), .val (.int (((p1.toUInt32 >>> ((2 : Int32) &&& 31).toUInt32).toInt32) &&& (3 : Int32))), .unset, .unset, .unset, .unset, .unset, .unset, .unset, .unset, .unset, .unset] [(.int (1 : Int32))])) _
          refine XS.istore X0.here hx rfl (hb hby at_45) rfl (l' := #[.val (.int p0), .val (.int p1), .val (.int p2), .val (.int p3), .val (.int (1 : Int32)), .val (.int (0 : Int32)), .val (.int (((p1.toUInt32 >>> ((2 : Int32) &&& 31).toUInt32).toInt32) &&& (3 : Int32))), .val (.int (1 : Int32)), .unset, .unset, .unset, .unset, .unset, .unset, .unset, .unset, .unset]) rfl ?_
          show Steps p.tables e below (s₁.setTop (mkF m 47 #[.val (.int p0), .val (.int p1), .val (.int p2), .val (.int p3), .val (.int (1 : Int32)), .val (.int (0 : Int32)), .val (.int (((p1.toUInt32 >>> ((2 : Int32) &&& 31).toUInt32).toInt32) &&& (3 : Int32))), .val (.int (1 : Int32)), .unset, .unset, .unset, .unset, .unset, .unset, .unset, .unset, .unset] [])) _
          refine XS.iloadN X0.here hx rfl (hb hby at_47) rfl ?_
          show Steps p.tables e below (s₁.setTop (mkF m 48 #[.val (.int p0), .val (.int p1), .val (.int p2), .val (.int p3), .val (.int (1 : Int32)), .val (.int (0 : Int32)), .val (.int (((p1.toUInt32 >>> ((2 : Int32) &&& 31).toUInt32).toInt32) &&& (3 : Int32))), .val (.int (1 : Int32)), .unset, .unset, .unset, .unset, .unset, .unset, .unset, .unset, .unset] [(.int p1)])) _
          refine XS.bipush X0.here hx rfl (hb hby at_48) ?_
          show Steps p.tables e below (s₁.setTop (mkF m 50 #[.val (.int p0), .val (.int p1), .val (.int p2), .val (.int p3), .val (.int (1 : Int32)), .val (.int (0 : Int32)), .val (.int (((p1.toUInt32 >>> ((2 : Int32) &&& 31).toUInt32).toInt32) &&& (3 : Int32))), .val (.int (1 : Int32)), .unset, .unset, .unset, .unset, .unset, .unset, .unset, .unset, .unset] [(.int (32 : Int32)), (.int p1)])) _
          refine XS.iand X0.here hx rfl (hb hby at_50) rfl ?_
          exact kt
        by_cases h51_12 : (p1 &&& (32 : Int32)) = (0 : Int32)
        · refine GoW.pre (st' := s₁.setTop (mkF m 58 #[.val (.int p0), .val (.int p1), .val (.int p2), .val (.int p3), .val (.int (1 : Int32)), .val (.int (0 : Int32)), .val (.int (((p1.toUInt32 >>> ((2 : Int32) &&& 31).toUInt32).toInt32) &&& (3 : Int32))), .val (.int (1 : Int32)), .unset, .unset, .unset, .unset, .unset, .unset, .unset, .unset, .unset] [])) (fun target kt => ?_) ?_
          · show Steps p.tables e below (s₁.setTop (mkF m 51 #[.val (.int p0), .val (.int p1), .val (.int p2), .val (.int p3), .val (.int (1 : Int32)), .val (.int (0 : Int32)), .val (.int (((p1.toUInt32 >>> ((2 : Int32) &&& 31).toUInt32).toInt32) &&& (3 : Int32))), .val (.int (1 : Int32)), .unset, .unset, .unset, .unset, .unset, .unset, .unset, .unset, .unset] [(.int (p1 &&& (32 : Int32)))])) _
            refine XS.ifYes X0.here hx rfl (pc0 := 51) (pc' := 58) rfl (hb hby at_51) rfl ((if0 _ _).trans (teq h51_12).1) (by decide) (by decide) ?_
            exact kt
          refine GoW.pre (st' := s₁.setTop (mkF m 61 #[.val (.int p0), .val (.int p1), .val (.int p2), .val (.int p3), .val (.int (1 : Int32)), .val (.int (0 : Int32)), .val (.int (((p1.toUInt32 >>> ((2 : Int32) &&& 31).toUInt32).toInt32) &&& (3 : Int32))), .val (.int (1 : Int32)), .val (.int (0 : Int32)), .unset, .unset, .unset, .unset, .unset, .unset, .unset, .unset] [])) (fun target kt => ?_) ?_
          · show Steps p.tables e below (s₁.setTop (mkF m 58 #[.val (.int p0), .val (.int p1), .val (.int p2), .val (.int p3), .val (.int (1 : Int32)), .val (.int (0 : Int32)), .val (.int (((p1.toUInt32 >>> ((2 : Int32) &&& 31).toUInt32).toInt32) &&& (3 : Int32))), .val (.int (1 : Int32)), .unset, .unset, .unset, .unset, .unset, .unset, .unset, .unset, .unset] [])) _
            refine XS.iconst X0.here hx rfl (hb hby at_58) ?_
            show Steps p.tables e below (s₁.setTop (mkF m 59 #[.val (.int p0), .val (.int p1), .val (.int p2), .val (.int p3), .val (.int (1 : Int32)), .val (.int (0 : Int32)), .val (.int (((p1.toUInt32 >>> ((2 : Int32) &&& 31).toUInt32).toInt32) &&& (3 : Int32))), .val (.int (1 : Int32)), .unset, .unset, .unset, .unset, .unset, .unset, .unset, .unset, .unset] [(.int (0 : Int32))])) _
            refine XS.istore X0.here hx rfl (hb hby at_59) rfl (l' := #[.val (.int p0), .val (.int p1), .val (.int p2), .val (.int p3), .val (.int (1 : Int32)), .val (.int (0 : Int32)), .val (.int (((p1.toUInt32 >>> ((2 : Int32) &&& 31).toUInt32).toInt32) &&& (3 : Int32))), .val (.int (1 : Int32)), .val (.int (0 : Int32)), .unset, .unset, .unset, .unset, .unset, .unset, .unset, .unset]) rfl ?_
            exact kt
          exact blk61 ⟨hx, hZ, hby, hml, hown, hrt, hlk⟩ hw hS (by omega) (IB.sup hI (by simp)) hnS hkp X0 e0 N0 p0 p1 p2 p3 (1 : Int32) (0 : Int32) (((p1.toUInt32 >>> ((2 : Int32) &&& 31).toUInt32).toInt32) &&& (3 : Int32)) (1 : Int32) (0 : Int32) zc zd kd (by omega) (Or.inl rfl) S_COMPACT hcs S_D A_zd Ol hcw hheld
        · refine GoW.pre (st' := s₁.setTop (mkF m 54 #[.val (.int p0), .val (.int p1), .val (.int p2), .val (.int p3), .val (.int (1 : Int32)), .val (.int (0 : Int32)), .val (.int (((p1.toUInt32 >>> ((2 : Int32) &&& 31).toUInt32).toInt32) &&& (3 : Int32))), .val (.int (1 : Int32)), .unset, .unset, .unset, .unset, .unset, .unset, .unset, .unset, .unset] [])) (fun target kt => ?_) ?_
          · show Steps p.tables e below (s₁.setTop (mkF m 51 #[.val (.int p0), .val (.int p1), .val (.int p2), .val (.int p3), .val (.int (1 : Int32)), .val (.int (0 : Int32)), .val (.int (((p1.toUInt32 >>> ((2 : Int32) &&& 31).toUInt32).toInt32) &&& (3 : Int32))), .val (.int (1 : Int32)), .unset, .unset, .unset, .unset, .unset, .unset, .unset, .unset, .unset] [(.int (p1 &&& (32 : Int32)))])) _
            refine XS.ifNo X0.here hx rfl (hb hby at_51) rfl ((if0 _ _).trans (feq h51_12).1) ?_
            exact kt
          refine GoW.pre (st' := s₁.setTop (mkF m 61 #[.val (.int p0), .val (.int p1), .val (.int p2), .val (.int p3), .val (.int (1 : Int32)), .val (.int (0 : Int32)), .val (.int (((p1.toUInt32 >>> ((2 : Int32) &&& 31).toUInt32).toInt32) &&& (3 : Int32))), .val (.int (1 : Int32)), .val (.int (1 : Int32)), .unset, .unset, .unset, .unset, .unset, .unset, .unset, .unset] [])) (fun target kt => ?_) ?_
          · show Steps p.tables e below (s₁.setTop (mkF m 54 #[.val (.int p0), .val (.int p1), .val (.int p2), .val (.int p3), .val (.int (1 : Int32)), .val (.int (0 : Int32)), .val (.int (((p1.toUInt32 >>> ((2 : Int32) &&& 31).toUInt32).toInt32) &&& (3 : Int32))), .val (.int (1 : Int32)), .unset, .unset, .unset, .unset, .unset, .unset, .unset, .unset, .unset] [])) _
            refine XS.iconst X0.here hx rfl (hb hby at_54) ?_
            show Steps p.tables e below (s₁.setTop (mkF m 55 #[.val (.int p0), .val (.int p1), .val (.int p2), .val (.int p3), .val (.int (1 : Int32)), .val (.int (0 : Int32)), .val (.int (((p1.toUInt32 >>> ((2 : Int32) &&& 31).toUInt32).toInt32) &&& (3 : Int32))), .val (.int (1 : Int32)), .unset, .unset, .unset, .unset, .unset, .unset, .unset, .unset, .unset] [(.int (1 : Int32))])) _
            refine XS.goto X0.here hx rfl (pc0 := 55) (pc' := 59) rfl (hb hby at_55) (by decide) (by decide) ?_
            show Steps p.tables e below (s₁.setTop (mkF m 59 #[.val (.int p0), .val (.int p1), .val (.int p2), .val (.int p3), .val (.int (1 : Int32)), .val (.int (0 : Int32)), .val (.int (((p1.toUInt32 >>> ((2 : Int32) &&& 31).toUInt32).toInt32) &&& (3 : Int32))), .val (.int (1 : Int32)), .unset, .unset, .unset, .unset, .unset, .unset, .unset, .unset, .unset] [(.int (1 : Int32))])) _
            refine XS.istore X0.here hx rfl (hb hby at_59) rfl (l' := #[.val (.int p0), .val (.int p1), .val (.int p2), .val (.int p3), .val (.int (1 : Int32)), .val (.int (0 : Int32)), .val (.int (((p1.toUInt32 >>> ((2 : Int32) &&& 31).toUInt32).toInt32) &&& (3 : Int32))), .val (.int (1 : Int32)), .val (.int (1 : Int32)), .unset, .unset, .unset, .unset, .unset, .unset, .unset, .unset]) rfl ?_
            exact kt
          exact blk61 ⟨hx, hZ, hby, hml, hown, hrt, hlk⟩ hw hS (by omega) (IB.sup hI (by simp)) hnS hkp X0 e0 N0 p0 p1 p2 p3 (1 : Int32) (0 : Int32) (((p1.toUInt32 >>> ((2 : Int32) &&& 31).toUInt32).toInt32) &&& (3 : Int32)) (1 : Int32) (1 : Int32) zc zd kd (by omega) (Or.inl rfl) S_COMPACT hcs S_D A_zd Ol hcw hheld
    · refine GoW.pre (st' := s₁.setTop (mkF m 19 #[.val (.int p0), .val (.int p1), .val (.int p2), .val (.int p3), .val (.int (1 : Int32)), .unset, .unset, .unset, .unset, .unset, .unset, .unset, .unset, .unset, .unset, .unset, .unset] [])) (fun target kt => ?_) ?_
      · show Steps p.tables e below (s₁.setTop (mkF m 16 #[.val (.int p0), .val (.int p1), .val (.int p2), .val (.int p3), .val (.int (1 : Int32)), .unset, .unset, .unset, .unset, .unset, .unset, .unset, .unset, .unset, .unset, .unset, .unset] [(.int (p1 &&& (2 : Int32)))])) _
        refine XS.ifNo X0.here hx rfl (hb hby at_16) rfl ((if0 _ _).trans (feq h16_9).1) ?_
        exact kt
      refine GoW.pre (st' := s₁.setTop (mkF m 37 #[.val (.int p0), .val (.int p1), .val (.int p2), .val (.int p3), .val (.int (1 : Int32)), .val (.int (1 : Int32)), .val (.int (((p1.toUInt32 >>> ((2 : Int32) &&& 31).toUInt32).toInt32) &&& (3 : Int32))), .unset, .unset, .unset, .unset, .unset, .unset, .unset, .unset, .unset, .unset] [(.int (p1 &&& (16 : Int32)))])) (fun target kt => ?_) ?_
      · show Steps p.tables e below (s₁.setTop (mkF m 19 #[.val (.int p0), .val (.int p1), .val (.int p2), .val (.int p3), .val (.int (1 : Int32)), .unset, .unset, .unset, .unset, .unset, .unset, .unset, .unset, .unset, .unset, .unset, .unset] [])) _
        refine XS.iconst X0.here hx rfl (hb hby at_19) ?_
        show Steps p.tables e below (s₁.setTop (mkF m 20 #[.val (.int p0), .val (.int p1), .val (.int p2), .val (.int p3), .val (.int (1 : Int32)), .unset, .unset, .unset, .unset, .unset, .unset, .unset, .unset, .unset, .unset, .unset, .unset] [(.int (1 : Int32))])) _
        refine XS.goto X0.here hx rfl (pc0 := 20) (pc' := 24) rfl (hb hby at_20) (by decide) (by decide) ?_
        show Steps p.tables e below (s₁.setTop (mkF m 24 #[.val (.int p0), .val (.int p1), .val (.int p2), .val (.int p3), .val (.int (1 : Int32)), .unset, .unset, .unset, .unset, .unset, .unset, .unset, .unset, .unset, .unset, .unset, .unset] [(.int (1 : Int32))])) _
        refine XS.istore X0.here hx rfl (hb hby at_24) rfl (l' := #[.val (.int p0), .val (.int p1), .val (.int p2), .val (.int p3), .val (.int (1 : Int32)), .val (.int (1 : Int32)), .unset, .unset, .unset, .unset, .unset, .unset, .unset, .unset, .unset, .unset, .unset]) rfl ?_
        show Steps p.tables e below (s₁.setTop (mkF m 26 #[.val (.int p0), .val (.int p1), .val (.int p2), .val (.int p3), .val (.int (1 : Int32)), .val (.int (1 : Int32)), .unset, .unset, .unset, .unset, .unset, .unset, .unset, .unset, .unset, .unset, .unset] [])) _
        refine XS.iloadN X0.here hx rfl (hb hby at_26) rfl ?_
        show Steps p.tables e below (s₁.setTop (mkF m 27 #[.val (.int p0), .val (.int p1), .val (.int p2), .val (.int p3), .val (.int (1 : Int32)), .val (.int (1 : Int32)), .unset, .unset, .unset, .unset, .unset, .unset, .unset, .unset, .unset, .unset, .unset] [(.int p1)])) _
        refine XS.iconst X0.here hx rfl (hb hby at_27) ?_
        show Steps p.tables e below (s₁.setTop (mkF m 28 #[.val (.int p0), .val (.int p1), .val (.int p2), .val (.int p3), .val (.int (1 : Int32)), .val (.int (1 : Int32)), .unset, .unset, .unset, .unset, .unset, .unset, .unset, .unset, .unset, .unset, .unset] [(.int (2 : Int32)), (.int p1)])) _
        refine XS.iushr X0.here hx rfl (hb hby at_28) rfl ?_
        show Steps p.tables e below (s₁.setTop (mkF m 29 #[.val (.int p0), .val (.int p1), .val (.int p2), .val (.int p3), .val (.int (1 : Int32)), .val (.int (1 : Int32)), .unset, .unset, .unset, .unset, .unset, .unset, .unset, .unset, .unset, .unset, .unset] [(.int ((p1.toUInt32 >>> ((2 : Int32) &&& 31).toUInt32).toInt32))])) _
        refine XS.iconst X0.here hx rfl (hb hby at_29) ?_
        show Steps p.tables e below (s₁.setTop (mkF m 30 #[.val (.int p0), .val (.int p1), .val (.int p2), .val (.int p3), .val (.int (1 : Int32)), .val (.int (1 : Int32)), .unset, .unset, .unset, .unset, .unset, .unset, .unset, .unset, .unset, .unset, .unset] [(.int (3 : Int32)), (.int ((p1.toUInt32 >>> ((2 : Int32) &&& 31).toUInt32).toInt32))])) _
        refine XS.iand X0.here hx rfl (hb hby at_30) rfl ?_
        show Steps p.tables e below (s₁.setTop (mkF m 31 #[.val (.int p0), .val (.int p1), .val (.int p2), .val (.int p3), .val (.int (1 : Int32)), .val (.int (1 : Int32)), .unset, .unset, .unset, .unset, .unset, .unset, .unset, .unset, .unset, .unset, .unset] [(.int (((p1.toUInt32 >>> ((2 : Int32) &&& 31).toUInt32).toInt32) &&& (3 : Int32)))])) _
        refine XS.istore X0.here hx rfl (hb hby at_31) rfl (l' := #[.val (.int p0), .val (.int p1), .val (.int p2), .val (.int p3), .val (.int (1 : Int32)), .val (.int (1 : Int32)), .val (.int (((p1.toUInt32 >>> ((2 : Int32) &&& 31).toUInt32).toInt32) &&& (3 : Int32))), .unset, .unset, .unset, .unset, .unset, .unset, .unset, .unset, .unset, .unset]) rfl ?_
        show Steps p.tables e below (s₁.setTop (mkF m 33 #[.val (.int p0), .val (.int p1), .val (.int p2), .val (.int p3), .val (.int (1 : Int32)), .val (.int (1 : Int32)), .val (.int (((p1.toUInt32 >>> ((2 : Int32) &&& 31).toUInt32).toInt32) &&& (3 : Int32))), .unset, .unset, .unset, .unset, .unset, .unset, .unset, .unset, .unset, .unset] [])) _
        refine XS.iloadN X0.here hx rfl (hb hby at_33) rfl ?_
        show Steps p.tables e below (s₁.setTop (mkF m 34 #[.val (.int p0), .val (.int p1), .val (.int p2), .val (.int p3), .val (.int (1 : Int32)), .val (.int (1 : Int32)), .val (.int (((p1.toUInt32 >>> ((2 : Int32) &&& 31).toUInt32).toInt32) &&& (3 : Int32))), .unset, .unset, .unset, .unset, .unset, .unset, .unset, .unset, .unset, .unset] [(.int p1)])) _
        refine XS.bipush X0.here hx rfl (hb hby at_34) ?_
        show Steps p.tables e below (s₁.setTop (mkF m 36 #[.val (.int p0), .val (.int p1), .val (.int p2), .val (.int p3), .val (.int (1 : Int32)), .val (.int (1 : Int32)), .val (.int (((p1.toUInt32 >>> ((2 : Int32) &&& 31).toUInt32).toInt32) &&& (3 : Int32))), .unset, .unset, .unset, .unset, .unset, .unset, .unset, .unset, .unset, .unset] [(.int (16 : Int32)), (.int p1)])) _
        refine XS.iand X0.here hx rfl (hb hby at_36) rfl ?_
        exact kt
      by_cases h37_13 : (p1 &&& (16 : Int32)) = (0 : Int32)
      · refine GoW.pre (st' := s₁.setTop (mkF m 44 #[.val (.int p0), .val (.int p1), .val (.int p2), .val (.int p3), .val (.int (1 : Int32)), .val (.int (1 : Int32)), .val (.int (((p1.toUInt32 >>> ((2 : Int32) &&& 31).toUInt32).toInt32) &&& (3 : Int32))), .unset, .unset, .unset, .unset, .unset, .unset, .unset, .unset, .unset, .unset] [])) (fun target kt => ?_) ?_
        · show Steps p.tables e below (s₁.setTop (mkF m 37 #[.val (.int p0), .val (.int p1), .val (.int p2), .val (.int p3), .val (.int (1 : Int32)), .val (.int (1 : Int32)), .val (.int (((p1.toUInt32 >>> ((2 : Int32) &&& 31).toUInt32).toInt32) &&& (3 : Int32))), .unset, .unset, .unset, .unset, .unset, .unset, .unset, .unset, .unset, .unset] [(.int (p1 &&& (16 : Int32)))])) _
          refine XS.ifYes X0.here hx rfl (pc0 := 37) (pc' := 44) rfl (hb hby at_37) rfl ((if0 _ _).trans (teq h37_13).1) (by decide) (by decide) ?_
          exact kt
        refine GoW.pre (st' := s₁.setTop (mkF m 51 #[.val (.int p0), .val (.int p1), .val (.int p2), .val (.int p3), .val (.int (1 : Int32)), .val (.int (1 : Int32)), .val (.int (((p1.toUInt32 >>> ((2 : Int32) &&& 31).toUInt32).toInt32) &&& (3 : Int32))), .val (.int (0 : Int32)), .unset, .unset, .unset, .unset, .unset, .unset, .unset, .unset, .unset] [(.int (p1 &&& (32 : Int32)))])) (fun target kt => ?_) ?_
        · show Steps p.tables e below (s₁.setTop (mkF m 44 #[.val (.int p0), .val (.int p1), .val (.int p2), .val (.int p3), .val (.int (1 : Int32)), .val (.int (1 : Int32)), .val (.int (((p1.toUInt32 >>> ((2 : Int32) &&& 31).toUInt32).toInt32) &&& (3 : Int32))), .unset, .unset, .unset, .unset, .unset, .unset, .unset, .unset, .unset, .unset] [])) _
          refine XS.iconst X0.here hx rfl (hb hby at_44) ?_
          show Steps p.tables e below (s₁.setTop (mkF m 45 #[.val (.int p0), .val (.int p1), .val (.int p2), .val (.int p3), .val (.int (1 : Int32)), .val (.int (1 : Int32)), .val (.int (((p1.toUInt32 >>> ((2 : Int32) &&& 31).toUInt32).toInt32) &&& (3 : Int32))), .unset, .unset, .unset, .unset, .unset, .unset, .unset, .unset, .unset, .unset] [(.int (0 : Int32))])) _
          refine XS.istore X0.here hx rfl (hb hby at_45) rfl (l' := #[.val (.int p0), .val (.int p1), .val (.int p2), .val (.int p3), .val (.int (1 : Int32)), .val (.int (1 : Int32)), .val (.int (((p1.toUInt32 >>> ((2 : Int32) &&& 31).toUInt32).toInt32) &&& (3 : Int32))), .val (.int (0 : Int32)), .unset, .unset, .unset, .unset, .unset, .unset, .unset, .unset, .unset]) rfl ?_
          show Steps p.tables e below (s₁.setTop (mkF m 47 #[.val (.int p0), .val (.int p1), .val (.int p2), .val (.int p3), .val (.int (1 : Int32)), .val (.int (1 : Int32)), .val (.int (((p1.toUInt32 >>> ((2 : Int32) &&& 31).toUInt32).toInt32) &&& (3 : Int32))), .val (.int (0 : Int32)), .unset, .unset, .unset, .unset, .unset, .unset, .unset, .unset, .unset] [])) _
          refine XS.iloadN X0.here hx rfl (hb hby at_47) rfl ?_
          show Steps p.tables e below (s₁.setTop (mkF m 48 #[.val (.int p0), .val (.int p1), .val (.int p2), .val (.int p3), .val (.int (1 : Int32)), .val (.int (1 : Int32)), .val (.int (((p1.toUInt32 >>> ((2 : Int32) &&& 31).toUInt32).toInt32) &&& (3 : Int32))), .val (.int (0 : Int32)), .unset, .unset, .unset, .unset, .unset, .unset, .unset, .unset, .unset] [(.int p1)])) _
          refine XS.bipush X0.here hx rfl (hb hby at_48) ?_
          show Steps p.tables e below (s₁.setTop (mkF m 50 #[.val (.int p0), .val (.int p1), .val (.int p2), .val (.int p3), .val (.int (1 : Int32)), .val (.int (1 : Int32)), .val (.int (((p1.toUInt32 >>> ((2 : Int32) &&& 31).toUInt32).toInt32) &&& (3 : Int32))), .val (.int (0 : Int32)), .unset, .unset, .unset, .unset, .unset, .unset, .unset, .unset, .unset] [(.int (32 : Int32)), (.int p1)])) _
          refine XS.iand X0.here hx rfl (hb hby at_50) rfl ?_
          exact kt
        by_cases h51_14 : (p1 &&& (32 : Int32)) = (0 : Int32)
        · refine GoW.pre (st' := s₁.setTop (mkF m 58 #[.val (.int p0), .val (.int p1), .val (.int p2), .val (.int p3), .val (.int (1 : Int32)), .val (.int (1 : Int32)), .val (.int (((p1.toUInt32 >>> ((2 : Int32) &&& 31).toUInt32).toInt32) &&& (3 : Int32))), .val (.int (0 : Int32)), .unset, .unset, .unset, .unset, .unset, .unset, .unset, .unset, .unset] [])) (fun target kt => ?_) ?_
          · show Steps p.tables e below (s₁.setTop (mkF m 51 #[.val (.int p0), .val (.int p1), .val (.int p2), .val (.int p3), .val (.int (1 : Int32)), .val (.int (1 : Int32)), .val (.int (((p1.toUInt32 >>> ((2 : Int32) &&& 31).toUInt32).toInt32) &&& (3 : Int32))), .val (.int (0 : Int32)), .unset, .unset, .unset, .unset, .unset, .unset, .unset, .unset, .unset] [(.int (p1 &&& (32 : Int32)))])) _
            refine XS.ifYes X0.here hx rfl (pc0 := 51) (pc' := 58) rfl (hb hby at_51) rfl ((if0 _ _).trans (teq h51_14).1) (by decide) (by decide) ?_
            exact kt
          refine GoW.pre (st' := s₁.setTop (mkF m 61 #[.val (.int p0), .val (.int p1), .val (.int p2), .val (.int p3), .val (.int (1 : Int32)), .val (.int (1 : Int32)), .val (.int (((p1.toUInt32 >>> ((2 : Int32) &&& 31).toUInt32).toInt32) &&& (3 : Int32))), .val (.int (0 : Int32)), .val (.int (0 : Int32)), .unset, .unset, .unset, .unset, .unset, .unset, .unset, .unset] [])) (fun target kt => ?_) ?_
          · show Steps p.tables e below (s₁.setTop (mkF m 58 #[.val (.int p0), .val (.int p1), .val (.int p2), .val (.int p3), .val (.int (1 : Int32)), .val (.int (1 : Int32)), .val (.int (((p1.toUInt32 >>> ((2 : Int32) &&& 31).toUInt32).toInt32) &&& (3 : Int32))), .val (.int (0 : Int32)), .unset, .unset, .unset, .unset, .unset, .unset, .unset, .unset, .unset] [])) _
            refine XS.iconst X0.here hx rfl (hb hby at_58) ?_
            show Steps p.tables e below (s₁.setTop (mkF m 59 #[.val (.int p0), .val (.int p1), .val (.int p2), .val (.int p3), .val (.int (1 : Int32)), .val (.int (1 : Int32)), .val (.int (((p1.toUInt32 >>> ((2 : Int32) &&& 31).toUInt32).toInt32) &&& (3 : Int32))), .val (.int (0 : Int32)), .unset, .unset, .unset, .unset, .unset, .unset, .unset, .unset, .unset] [(.int (0 : Int32))])) _
            refine XS.istore X0.here hx rfl (hb hby at_59) rfl (l' := #[.val (.int p0), .val (.int p1), .val (.int p2), .val (.int p3), .val (.int (1 : Int32)), .val (.int (1 : Int32)), .val (.int (((p1.toUInt32 >>> ((2 : Int32) &&& 31).toUInt32).toInt32) &&& (3 : Int32))), .val (.int (0 : Int32)), .val (.int (0 : Int32)), .unset, .unset, .unset, .unset, .unset, .unset, .unset, .unset]) rfl ?_
            exact kt
          exact blk61 ⟨hx, hZ, hby, hml, hown, hrt, hlk⟩ hw hS (by omega) (IB.sup hI (by simp)) hnS hkp X0 e0 N0 p0 p1 p2 p3 (1 : Int32) (1 : Int32) (((p1.toUInt32 >>> ((2 : Int32) &&& 31).toUInt32).toInt32) &&& (3 : Int32)) (0 : Int32) (0 : Int32) zc zd kd (by omega) (Or.inr rfl) S_COMPACT hcs S_D A_zd Ol hcw hheld
        · refine GoW.pre (st' := s₁.setTop (mkF m 54 #[.val (.int p0), .val (.int p1), .val (.int p2), .val (.int p3), .val (.int (1 : Int32)), .val (.int (1 : Int32)), .val (.int (((p1.toUInt32 >>> ((2 : Int32) &&& 31).toUInt32).toInt32) &&& (3 : Int32))), .val (.int (0 : Int32)), .unset, .unset, .unset, .unset, .unset, .unset, .unset, .unset, .unset] [])) (fun target kt => ?_) ?_
          · show Steps p.tables e below (s₁.setTop (mkF m 51 #[.val (.int p0), .val (.int p1), .val (.int p2), .val (.int p3), .val (.int (1 : Int32)), .val (.int (1 : Int32)), .val (.int (((p1.toUInt32 >>> ((2 : Int32) &&& 31).toUInt32).toInt32) &&& (3 : Int32))), .val (.int (0 : Int32)), .unset, .unset, .unset, .unset, .unset, .unset, .unset, .unset, .unset] [(.int (p1 &&& (32 : Int32)))])) _
            refine XS.ifNo X0.here hx rfl (hb hby at_51) rfl ((if0 _ _).trans (feq h51_14).1) ?_
            exact kt
          refine GoW.pre (st' := s₁.setTop (mkF m 61 #[.val (.int p0), .val (.int p1), .val (.int p2), .val (.int p3), .val (.int (1 : Int32)), .val (.int (1 : Int32)), .val (.int (((p1.toUInt32 >>> ((2 : Int32) &&& 31).toUInt32).toInt32) &&& (3 : Int32))), .val (.int (0 : Int32)), .val (.int (1 : Int32)), .unset, .unset, .unset, .unset, .unset, .unset, .unset, .unset] [])) (fun target kt => ?_) ?_
          · show Steps p.tables e below (s₁.setTop (mkF m 54 #[.val (.int p0), .val (.int p1), .val (.int p2), .val (.int p3), .val (.int (1 : Int32)), .val (.int (1 : Int32)), .val (.int (((p1.toUInt32 >>> ((2 : Int32) &&& 31).toUInt32).toInt32) &&& (3 : Int32))), .val (.int (0 : Int32)), .unset, .unset, .unset, .unset, .unset, .unset, .unset, .unset, .unset] [])) _
            refine XS.iconst X0.here hx rfl (hb hby at_54) ?_
            show Steps p.tables e below (s₁.setTop (mkF m 55 #[.val (.int p0), .val (.int p1), .val (.int p2), .val (.int p3), .val (.int (1 : Int32)), .val (.int (1 : Int32)), .val (.int (((p1.toUInt32 >>> ((2 : Int32) &&& 31).toUInt32).toInt32) &&& (3 : Int32))), .val (.int (0 : Int32)), .unset, .unset, .unset, .unset, .unset, .unset, .unset, .unset, .unset] [(.int (1 : Int32))])) _
            refine XS.goto X0.here hx rfl (pc0 := 55) (pc' := 59) rfl (hb hby at_55) (by decide) (by decide) ?_
            show Steps p.tables e below (s₁.setTop (mkF m 59 #[.val (.int p0), .val (.int p1), .val (.int p2), .val (.int p3), .val (.int (1 : Int32)), .val (.int (1 : Int32)), .val (.int (((p1.toUInt32 >>> ((2 : Int32) &&& 31).toUInt32).toInt32) &&& (3 : Int32))), .val (.int (0 : Int32)), .unset, .unset, .unset, .unset, .unset, .unset, .unset, .unset, .unset] [(.int (1 : Int32))])) _
            refine XS.istore X0.here hx rfl (hb hby at_59) rfl (l' := #[.val (.int p0), .val (.int p1), .val (.int p2), .val (.int p3), .val (.int (1 : Int32)), .val (.int (1 : Int32)), .val (.int (((p1.toUInt32 >>> ((2 : Int32) &&& 31).toUInt32).toInt32) &&& (3 : Int32))), .val (.int (0 : Int32)), .val (.int (1 : Int32)), .unset, .unset, .unset, .unset, .unset, .unset, .unset, .unset]) rfl ?_
            exact kt
          exact blk61 ⟨hx, hZ, hby, hml, hown, hrt, hlk⟩ hw hS (by omega) (IB.sup hI (by simp)) hnS hkp X0 e0 N0 p0 p1 p2 p3 (1 : Int32) (1 : Int32) (((p1.toUInt32 >>> ((2 : Int32) &&& 31).toUInt32).toInt32) &&& (3 : Int32)) (0 : Int32) (1 : Int32) zc zd kd (by omega) (Or.inr rfl) S_COMPACT hcs S_D A_zd Ol hcw hheld
      · refine GoW.pre (st' := s₁.setTop (mkF m 40 #[.val (.int p0), .val (.int p1), .val (.int p2), .val (.int p3), .val (.int (1 : Int32)), .val (.int (1 : Int32)), .val (.int (((p1.toUInt32 >>> ((2 : Int32) &&& 31).toUInt32).toInt32) &&& (3 : Int32))), .unset, .unset, .unset, .unset, .unset, .unset, .unset, .unset, .unset, .unset] [])) (fun target kt => ?_) ?_
        · show Steps p.tables e below (s₁.setTop (mkF m 37 #[.val (.int p0), .val (.int p1), .val (.int p2), .val (.int p3), .val (.int (1 : Int32)), .val (.int (1 : Int32)), .val (.int (((p1.toUInt32 >>> ((2 : Int32) &&& 31).toUInt32).toInt32) &&& (3 : Int32))), .unset, .unset, .unset, .unset, .unset, .unset, .unset, .unset, .unset, .unset] [(.int (p1 &&& (16 : Int32)))])) _
          refine XS.ifNo X0.here hx rfl (hb hby at_37) rfl ((if0 _ _).trans (feq h37_13).1) ?_
          exact kt
        refine GoW.pre (st' := s₁.setTop (mkF m 51 #[.val (.int p0), .val (.int p1), .val (.int p2), .val (.int p3), .val (.int (1 : Int32)), .val (.int (1 : Int32)), .val (.int (((p1.toUInt32 >>> ((2 : Int32) &&& 31).toUInt32).toInt32) &&& (3 : Int32))), .val (.int (1 : Int32)), .unset, .unset, .unset, .unset, .unset, .unset, .unset, .unset, .unset] [(.int (p1 &&& (32 : Int32)))])) (fun target kt => ?_) ?_
        · show Steps p.tables e below (s₁.setTop (mkF m 40 #[.val (.int p0), .val (.int p1), .val (.int p2), .val (.int p3), .val (.int (1 : Int32)), .val (.int (1 : Int32)), .val (.int (((p1.toUInt32 >>> ((2 : Int32) &&& 31).toUInt32).toInt32) &&& (3 : Int32))), .unset, .unset, .unset, .unset, .unset, .unset, .unset, .unset, .unset, .unset] [])) _
          refine XS.iconst X0.here hx rfl (hb hby at_40) ?_
          show Steps p.tables e below (s₁.setTop (mkF m 41 #[.val (.int p0), .val (.int p1), .val (.int p2), .val (.int p3), .val (.int (1 : Int32)), .val (.int (1 : Int32)), .val (.int (((p1.toUInt32 >>> ((2 : Int32) &&& 31).toUInt32).toInt32) &&& (3 : Int32))), .unset, .unset, .unset, .unset, .unset, .unset, .unset, .unset, .unset, .unset] [(.int (1 : Int32))])) _
          refine XS.goto X0.here hx rfl (pc0 := 41) (pc' := 45) rfl (hb hby at_41) (by decide) (by decide) ?_
          show Steps p.tables e below (s₁.setTop (mkF m 45 #[.val (.int p0), .val (.int p1), .val (.int p2), .val (.int p3), .val (.int (1 : Int32)), .val (.int (1 : Int32)), .val (.int (((p1.toUInt32 >>> ((2 : Int32) &&& 31).toUInt32).toInt32) &&& (3 : Int32))), .unset, .unset, .unset, .unset, .unset, .unset, .unset, .unset, .unset, .unset] [(.int (1 : Int32))])) _
          refine XS.istore X0.here hx rfl (hb hby at_45) rfl (l' := #[.val (.int p0), .val (.int p1), .val (.int p2), .val (.int p3), .val (.int (1 : Int32)), .val (.int (1 : Int32)), .val (.int (((p1.toUInt32 >>> ((2 : Int32) &&& 31).toUInt32).toInt32) &&& (3 : Int32))), .val (.int (1 : Int32)), .unset, .unset, .unset, .unset, .unset, .unset, .unset, .unset, .unset]) rfl ?_
          show Steps p.tables e below (s₁.setTop (mkF m 47 #[.val (.int p0), .val (.int p1), .val (.int p2), .val (.int p3), .val (.int (1 : Int32)), .val (.int (1 : Int32)), .val (.int (((p1.toUInt32 >>> ((2 : Int32) &&& 31).toUInt32).toInt32) &&& (3 : Int32))), .val (.int (1 : Int32)), .unset, .unset, .unset, .unset, .unset, .unset, .unset, .unset, .unset] [])) _
          refine XS.iloadN X0.here hx rfl (hb hby at_47) rfl ?_
          show Steps p.tables e below (s₁.setTop (mkF m 48 #[.val (.int p0), .val (.int p1), .val (.int p2), .val (.int p3), .val (.int (1 : Int32)), .val (.int (1 : Int32)), .val (.int (((p1.toUInt32 >>> ((2 : Int32) &&& 31).toUInt32).toInt32) &&& (3 : Int32))), .val (.int (1 : Int32)), .unset, .unset, .unset, .unset, .unset, .unset, .unset, .unset, .unset] [(.int p1)])) _
          refine XS.bipush X0.here hx rfl (hb hby at_48) ?_
          show Steps p.tables e below (s₁.setTop (mkF m 50 #[.val (.int p0), .val (.int p1), .val (.int p2), .val (.int p3), .val (.int (1 : Int32)), .val (.int (1 : Int32)), .val (.int (((p1.toUInt32 >>> ((2 : Int32) &&& 31).toUInt32).toInt32) &&& (3 : Int32))), .val (.int (1 : Int32)), .unset, .unset, .unset, .unset, .unset, .unset, .unset, .unset, .unset] [(.int (32 : Int32)), (.int p1)])) _
          refine XS.iand X0.here hx rfl (hb hby at_50) rfl ?_
          exact kt
        by_cases h51_15 : (p1 &&& (32 : Int32)) = (0 : Int32)
        · refine GoW.pre (st' := s₁.setTop (mkF m 58 #[.val (.int p0), .val (.int p1), .val (.int p2), .val (.int p3), .val (.int (1 : Int32)), .val (.int (1 : Int32)), .val (.int (((p1.toUInt32 >>> ((2 : Int32) &&& 31).toUInt32).toInt32) &&& (3 : Int32))), .val (.int (1 : Int32)), .unset, .unset, .unset, .unset, .unset, .unset, .unset, .unset, .unset] [])) (fun target kt => ?_) ?_
          · show Steps p.tables e below (s₁.setTop (mkF m 51 #[.val (.int p0), .val (.int p1), .val (.int p2), .val (.int p3), .val (.int (1 : Int32)), .val (.int (1 : Int32)), .val (.int (((p1.toUInt32 >>> ((2 : Int32) &&& 31).toUInt32).toInt32) &&& (3 : Int32))), .val (.int (1 : Int32)), .unset, .unset, .unset, .unset, .unset, .unset, .unset, .unset, .unset] [(.int (p1 &&& (32 : Int32)))])) _
            refine XS.ifYes X0.here hx rfl (pc0 := 51) (pc' := 58) rfl (hb hby at_51) rfl ((if0 _ _).trans (teq h51_15).1) (by decide) (by decide) ?_
            exact kt
          refine GoW.pre (st' := s₁.setTop (mkF m 61 #[.val (.int p0), .val (.int p1), .val (.int p2), .val (.int p3), .val (.int (1 : Int32)), .val (.int (1 : Int32)), .val (.int (((p1.toUInt32 >>> ((2 : Int32) &&& 31).toUInt32).toInt32) &&& (3 : Int32))), .val (.int (1 : Int32)), .val (.int (0 : Int32)), .unset, .unset, .unset, .unset, .unset, .unset, .unset, .unset] [])) (fun target kt => ?_) ?_
          · show Steps p.tables e below (s₁.setTop (mkF m 58 #[.val (.int p0), .val (.int p1), .val (.int p2), .val (.int p3), .val (.int (1 : Int32)), .val (.int (1 : Int32)), .val (.int (((p1.toUInt32 >>> ((2 : Int32) &&& 31).toUInt32).toInt32) &&& (3 : Int32))), .val (.int (1 : Int32)), .unset, .unset, .unset, .unset, .unset, .unset, .unset, .unset, .unset] [])) _
            refine XS.iconst X0.here hx rfl (hb hby at_58) ?_
            show Steps p.tables e below (s₁.setTop (mkF m 59 #[.val (.int p0), .val (.int p1), .val (.int p2), .val (.int p3), .val (.int (1 : Int32)), .val (.int (1 : Int32)), .val (.int (((p1.toUInt32 >>> ((2 : Int32) &&& 31).toUInt32).toInt32) &&& (3 : Int32))), .val (.int (1 : Int32)), .unset, .unset, .unset, .unset, .unset, .unset, .unset, .unset, .unset] [(.int (0 : Int32))])) _
            refine XS.istore X0.here hx rfl (hb hby at_59) rfl (l' := #[.val (.int p0), .val (.int p1), .val (.int p2), .val (.int p3), .val (.int (1 : Int32)), .val (.int (1 : Int32)), .val (.int (((p1.toUInt32 >>> ((2 : Int32) &&& 31).toUInt32).toInt32) &&& (3 : Int32))), .val (.int (1 : Int32)), .val (.int (0 : Int32)), .unset, .unset, .unset, .unset, .unset, .unset, .unset, .unset]) rfl ?_
            exact kt
          exact blk61 ⟨hx, hZ, hby, hml, hown, hrt, hlk⟩ hw hS (by omega) (IB.sup hI (by simp)) hnS hkp X0 e0 N0 p0 p1 p2 p3 (1 : Int32) (1 : Int32) (((p1.toUInt32 >>> ((2 : Int32) &&& 31).toUInt32).toInt32) &&& (3 : Int32)) (1 : Int32) (0 : Int32) zc zd kd (by omega) (Or.inr rfl) S_COMPACT hcs S_D A_zd Ol hcw hheld
        · refine GoW.pre (st' := s₁.setTop (mkF m 54 #[.val (.int p0), .val (.int p1), .val (.int p2), .val (.int p3), .val (.int (1 : Int32)), .val (.int (1 : Int32)), .val (.int (((p1.toUInt32 >>> ((2 : Int32) &&& 31).toUInt32).toInt32) &&& (3 : Int32))), .val (.int (1 : Int32)), .unset, .unset, .unset, .unset, .unset, .unset, .unset, .unset, .unset] [])) (fun target kt => ?_) ?_
          · show Steps p.tables e below (s₁.setTop (mkF m 51 #[.val (.int p0), .val (.int p1), .val (.int p2), .val (.int p3), .val (.int (1 : Int32)), .val (.int (1 : Int32)), .val (.int (((p1.toUInt32 >>> ((2 : Int32) &&& 31).toUInt32).toInt32) &&& (3 : Int32))), .val (.int (1 : Int32)), .unset, .unset, .unset, .unset, .unset, .unset, .unset, .unset, .unset] [(.int (p1 &&& (32 : Int32)))])) _
            refine XS.ifNo X0.here hx rfl (hb hby at_51) rfl ((if0 _ _).trans (feq h51_15).1) ?_
            exact kt
          refine GoW.pre (st' := s₁.setTop (mkF m 61 #[.val (.int p0), .val (.int p1), .val (.int p2), .val (.int p3), .val (.int (1 : Int32)), .val (.int (1 : Int32)), .val (.int (((p1.toUInt32 >>> ((2 : Int32) &&& 31).toUInt32).toInt32) &&& (3 : Int32))), .val (.int (1 : Int32)), .val (.int (1 : Int32)), .unset, .unset, .unset, .unset, .unset, .unset, .unset, .unset] [])) (fun target kt => ?_) ?_
          · show Steps p.tables e below (s₁.setTop (mkF m 54 #[.val (.int p0), .val (.int p1), .val (.int p2), .val (.int p3), .val (.int (1 : Int32)), .val (.int (1 : Int32)), .val (.int (((p1.toUInt32 >>> ((2 : Int32) &&& 31).toUInt32).toInt32) &&& (3 : Int32))), .val (.int (1 : Int32)), .unset, .unset, .unset, .unset, .unset, .unset, .unset, .unset, .unset] [])) _
            refine XS.iconst X0.here hx rfl (hb hby at_54) ?_
            show Steps p.tables e below (s₁.setTop (mkF m 55 #[.val (.int p0), .val (.int p1), .val (.int p2), .val (.int p3), .val (.int (1 : Int32)), .val (.int (1 : Int32)), .val (.int (((p1.toUInt32 >>> ((2 : Int32) &&& 31).toUInt32).toInt32) &&& (3 : Int32))), .val (.int (1 : Int32)), .unset, .unset, .unset, .unset, .unset, .unset, .unset, .unset, .unset] [(.int (1 : Int32))])) _
            refine XS.goto X0.here hx rfl (pc0 := 55) (pc' := 59) rfl (hb hby at_55) (by decide) (by decide) ?_
            show Steps p.tables e below (s₁.setTop (mkF m 59 #[.val (.int p0), .val (.int p1), .val (.int p2), .val (.int p3), .val (.int (1 : Int32)), .val (.int (1 : Int32)), .val (.int (((p1.toUInt32 >>> ((2 : Int32) &&& 31).toUInt32).toInt32) &&& (3 : Int32))), .val (.int (1 : Int32)), .unset, .unset, .unset, .unset, .unset, .unset, .unset, .unset, .unset] [(.int (1 : Int32))])) _
            refine XS.istore X0.here hx rfl (hb hby at_59) rfl (l' := #[.val (.int p0), .val (.int p1), .val (.int p2), .val (.int p3), .val (.int (1 : Int32)), .val (.int (1 : Int32)), .val (.int (((p1.toUInt32 >>> ((2 : Int32) &&& 31).toUInt32).toInt32) &&& (3 : Int32))), .val (.int (1 : Int32)), .val (.int (1 : Int32)), .unset, .unset, .unset, .unset, .unset, .unset, .unset, .unset]) rfl ?_
            exact kt
          exact blk61 ⟨hx, hZ, hby, hml, hown, hrt, hlk⟩ hw hS (by omega) (IB.sup hI (by simp)) hnS hkp X0 e0 N0 p0 p1 p2 p3 (1 : Int32) (1 : Int32) (((p1.toUInt32 >>> ((2 : Int32) &&& 31).toUInt32).toInt32) &&& (3 : Int32)) (1 : Int32) (1 : Int32) zc zd kd (by omega) (Or.inr rfl) S_COMPACT hcs S_D A_zd Ol hcw hheld
theorem own_len0 {Z : State} {args : Array Value} {t : Term} {a : Addr} {c : Cell} {ty : FieldType} (ev : t.eval args Z none [] Z = some (.ref a)) (A : Arr Z Z.heap a c ty) (h : (Term.length t).eval args Z none [] Z = some (.int (0 : Int32))) : c.slots.size = 0 := by
  have ha := A.fin (Vm.Alike.refl _)
  simp only [Term.eval, ev, ha, Option.bind_eq_bind, Option.bind_some] at h
  split at h
  · rename_i hl
    have q : c.slots.size.toInt32 = (0 : Int32) := by simpa using h
    have q2 := len_toInt hl
    rw [q] at q2
    have q3 : (0 : Int32).toInt = 0 := by decide
    omega
  · cases h
theorem own_arv0 {Z : State} {h : Heap} {a : Addr} {c : Cell} {C : String} (A : Arr Z h a c (.object C)) (hz : c.slots.size = 0) : Arv Z h a c.cls (.object C) (0 : Int32) [] .null :=
  ⟨c, A, rfl, by rw [hz]; rfl, by decide, fun i hi => by rw [hz] at hi; exact absurd hi (Nat.not_lt_zero _), fun i hi => by rw [hz] at hi; exact absurd hi (Nat.not_lt_zero _)⟩
theorem own_cs {Z : State} {args : Array Value} {t : Term} {x : Int32} (ev : t.eval args Z none [] Z = some (.int x)) (h : (Cond.not (.eq t (.int 0))).value args Z none Z [] = some true) : ¬ x = (0 : Int32) := by
  have q := not_v h
  intro e; subst e
  rw [eq_i ev (Term.int_eval _) rfl] at q
  cases q
set_option maxRecDepth 65536 in
set_option maxHeartbeats 40000000 in
theorem comes_1 {Post : Tables → Env → Array Value → State → Outcome → State → Prop} (hpost : ∀ tb e args s v u, (limb_1_1.after args s (.returned v) u = true ∧ limb_1_2.after args s (.returned v) u = true ∧ True) → ReturnedEndW s (.returned v) u (Jvm.fieldLocs frame_1_writes args s ++ Jvm.arrayLocs frame_1_arrays args s ++ Jvm.staticLocs frame_1_statics s) 40 3264 → Post tb e args s (.returned v) u) :
    ArmFor flags0 classFile x code maxLocals ret World_1 tables_1 room_1 Calls_1 rest_1 Pre_1 Post := by
  intro l hfl _ _ p e ha hc hk s m args below hf hA hF happ hP
  obtain ⟨hcalls, hrest, hpre⟩ := hP
  obtain ⟨-, -, -, hnamed, -, -, -, hat⟩ := (Spec.applies_iff hf).mp happ
  obtain ⟨hg, hn⟩ := and_e (Cond.before_iff.mp (show (Jvm.Cond.and given_1 narrow_1).before args s = true from hpre))
  obtain ⟨g0, hg1⟩ := and_e hg
  obtain ⟨g1, hg2⟩ := and_e hg1
  obtain ⟨g2, hg3⟩ := and_e hg2
  obtain ⟨g3, hg4⟩ := and_e hg3
  obtain ⟨w0, w1, w2, w3, rfl⟩ : ∃ w0 w1 w2 w3 : Value, args = #[w0, w1, w2, w3] := by
    have hs : args.size = 4 := by simpa [Cond.value, given_1] using g0
    obtain ⟨L⟩ := args
    match L, hs with
    | [w0, w1, w2, w3], _ => exact ⟨w0, w1, w2, w3, rfl⟩
  have hw := fun d (hd : d ∈ tables_1) => atoms_spec (ws := Jvm.Cond.code x code maxLocals ret :: tables_1) hat d (List.mem_cons_of_mem _ hd)
  obtain ⟨i0, ei0⟩ := is_v g1
  obtain rfl : w0 = (.int i0) := Option.some.inj ei0
  obtain ⟨i1, ei1⟩ := is_v g2
  obtain rfl : w1 = (.int i1) := Option.some.inj ei1
  obtain ⟨i2, ei2⟩ := is_v g3
  obtain rfl : w2 = (.int i2) := Option.some.inj ei2
  obtain ⟨i3, ei3⟩ := is_v hg4
  obtain rfl : w3 = (.int i3) := Option.some.inj ei3
  obtain ⟨hsets, hown0⟩ := atoms_of _ (rest_1_c_eq ▸ (show rest_1_c.before _ s = true from hrest))
  obtain ⟨vA, evA⟩ := arr_v (Cond.before_iff.mp (hsets _ (List.mem_of_getElem? (i := 15) rfl)))
  obtain ⟨clA, ArA⟩ := Arr.start evA (Cond.before_iff.mp (hsets _ (List.mem_of_getElem? (i := 15) rfl)))
  have S_D := Sta.start evA (Or.inr ⟨(hw _ (List.mem_of_getElem? (i := 28) rfl)), (hsets _ (List.mem_of_getElem? (i := 11) rfl))⟩)
  have szA := own_len0 evA ArA (eqv_i (Term.int_eval _) (Cond.before_iff.mp (hsets _ (List.mem_of_getElem? (i := 17) rfl))))
  have A_zd := own_arv0 ArA szA
  obtain ⟨vC, evC⟩ := is_v (Cond.before_iff.mp (hsets _ (List.mem_of_getElem? (i := 1) rfl)))
  have S_C := Sta.start evC (Or.inl (hsets _ (List.mem_of_getElem? (i := 0) rfl)))
  have hcs := own_cs evC (Cond.before_iff.mp (hsets _ (List.mem_of_getElem? (i := 2) rfl)))
  have hheld : ∀ q ∈ consts_1, Jvm.Lit.constHeld s q.1 q.2 := fun q hq => hcalls.1 q hq
  obtain ⟨n, o, h1, h2, h3, _, L, rfl, ⟨rfl, N⟩, hq⟩ := rm0 l s _ hw tables_1 i0 i1 i2 i3 vC vA clA.cls s.heap s.heap.size (Nat.le_refl _) S_C hcs S_D A_zd (Old.start s) (hsets _ (List.mem_of_getElem? (i := 2) rfl)) hheld rfl p e ha hc hk s m _ below hf ((Spec.applies_iff_loose hf).mp happ).1 ⟨rfl, State.Warmed39.refl s, rfl, IB.start⟩ trivial
  refine ⟨n, _, h1, h2, h3, hpost _ _ _ _ _ _ ⟨Cond.after_iff.mpr rfl, Cond.after_iff.mpr (eq_i res_at (Term.int_eval (1)) rfl), trivial⟩ ⟨hq.1, hq.2.1, hq.2.2.1, (hq.2.2.2.sift fun y hy => Or.inr (N y hy)).mono (by decide) (by decide)⟩⟩
theorem main_1_1 : Claimed_1_1 := comes_1 fun _ _ _ _ _ _ h hF => ⟨h.1, hF⟩
theorem main_1_2 : Claimed_1_2 := comes_1 fun _ _ _ _ _ _ h hF => ⟨h.2.1, hF⟩
end Jvm.Pilot.@@N@@
namespace Jvm.Pilot.@@N@@
open Jvm Jvm.ClassFile Sem Op Lib Jvm.Free Jvm.Stand Jvm.Pilot.@@N@@.Jvm.D
/-! MADE BY PROGRAM (witnessworld.py) out of the Statement's table words and the real class files: 32 classes; the members and pool entries that the words name. The judged class is class 1, her method 1. -/
namespace start1
open Jvm.ClassFile
def u (s : String) : CpInfo := .utf8 (stringToUtf16 s)
/-- a pool by its gaps: so many unusable entries, then the entry; so many at the end -/
def gap : Nat → List CpInfo → List CpInfo
  | 0, r => r
  | n + 1, r => .unusable :: gap n r
def poolList (es : List (Nat × CpInfo)) (last : Nat) : List CpInfo := es.foldr (fun e r => gap e.1 (e.2 :: r)) (gap last [])
def pool (es : List (Nat × CpInfo)) (last : Nat) : Array CpInfo := ⟨poolList es last⟩
def fileOf (pool : Array CpInfo) (this : Nat) (attrs : Array Attribute := #[]) (ms : Array MethodInfo := #[]) (fl : Nat := 33) (sup : Nat := 0) (ifs : Array Nat := #[]) (fds : Array FieldInfo := #[]) : ClassFile where
  minorVersion := 0
  majorVersion := 65
  constantPool := pool
  accessFlags := fl
  thisClass := this
  superClass := sup
  interfaces := ifs
  fields := fds
  methods := ms
  attributes := attrs
def plain (name : String) (sup : Option ClassId) : Class where
  name := name
  kind := .ordinary
  loader := none
  accessFlags := 33
  super := sup
  interfaces := #[]
  cf := none
  fields := #[]
  methods := #[]
  instanceTypes := #[]
  staticTypes := #[]
  resolved := #[]
  callSites := []
  init := .initialized
  statics := none
  mirror := none

def pool0 : Array CpInfo := pool [(5, u "<init>"), (0, u "()V"), (1, .class_ 10), (1, u "java/lang/Object")] 113

def k0c0 : Code := { maxStack := 0, maxLocals := 1, code := object_method_1_code, exceptionTable := #[], attributes := #[] }
def k0m0 : Method := { name := "<init>", desc := "()V", sig := { parameters := [], returnType := none }, accessFlags := 1, code := some k0c0 }
/-- java/lang/Object -/
def k0 : Class := { plain "java/lang/Object" none with
  accessFlags := 33
  interfaces := #[]
  cf := some (fileOf pool0 8 #[] #[{ accessFlags := 1, nameIndex := 5, descriptorIndex := 6, attributes := #[] }] 33 0 #[] #[])
  fields := #[]
  methods := #[k0m0]
  instanceTypes := #[]
  staticTypes := #[]
  resolved := Array.replicate 124 none
  statics := none }

def pool1 : Array CpInfo := pool [(2, .class_ 4), (0, .nameAndType 5 6), (0, u "java/lang/Object"), (0, u "<init>"), (0, u "()V"), (0, .class_ 8), (0, u "java/lang/String"), (0, .methodref 7 10), (0, .nameAndType 5 11), (0, u "([C)V"), (0, .methodref 7 13), (0, .nameAndType 14 15), (0, u "valueOf"), (0, u "(C)Ljava/lang/String;"), (0, .string 17), (0, u "map<string, Book>"), (0, .class_ 19), (0, u "java/util/ArrayList"), (0, .methodref 18 3), (0, .string 22), (0, u "OUTPUT_ONLY"), (0, .interfaceMethodref 24 25), (0, .class_ 26), (0, .nameAndType 27 28), (0, u "java/util/List"), (0, u "add"), (0, u "(Ljava/lang/Object;)Z"), (0, .class_ 30), (0, u "com/example/araucaria/araucaria/proto/SourcePosition"), (0, .methodref 29 32), (0, .nameAndType 5 33), (0, u "(II)V"), (0, .class_ 35), (0, u "com/example/araucaria/araucaria/proto/ProtoField"), (0, .methodref 34 37), (0, .nameAndType 5 38), (0, u "(Ljava/lang/String;ILcom/example/araucaria/araucaria/proto/SourcePosition;Lcom/example/araucaria/araucaria/proto/SourcePosition;Ljava/lang/String;ZZLjava/lang/String;Ljava/util/List;Ljava/lang/String;)V"), (0, .methodref 34 40), (0, .nameAndType 41 42), (0, u "hasPresence"), (0, u "()Z"), (0, .class_ 44), (0, u "com/example/araucaria/araucaria/proto/ProtoFieldHasPresencePinLaw"), (2, u "law"), (0, u "(IIII)Z")] 3

def k1m0 : Method := { name := "<init>", desc := "()V", sig := { parameters := [], returnType := none }, accessFlags := 2, code := none }
def k1c1 : Code := { maxStack := 12, maxLocals := 17, code := code, exceptionTable := #[], attributes := #[] }
def k1m1 : Method := { name := "law", desc := "(IIII)Z", sig := { parameters := [.int, .int, .int, .int], returnType := some .boolean }, accessFlags := 9, code := some k1c1 }
/-- com/example/araucaria/araucaria/proto/ProtoFieldHasPresencePinLaw -/
def k1 : Class := { plain "com/example/araucaria/araucaria/proto/ProtoFieldHasPresencePinLaw" (some 0) with
  accessFlags := 49
  interfaces := #[]
  cf := some (fileOf pool1 43 #[] #[{ accessFlags := 2, nameIndex := 5, descriptorIndex := 6, attributes := #[] }, { accessFlags := 9, nameIndex := 47, descriptorIndex := 48, attributes := #[] }] 49 2 #[] #[])
  fields := #[]
  methods := #[k1m0, k1m1]
  instanceTypes := #[]
  staticTypes := #[]
  resolved := Array.replicate 52 none
  statics := none }

def pool2 : Array CpInfo := pool [(1, .class_ 2), (0, u "java/io/Serializable"), (0, .class_ 4), (0, u "java/lang/Object")] 2

/-- java/io/Serializable -/
def k2 : Class := { plain "java/io/Serializable" (some 0) with
  accessFlags := 1537
  interfaces := #[]
  cf := some (fileOf pool2 1 #[] #[] 1537 3 #[] #[])
  fields := #[]
  methods := #[]
  instanceTypes := #[]
  staticTypes := #[]
  resolved := Array.replicate 7 none
  statics := none }

def pool3 : Array CpInfo := pool [(1, .class_ 2), (0, u "java/lang/Comparable"), (0, .class_ 4), (0, u "java/lang/Object")] 7

/-- java/lang/Comparable -/
def k3 : Class := { plain "java/lang/Comparable" (some 0) with
  accessFlags := 1537
  interfaces := #[]
  cf := some (fileOf pool3 1 #[] #[] 1537 3 #[] #[])
  fields := #[]
  methods := #[]
  instanceTypes := #[]
  staticTypes := #[]
  resolved := Array.replicate 12 none
  statics := none }

def pool4 : Array CpInfo := pool [(2, .class_ 4), (1, u "java/lang/CharSequence"), (42, .class_ 48), (0, u "java/lang/CharSequence$1CodePointIterator"), (10, .class_ 60), (0, u "java/lang/CharSequence$1CharIterator"), (5, .class_ 67), (0, u "java/lang/Object")] 63

/-- java/lang/CharSequence -/
def k4 : Class := { plain "java/lang/CharSequence" (some 0) with
  accessFlags := 1537
  interfaces := #[]
  cf := some (fileOf pool4 2 #[.nestMembers #[47, 59]] #[] 1537 66 #[] #[])
  fields := #[]
  methods := #[]
  instanceTypes := #[]
  staticTypes := #[]
  resolved := Array.replicate 131 none
  statics := none }

def pool5 : Array CpInfo := pool [(1, .class_ 2), (0, u "java/lang/constant/Constable"), (0, .class_ 4), (0, u "java/lang/Object")] 6

/-- java/lang/constant/Constable -/
def k5 : Class := { plain "java/lang/constant/Constable" (some 0) with
  accessFlags := 1537
  interfaces := #[]
  cf := some (fileOf pool5 1 #[] #[] 1537 3 #[] #[])
  fields := #[]
  methods := #[]
  instanceTypes := #[]
  staticTypes := #[]
  resolved := Array.replicate 11 none
  statics := none }

def pool6 : Array CpInfo := pool [(1, .class_ 2), (0, u "java/lang/constant/ConstantDesc"), (0, .class_ 4), (0, u "java/lang/Object")] 32

/-- java/lang/constant/ConstantDesc -/
def k6 : Class := { plain "java/lang/constant/ConstantDesc" (some 0) with
  accessFlags := 1537
  interfaces := #[]
  cf := some (fileOf pool6 1 #[] #[] 1537 3 #[] #[])
  fields := #[]
  methods := #[]
  instanceTypes := #[]
  staticTypes := #[]
  resolved := Array.replicate 37 none
  statics := none }

def pool7 : Array CpInfo := pool [(1, .methodref 2 3), (0, .class_ 4), (0, .nameAndType 5 6), (0, u "java/lang/Object"), (0, u "<init>"), (0, u "()V"), (0, .string 8), (0, u ""), (0, .fieldref 10 11), (0, .class_ 12), (0, .nameAndType 13 14), (0, u "java/lang/String"), (0, u "value"), (0, u "[B"), (0, .fieldref 10 16), (0, .nameAndType 17 18), (0, u "coder"), (0, u "B"), (2, u "hash"), (0, u "I"), (2, u "hashIsZero"), (0, u "Z"), (0, .methodref 10 28), (0, .nameAndType 5 29), (0, u "([CIILjava/lang/Void;)V"), (8, .fieldref 10 39), (0, .nameAndType 40 26), (0, u "COMPACT_STRINGS"), (1, .class_ 44), (1, u "java/lang/StringUTF16"), (0, u "compress"), (1, .methodref 42 48), (0, .nameAndType 49 50), (0, u "coderFromArrayLen"), (0, u "([BI)B"), (2, u "toBytes"), (53, .class_ 109), (1, u "java/lang/StringLatin1"), (67, .methodref 42 178), (0, .nameAndType 45 179), (0, u "([CII)[B"), (29, .methodref 10 210), (0, .nameAndType 5 211), (0, u "([BB)V"), (157, u "(C)Z"), (205, .class_ 576), (0, u "java/lang/CharSequence"), (22, u "CASE_INSENSITIVE_ORDER"), (0, u "Ljava/util/Comparator;"), (181, u "valueOf"), (0, u "(C)Ljava/lang/String;"), (226, u "([C)V"), (4, .methodref 107 1016), (0, .nameAndType 1017 369), (0, u "canEncode"), (0, .methodref 107 1019), (0, .nameAndType 53 1020), (0, u "(C)[B"), (80, u "serialPersistentFields"), (0, u "[Ljava/io/ObjectStreamField;"), (0, .class_ 1104), (0, u "java/lang/String$CaseInsensitiveComparator"), (1, .class_ 1107), (0, u "java/io/Serializable"), (0, .class_ 1109), (0, u "java/lang/Comparable"), (0, .class_ 1111), (0, u "java/lang/constant/Constable"), (0, .class_ 1113), (0, u "java/lang/constant/ConstantDesc"), (2, u "serialVersionUID"), (0, u "J"), (3, u "REPL"), (0, u "C"), (2, u "LATIN1"), (1, u "UTF16")] 323

def k7m0 : Method := { name := "<init>", desc := "()V", sig := { parameters := [], returnType := none }, accessFlags := 1, code := none }
def k7c1 : Code := { maxStack := 5, maxLocals := 2, code := jdk_42_method_3_code, exceptionTable := #[], attributes := #[] }
def k7m1 : Method := { name := "<init>", desc := "([C)V", sig := { parameters := [(.array .char)], returnType := none }, accessFlags := 1, code := some k7c1 }
def k7c2 : Code := { maxStack := 4, maxLocals := 1, code := jdk_42_method_139_code, exceptionTable := #[], attributes := #[] }
def k7m2 : Method := { name := "valueOf", desc := "(C)Ljava/lang/String;", sig := { parameters := [.char], returnType := some (.object "java/lang/String") }, accessFlags := 9, code := some k7c2 }
def k7c3 : Code := { maxStack := 4, maxLocals := 6, code := jdk_42_method_149_code, exceptionTable := #[], attributes := #[] }
def k7m3 : Method := { name := "<init>", desc := "([CIILjava/lang/Void;)V", sig := { parameters := [(.array .char), .int, .int, (.object "java/lang/Void")], returnType := none }, accessFlags := 2, code := some k7c3 }
def k7c4 : Code := { maxStack := 2, maxLocals := 3, code := jdk_42_method_151_code, exceptionTable := #[], attributes := #[] }
def k7m4 : Method := { name := "<init>", desc := "([BB)V", sig := { parameters := [(.array .byte), .byte], returnType := none }, accessFlags := 0, code := some k7c4 }
/-- java/lang/String -/
def k7 : Class := { plain "java/lang/String" (some 0) with
  accessFlags := 49
  interfaces := #[2, 3, 4, 5, 6]
  cf := some (fileOf pool7 10 #[.nestMembers #[1103]] #[{ accessFlags := 1, nameIndex := 5, descriptorIndex := 6, attributes := #[] }, { accessFlags := 1, nameIndex := 5, descriptorIndex := 1010, attributes := #[] }, { accessFlags := 9, nameIndex := 782, descriptorIndex := 783, attributes := #[] }, { accessFlags := 2, nameIndex := 5, descriptorIndex := 29, attributes := #[] }, { accessFlags := 0, nameIndex := 5, descriptorIndex := 211, attributes := #[] }] 49 2 #[1106, 1108, 575, 1110, 1112] #[{ accessFlags := 18, nameIndex := 13, descriptorIndex := 14, attributes := #[] }, { accessFlags := 18, nameIndex := 17, descriptorIndex := 18, attributes := #[] }, { accessFlags := 2, nameIndex := 21, descriptorIndex := 22, attributes := #[] }, { accessFlags := 2, nameIndex := 25, descriptorIndex := 26, attributes := #[] }, { accessFlags := 26, nameIndex := 1116, descriptorIndex := 1117, attributes := #[] }, { accessFlags := 24, nameIndex := 40, descriptorIndex := 26, attributes := #[] }, { accessFlags := 26, nameIndex := 1101, descriptorIndex := 1102, attributes := #[] }, { accessFlags := 26, nameIndex := 1121, descriptorIndex := 1122, attributes := #[] }, { accessFlags := 25, nameIndex := 599, descriptorIndex := 600, attributes := #[] }, { accessFlags := 24, nameIndex := 1125, descriptorIndex := 18, attributes := #[] }, { accessFlags := 24, nameIndex := 1127, descriptorIndex := 18, attributes := #[] }])
  fields := #[{ name := "value", type := (.array .byte), accessFlags := 18, slot := 0, constantValue := 0 }, { name := "coder", type := .byte, accessFlags := 18, slot := 1, constantValue := 0 }, { name := "hash", type := .int, accessFlags := 2, slot := 2, constantValue := 0 }, { name := "hashIsZero", type := .boolean, accessFlags := 2, slot := 3, constantValue := 0 }, { name := "serialVersionUID", type := .long, accessFlags := 26, slot := 0, constantValue := 0 }, { name := "COMPACT_STRINGS", type := .boolean, accessFlags := 24, slot := 1, constantValue := 0 }, { name := "serialPersistentFields", type := (.array (.object "java/io/ObjectStreamField")), accessFlags := 26, slot := 2, constantValue := 0 }, { name := "REPL", type := .char, accessFlags := 26, slot := 3, constantValue := 0 }, { name := "CASE_INSENSITIVE_ORDER", type := (.object "java/util/Comparator"), accessFlags := 25, slot := 4, constantValue := 0 }, { name := "LATIN1", type := .byte, accessFlags := 24, slot := 5, constantValue := 0 }, { name := "UTF16", type := .byte, accessFlags := 24, slot := 6, constantValue := 0 }]
  methods := #[k7m0, k7m1, k7m2, k7m3, k7m4]
  instanceTypes := #[(.array .byte), .byte, .int, .boolean]
  staticTypes := #[.long, .boolean, (.array (.object "java/io/ObjectStreamField")), .char, (.object "java/util/Comparator"), .byte, .byte]
  resolved := Array.replicate 1451 none
  statics := some 0 }

def pool8 : Array CpInfo := pool [(4, .class_ 6), (1, u "java/lang/Object"), (0, u "<init>"), (0, u "()V"), (5, .class_ 16), (1, u "java/lang/StringLatin1"), (73, u "canEncode"), (14, u "(C)Z"), (15, u "$assertionsDisabled"), (0, u "Z"), (98, .class_ 223), (1, u "java/lang/StringLatin1$LinesSpliterator"), (156, u "toBytes"), (1, u "(C)[B"), (7, .class_ 391), (0, u "java/lang/StringLatin1$CharsSpliterator")] 3

def k8m0 : Method := { name := "<init>", desc := "()V", sig := { parameters := [], returnType := none }, accessFlags := 0, code := none }
def k8c1 : Code := { maxStack := 2, maxLocals := 1, code := jdk_43_method_3_code, exceptionTable := #[], attributes := #[] }
def k8m1 : Method := { name := "canEncode", desc := "(C)Z", sig := { parameters := [.char], returnType := some .boolean }, accessFlags := 9, code := some k8c1 }
def k8c2 : Code := { maxStack := 4, maxLocals := 1, code := jdk_43_method_46_code, exceptionTable := #[], attributes := #[] }
def k8m2 : Method := { name := "toBytes", desc := "(C)[B", sig := { parameters := [.char], returnType := some (.array .byte) }, accessFlags := 9, code := some k8c2 }
/-- java/lang/StringLatin1 -/
def k8 : Class := { plain "java/lang/StringLatin1" (some 0) with
  accessFlags := 48
  interfaces := #[]
  cf := some (fileOf pool8 14 #[.nestMembers #[390, 221]] #[{ accessFlags := 0, nameIndex := 7, descriptorIndex := 8, attributes := #[] }, { accessFlags := 9, nameIndex := 90, descriptorIndex := 105, attributes := #[] }, { accessFlags := 9, nameIndex := 380, descriptorIndex := 382, attributes := #[] }] 48 4 #[] #[{ accessFlags := 4120, nameIndex := 121, descriptorIndex := 122, attributes := #[] }])
  fields := #[{ name := "$assertionsDisabled", type := .boolean, accessFlags := 4120, slot := 0, constantValue := 0 }]
  methods := #[k8m0, k8m1, k8m2]
  instanceTypes := #[]
  staticTypes := #[.boolean]
  resolved := Array.replicate 395 none
  statics := none }

def pool9 : Array CpInfo := pool [(8, .class_ 10), (1, u "java/lang/Iterable"), (24, .class_ 36), (0, u "java/lang/Object")] 25

/-- java/lang/Iterable -/
def k9 : Class := { plain "java/lang/Iterable" (some 0) with
  accessFlags := 1537
  interfaces := #[]
  cf := some (fileOf pool9 8 #[] #[] 1537 35 #[] #[])
  fields := #[]
  methods := #[]
  instanceTypes := #[]
  staticTypes := #[]
  resolved := Array.replicate 62 none
  statics := none }

def pool10 : Array CpInfo := pool [(10, .class_ 12), (1, u "java/util/Collection"), (47, .class_ 61), (0, u "java/lang/Object"), (0, .class_ 63), (0, u "java/lang/Iterable")] 51

/-- java/util/Collection -/
def k10 : Class := { plain "java/util/Collection" (some 0) with
  accessFlags := 1537
  interfaces := #[9]
  cf := some (fileOf pool10 10 #[] #[] 1537 60 #[62] #[])
  fields := #[]
  methods := #[]
  instanceTypes := #[]
  staticTypes := #[]
  resolved := Array.replicate 115 none
  statics := none }

def pool11 : Array CpInfo := pool [(1, .methodref 2 3), (0, .class_ 4), (0, .nameAndType 5 6), (0, u "java/lang/Object"), (0, u "<init>"), (0, u "()V"), (1, .class_ 10), (1, u "java/util/AbstractCollection"), (66, .class_ 78), (0, u "java/util/Collection")] 81

def k11c0 : Code := { maxStack := 1, maxLocals := 1, code := jdk_22_method_1_code, exceptionTable := #[], attributes := #[] }
def k11m0 : Method := { name := "<init>", desc := "()V", sig := { parameters := [], returnType := none }, accessFlags := 4, code := some k11c0 }
/-- java/util/AbstractCollection -/
def k11 : Class := { plain "java/util/AbstractCollection" (some 0) with
  accessFlags := 1057
  interfaces := #[10]
  cf := some (fileOf pool11 8 #[] #[{ accessFlags := 4, nameIndex := 5, descriptorIndex := 6, attributes := #[] }] 1057 2 #[77] #[])
  fields := #[]
  methods := #[k11m0]
  instanceTypes := #[]
  staticTypes := #[]
  resolved := Array.replicate 160 none
  statics := none }

def pool12 : Array CpInfo := pool [(8, .class_ 10), (1, u "java/util/SequencedCollection"), (15, .class_ 27), (0, u "java/lang/Object"), (0, .class_ 29), (0, u "java/util/Collection")] 27

/-- java/util/SequencedCollection -/
def k12 : Class := { plain "java/util/SequencedCollection" (some 0) with
  accessFlags := 1537
  interfaces := #[10]
  cf := some (fileOf pool12 8 #[] #[] 1537 26 #[28] #[])
  fields := #[]
  methods := #[]
  instanceTypes := #[]
  staticTypes := #[]
  resolved := Array.replicate 57 none
  statics := none }

def pool13 : Array CpInfo := pool [(8, .class_ 10), (1, u "java/util/List"), (49, u "add"), (3, u "(Ljava/lang/Object;)Z"), (38, .class_ 104), (0, u "java/lang/Object"), (15, .class_ 121), (0, u "java/util/SequencedCollection")] 129

def k13m0 : Method := { name := "add", desc := "(Ljava/lang/Object;)Z", sig := { parameters := [(.object "java/lang/Object")], returnType := some .boolean }, accessFlags := 1025, code := none }
/-- java/util/List -/
def k13 : Class := { plain "java/util/List" (some 0) with
  accessFlags := 1537
  interfaces := #[12]
  cf := some (fileOf pool13 8 #[] #[{ accessFlags := 1025, nameIndex := 60, descriptorIndex := 64, attributes := #[] }] 1537 103 #[120] #[])
  fields := #[]
  methods := #[k13m0]
  instanceTypes := #[]
  staticTypes := #[]
  resolved := Array.replicate 251 none
  statics := none }

def pool14 : Array CpInfo := pool [(1, .methodref 2 3), (0, .class_ 4), (0, .nameAndType 5 6), (0, u "java/util/AbstractCollection"), (0, u "<init>"), (0, u "()V"), (0, .fieldref 8 9), (0, .class_ 10), (0, .nameAndType 11 12), (0, u "java/util/AbstractList"), (0, u "modCount"), (0, u "I"), (64, .class_ 78), (0, u "java/util/AbstractList$Itr"), (3, .class_ 83), (0, u "java/util/AbstractList$ListItr"), (9, .class_ 94), (0, u "java/util/AbstractList$RandomAccessSubList"), (3, .class_ 99), (0, u "java/util/AbstractList$SubList"), (33, .class_ 134), (0, u "java/util/List"), (73, .class_ 209), (0, u "java/util/AbstractList$SubList$1"), (0, .class_ 211), (0, u "java/util/AbstractList$RandomAccessSpliterator")] 6

def k14c0 : Code := { maxStack := 2, maxLocals := 1, code := jdk_39_method_1_code, exceptionTable := #[], attributes := #[] }
def k14m0 : Method := { name := "<init>", desc := "()V", sig := { parameters := [], returnType := none }, accessFlags := 4, code := some k14c0 }
/-- java/util/AbstractList -/
def k14 : Class := { plain "java/util/AbstractList" (some 11) with
  accessFlags := 1057
  interfaces := #[13]
  cf := some (fileOf pool14 8 #[.nestMembers #[93, 98, 208, 210, 82, 77]] #[{ accessFlags := 4, nameIndex := 5, descriptorIndex := 6, attributes := #[] }] 1057 2 #[133] #[{ accessFlags := 132, nameIndex := 11, descriptorIndex := 12, attributes := #[] }])
  fields := #[{ name := "modCount", type := .int, accessFlags := 132, slot := 0, constantValue := 0 }]
  methods := #[k14m0]
  instanceTypes := #[.int]
  staticTypes := #[]
  resolved := Array.replicate 218 none
  statics := none }

def pool15 : Array CpInfo := pool [(1, .class_ 2), (0, u "java/util/RandomAccess"), (0, .class_ 4), (0, u "java/lang/Object")] 2

/-- java/util/RandomAccess -/
def k15 : Class := { plain "java/util/RandomAccess" (some 0) with
  accessFlags := 1537
  interfaces := #[]
  cf := some (fileOf pool15 1 #[] #[] 1537 3 #[] #[])
  fields := #[]
  methods := #[]
  instanceTypes := #[]
  staticTypes := #[]
  resolved := Array.replicate 7 none
  statics := none }

def pool16 : Array CpInfo := pool [(1, .class_ 2), (0, u "java/lang/Cloneable"), (0, .class_ 4), (0, u "java/lang/Object")] 2

/-- java/lang/Cloneable -/
def k16 : Class := { plain "java/lang/Cloneable" (some 0) with
  accessFlags := 1537
  interfaces := #[]
  cf := some (fileOf pool16 1 #[] #[] 1537 3 #[] #[])
  fields := #[]
  methods := #[]
  instanceTypes := #[]
  staticTypes := #[]
  resolved := Array.replicate 7 none
  statics := none }

def pool17 : Array CpInfo := pool [(1, .methodref 2 3), (0, .class_ 4), (0, .nameAndType 5 6), (0, u "java/util/AbstractList"), (0, u "<init>"), (0, u "()V"), (0, .class_ 8), (0, u "java/lang/Object"), (0, .fieldref 10 11), (0, .class_ 12), (0, .nameAndType 13 14), (0, u "java/util/ArrayList"), (0, u "elementData"), (0, u "[Ljava/lang/Object;"), (2, u "EMPTY_ELEMENTDATA"), (21, .fieldref 10 40), (0, .nameAndType 41 14), (0, u "DEFAULTCAPACITY_EMPTY_ELEMENTDATA"), (5, u "()[Ljava/lang/Object;"), (0, .fieldref 10 49), (0, .nameAndType 50 51), (0, u "size"), (0, u "I"), (11, .fieldref 10 64), (0, .nameAndType 65 51), (0, u "modCount"), (3, .methodref 10 70), (0, .nameAndType 71 72), (0, u "grow"), (0, u "(I)[Ljava/lang/Object;"), (6, .methodref 80 81), (0, .class_ 82), (0, .nameAndType 83 84), (0, u "java/lang/Math"), (0, u "max"), (0, u "(II)I"), (11, u "(Ljava/lang/Object;)Z"), (32, .methodref 10 130), (0, .nameAndType 71 47), (0, .methodref 10 132), (0, .nameAndType 133 134), (0, u "add"), (0, u "(Ljava/lang/Object;[Ljava/lang/Object;I)V"), (13, .class_ 149), (0, u "java/util/List"), (112, .class_ 263), (0, u "java/util/ArrayList$ListItr"), (3, .class_ 268), (0, u "java/util/ArrayList$Itr"), (7, .class_ 277), (0, u "java/util/ArrayList$SubList"), (12, .class_ 291), (0, u "java/util/ArrayList$ArrayListSpliterator"), (37, .class_ 330), (0, u "java/util/RandomAccess"), (0, .class_ 332), (0, u "java/lang/Cloneable"), (0, .class_ 334), (0, u "java/io/Serializable"), (0, u "serialVersionUID"), (0, u "J"), (3, u "DEFAULT_CAPACITY"), (159, .class_ 501), (0, u "java/util/ArrayList$SubList$2"), (0, .class_ 503), (0, u "java/util/ArrayList$SubList$1")] 5

def k17c0 : Code := { maxStack := 2, maxLocals := 1, code := jdk_38_method_2_code, exceptionTable := #[], attributes := #[] }
def k17m0 : Method := { name := "<init>", desc := "()V", sig := { parameters := [], returnType := none }, accessFlags := 1, code := some k17c0 }
def k17c1 : Code := { maxStack := 4, maxLocals := 4, code := jdk_38_method_6_code, exceptionTable := #[], attributes := #[] }
def k17m1 : Method := { name := "grow", desc := "(I)[Ljava/lang/Object;", sig := { parameters := [.int], returnType := some (.array (.object "java/lang/Object")) }, accessFlags := 2, code := some k17c1 }
def k17c2 : Code := { maxStack := 3, maxLocals := 1, code := jdk_38_method_7_code, exceptionTable := #[], attributes := #[] }
def k17m2 : Method := { name := "grow", desc := "()[Ljava/lang/Object;", sig := { parameters := [], returnType := some (.array (.object "java/lang/Object")) }, accessFlags := 2, code := some k17c2 }
def k17c3 : Code := { maxStack := 3, maxLocals := 4, code := jdk_38_method_24_code, exceptionTable := #[], attributes := #[] }
def k17m3 : Method := { name := "add", desc := "(Ljava/lang/Object;[Ljava/lang/Object;I)V", sig := { parameters := [(.object "java/lang/Object"), (.array (.object "java/lang/Object")), .int], returnType := none }, accessFlags := 2, code := some k17c3 }
def k17c4 : Code := { maxStack := 4, maxLocals := 2, code := jdk_38_method_25_code, exceptionTable := #[], attributes := #[] }
def k17m4 : Method := { name := "add", desc := "(Ljava/lang/Object;)Z", sig := { parameters := [(.object "java/lang/Object")], returnType := some .boolean }, accessFlags := 1, code := some k17c4 }
/-- java/util/ArrayList -/
def k17 : Class := { plain "java/util/ArrayList" (some 14) with
  accessFlags := 33
  interfaces := #[13, 15, 16, 2]
  cf := some (fileOf pool17 10 #[.nestMembers #[290, 276, 500, 502, 262, 267]] #[{ accessFlags := 1, nameIndex := 5, descriptorIndex := 6, attributes := #[] }, { accessFlags := 2, nameIndex := 71, descriptorIndex := 72, attributes := #[] }, { accessFlags := 2, nameIndex := 71, descriptorIndex := 47, attributes := #[] }, { accessFlags := 2, nameIndex := 133, descriptorIndex := 134, attributes := #[] }, { accessFlags := 1, nameIndex := 133, descriptorIndex := 96, attributes := #[] }] 33 2 #[148, 329, 331, 333] #[{ accessFlags := 26, nameIndex := 335, descriptorIndex := 336, attributes := #[] }, { accessFlags := 26, nameIndex := 340, descriptorIndex := 51, attributes := #[] }, { accessFlags := 26, nameIndex := 17, descriptorIndex := 14, attributes := #[] }, { accessFlags := 26, nameIndex := 41, descriptorIndex := 14, attributes := #[] }, { accessFlags := 128, nameIndex := 13, descriptorIndex := 14, attributes := #[] }, { accessFlags := 2, nameIndex := 50, descriptorIndex := 51, attributes := #[] }])
  fields := #[{ name := "serialVersionUID", type := .long, accessFlags := 26, slot := 0, constantValue := 0 }, { name := "DEFAULT_CAPACITY", type := .int, accessFlags := 26, slot := 1, constantValue := 0 }, { name := "EMPTY_ELEMENTDATA", type := (.array (.object "java/lang/Object")), accessFlags := 26, slot := 2, constantValue := 0 }, { name := "DEFAULTCAPACITY_EMPTY_ELEMENTDATA", type := (.array (.object "java/lang/Object")), accessFlags := 26, slot := 3, constantValue := 0 }, { name := "elementData", type := (.array (.object "java/lang/Object")), accessFlags := 128, slot := 1, constantValue := 0 }, { name := "size", type := .int, accessFlags := 2, slot := 2, constantValue := 0 }]
  methods := #[k17m0, k17m1, k17m2, k17m3, k17m4]
  instanceTypes := #[.int, (.array (.object "java/lang/Object")), .int]
  staticTypes := #[.long, .int, (.array (.object "java/lang/Object")), (.array (.object "java/lang/Object"))]
  resolved := Array.replicate 509 none
  statics := some 1 }

def pool18 : Array CpInfo := pool [(1, .methodref 2 3), (0, .class_ 4), (0, .nameAndType 5 6), (0, u "java/lang/Object"), (0, u "<init>"), (0, u "()V"), (0, .class_ 8), (0, u "java/lang/Record")] 13

def k18c0 : Code := { maxStack := 1, maxLocals := 1, code := jdk_30_method_1_code, exceptionTable := #[], attributes := #[] }
def k18m0 : Method := { name := "<init>", desc := "()V", sig := { parameters := [], returnType := none }, accessFlags := 4, code := some k18c0 }
/-- java/lang/Record -/
def k18 : Class := { plain "java/lang/Record" (some 0) with
  accessFlags := 1057
  interfaces := #[]
  cf := some (fileOf pool18 7 #[] #[{ accessFlags := 4, nameIndex := 5, descriptorIndex := 6, attributes := #[] }] 1057 2 #[] #[])
  fields := #[]
  methods := #[k18m0]
  instanceTypes := #[]
  staticTypes := #[]
  resolved := Array.replicate 22 none
  statics := none }

def pool19 : Array CpInfo := pool [(1, .methodref 2 3), (0, .class_ 4), (0, .nameAndType 5 6), (0, u "java/lang/Record"), (0, u "<init>"), (0, u "()V"), (0, .fieldref 8 9), (0, .class_ 10), (0, .nameAndType 11 12), (0, u "com/example/araucaria/araucaria/proto/SourcePosition"), (0, u "line"), (0, u "I"), (0, .fieldref 8 14), (0, .nameAndType 15 12), (0, u "column"), (21, .class_ 38), (0, u "java/lang/Comparable"), (0, u "(II)V")] 40

def k19c0 : Code := { maxStack := 2, maxLocals := 3, code := prog_116_method_1_code, exceptionTable := #[], attributes := #[] }
def k19m0 : Method := { name := "<init>", desc := "(II)V", sig := { parameters := [.int, .int], returnType := none }, accessFlags := 1, code := some k19c0 }
/-- com/example/araucaria/araucaria/proto/SourcePosition -/
def k19 : Class := { plain "com/example/araucaria/araucaria/proto/SourcePosition" (some 18) with
  accessFlags := 49
  interfaces := #[3]
  cf := some (fileOf pool19 8 #[] #[{ accessFlags := 1, nameIndex := 5, descriptorIndex := 39, attributes := #[] }] 49 2 #[37] #[{ accessFlags := 18, nameIndex := 11, descriptorIndex := 12, attributes := #[] }, { accessFlags := 18, nameIndex := 15, descriptorIndex := 12, attributes := #[] }])
  fields := #[{ name := "line", type := .int, accessFlags := 18, slot := 0, constantValue := 0 }, { name := "column", type := .int, accessFlags := 18, slot := 1, constantValue := 0 }]
  methods := #[k19m0]
  instanceTypes := #[.int, .int]
  staticTypes := #[]
  resolved := Array.replicate 80 none
  statics := none }

def pool20 : Array CpInfo := pool [(1, .methodref 2 3), (0, .class_ 4), (0, .nameAndType 5 6), (0, u "java/lang/Record"), (0, u "<init>"), (0, u "()V"), (0, .fieldref 8 9), (0, .class_ 10), (0, .nameAndType 11 12), (0, u "com/example/araucaria/araucaria/proto/ProtoField"), (0, u "name"), (0, u "Ljava/lang/String;"), (0, .fieldref 8 14), (0, .nameAndType 15 16), (0, u "number"), (0, u "I"), (0, .fieldref 8 18), (0, .nameAndType 19 20), (0, u "position"), (0, u "Lcom/example/araucaria/araucaria/proto/SourcePosition;"), (0, .fieldref 8 22), (0, .nameAndType 23 20), (0, u "numberPosition"), (0, .fieldref 8 25), (0, .nameAndType 26 12), (0, u "type"), (0, .fieldref 8 28), (0, .nameAndType 29 30), (0, u "repeated"), (0, u "Z"), (0, .fieldref 8 32), (0, .nameAndType 33 30), (0, u "optional"), (0, .fieldref 8 35), (0, .nameAndType 36 12), (0, u "oneof"), (0, .fieldref 8 38), (0, .nameAndType 39 40), (0, u "behaviors"), (0, u "Ljava/util/List;"), (0, .fieldref 8 42), (0, .nameAndType 43 12), (0, u "jsonName"), (5, u "(Ljava/lang/String;ILcom/example/araucaria/araucaria/proto/SourcePosition;Lcom/example/araucaria/araucaria/proto/SourcePosition;Ljava/lang/String;ZZLjava/lang/String;Ljava/util/List;Ljava/lang/String;)V"), (70, u "MAP_START"), (1, u "MAP_SEPARATOR"), (8, u "()Z"), (0, u "hasPresence")] 38

def k20c0 : Code := { maxStack := 2, maxLocals := 11, code := prog_82_method_2_code, exceptionTable := #[], attributes := #[] }
def k20m0 : Method := { name := "<init>", desc := "(Ljava/lang/String;ILcom/example/araucaria/araucaria/proto/SourcePosition;Lcom/example/araucaria/araucaria/proto/SourcePosition;Ljava/lang/String;ZZLjava/lang/String;Ljava/util/List;Ljava/lang/String;)V", sig := { parameters := [(.object "java/lang/String"), .int, (.object "com/example/araucaria/araucaria/proto/SourcePosition"), (.object "com/example/araucaria/araucaria/proto/SourcePosition"), (.object "java/lang/String"), .boolean, .boolean, (.object "java/lang/String"), (.object "java/util/List"), (.object "java/lang/String")], returnType := none }, accessFlags := 1, code := some k20c0 }
def k20c1 : Code := { maxStack := 1, maxLocals := 1, code := prog_82_method_5_code, exceptionTable := #[], attributes := #[] }
def k20m1 : Method := { name := "hasPresence", desc := "()Z", sig := { parameters := [], returnType := some .boolean }, accessFlags := 1, code := some k20c1 }
/-- com/example/araucaria/araucaria/proto/ProtoField -/
def k20 : Class := { plain "com/example/araucaria/araucaria/proto/ProtoField" (some 18) with
  accessFlags := 49
  interfaces := #[]
  cf := some (fileOf pool20 8 #[] #[{ accessFlags := 1, nameIndex := 5, descriptorIndex := 49, attributes := #[] }, { accessFlags := 1, nameIndex := 132, descriptorIndex := 131, attributes := #[] }] 49 2 #[] #[{ accessFlags := 18, nameIndex := 11, descriptorIndex := 12, attributes := #[] }, { accessFlags := 18, nameIndex := 15, descriptorIndex := 16, attributes := #[] }, { accessFlags := 18, nameIndex := 19, descriptorIndex := 20, attributes := #[] }, { accessFlags := 18, nameIndex := 23, descriptorIndex := 20, attributes := #[] }, { accessFlags := 18, nameIndex := 26, descriptorIndex := 12, attributes := #[] }, { accessFlags := 18, nameIndex := 29, descriptorIndex := 30, attributes := #[] }, { accessFlags := 18, nameIndex := 33, descriptorIndex := 30, attributes := #[] }, { accessFlags := 18, nameIndex := 36, descriptorIndex := 12, attributes := #[] }, { accessFlags := 18, nameIndex := 39, descriptorIndex := 40, attributes := #[] }, { accessFlags := 18, nameIndex := 43, descriptorIndex := 12, attributes := #[] }, { accessFlags := 26, nameIndex := 120, descriptorIndex := 12, attributes := #[] }, { accessFlags := 26, nameIndex := 122, descriptorIndex := 12, attributes := #[] }])
  fields := #[{ name := "name", type := (.object "java/lang/String"), accessFlags := 18, slot := 0, constantValue := 0 }, { name := "number", type := .int, accessFlags := 18, slot := 1, constantValue := 0 }, { name := "position", type := (.object "com/example/araucaria/araucaria/proto/SourcePosition"), accessFlags := 18, slot := 2, constantValue := 0 }, { name := "numberPosition", type := (.object "com/example/araucaria/araucaria/proto/SourcePosition"), accessFlags := 18, slot := 3, constantValue := 0 }, { name := "type", type := (.object "java/lang/String"), accessFlags := 18, slot := 4, constantValue := 0 }, { name := "repeated", type := .boolean, accessFlags := 18, slot := 5, constantValue := 0 }, { name := "optional", type := .boolean, accessFlags := 18, slot := 6, constantValue := 0 }, { name := "oneof", type := (.object "java/lang/String"), accessFlags := 18, slot := 7, constantValue := 0 }, { name := "behaviors", type := (.object "java/util/List"), accessFlags := 18, slot := 8, constantValue := 0 }, { name := "jsonName", type := (.object "java/lang/String"), accessFlags := 18, slot := 9, constantValue := 0 }, { name := "MAP_START", type := (.object "java/lang/String"), accessFlags := 26, slot := 0, constantValue := 0 }, { name := "MAP_SEPARATOR", type := (.object "java/lang/String"), accessFlags := 26, slot := 1, constantValue := 0 }]
  methods := #[k20m0, k20m1]
  instanceTypes := #[(.object "java/lang/String"), .int, (.object "com/example/araucaria/araucaria/proto/SourcePosition"), (.object "com/example/araucaria/araucaria/proto/SourcePosition"), (.object "java/lang/String"), .boolean, .boolean, (.object "java/lang/String"), (.object "java/util/List"), (.object "java/lang/String")]
  staticTypes := #[(.object "java/lang/String"), (.object "java/lang/String")]
  resolved := Array.replicate 171 none
  statics := none }

def pool21 : Array CpInfo := pool [(1, .class_ 2), (0, u "java/lang/Math"), (1, .class_ 6), (1, u "java/lang/Object"), (0, u "<init>"), (0, u "()V"), (89, .class_ 100), (1, u "java/lang/Math$RandomNumberGeneratorHolder"), (71, u "negativeZeroFloatBits"), (0, u "J"), (2, u "negativeZeroDoubleBits"), (21, u "max"), (46, u "$assertionsDisabled"), (0, u "Z"), (88, u "(II)I"), (2, u "twoToTheDoubleScaleDown"), (0, u "D"), (4, u "twoToTheDoubleScaleUp"), (9, u "E"), (3, u "PI"), (2, u "TAU"), (2, u "DEGREES_TO_RADIANS"), (0, u "RADIANS_TO_DEGREES")] 94

def k21m0 : Method := { name := "<init>", desc := "()V", sig := { parameters := [], returnType := none }, accessFlags := 2, code := none }
def k21c1 : Code := { maxStack := 2, maxLocals := 2, code := jdk_29_method_65_code, exceptionTable := #[], attributes := #[] }
def k21m1 : Method := { name := "max", desc := "(II)I", sig := { parameters := [.int, .int], returnType := some .int }, accessFlags := 9, code := some k21c1 }
/-- java/lang/Math -/
def k21 : Class := { plain "java/lang/Math" (some 0) with
  accessFlags := 49
  interfaces := #[]
  cf := some (fileOf pool21 1 #[.nestMembers #[98]] #[{ accessFlags := 2, nameIndex := 7, descriptorIndex := 8, attributes := #[] }, { accessFlags := 9, nameIndex := 198, descriptorIndex := 335, attributes := #[] }] 49 4 #[] #[{ accessFlags := 25, nameIndex := 354, descriptorIndex := 339, attributes := #[] }, { accessFlags := 25, nameIndex := 358, descriptorIndex := 339, attributes := #[] }, { accessFlags := 25, nameIndex := 361, descriptorIndex := 339, attributes := #[] }, { accessFlags := 26, nameIndex := 364, descriptorIndex := 339, attributes := #[] }, { accessFlags := 26, nameIndex := 365, descriptorIndex := 339, attributes := #[] }, { accessFlags := 26, nameIndex := 172, descriptorIndex := 173, attributes := #[] }, { accessFlags := 26, nameIndex := 176, descriptorIndex := 173, attributes := #[] }, { accessFlags := 8, nameIndex := 344, descriptorIndex := 339, attributes := #[] }, { accessFlags := 8, nameIndex := 338, descriptorIndex := 339, attributes := #[] }, { accessFlags := 4120, nameIndex := 245, descriptorIndex := 246, attributes := #[] }])
  fields := #[{ name := "E", type := .double, accessFlags := 25, slot := 0, constantValue := 0 }, { name := "PI", type := .double, accessFlags := 25, slot := 1, constantValue := 0 }, { name := "TAU", type := .double, accessFlags := 25, slot := 2, constantValue := 0 }, { name := "DEGREES_TO_RADIANS", type := .double, accessFlags := 26, slot := 3, constantValue := 0 }, { name := "RADIANS_TO_DEGREES", type := .double, accessFlags := 26, slot := 4, constantValue := 0 }, { name := "negativeZeroFloatBits", type := .long, accessFlags := 26, slot := 5, constantValue := 0 }, { name := "negativeZeroDoubleBits", type := .long, accessFlags := 26, slot := 6, constantValue := 0 }, { name := "twoToTheDoubleScaleUp", type := .double, accessFlags := 8, slot := 7, constantValue := 0 }, { name := "twoToTheDoubleScaleDown", type := .double, accessFlags := 8, slot := 8, constantValue := 0 }, { name := "$assertionsDisabled", type := .boolean, accessFlags := 4120, slot := 9, constantValue := 0 }]
  methods := #[k21m0, k21m1]
  instanceTypes := #[]
  staticTypes := #[.double, .double, .double, .double, .double, .long, .long, .double, .double, .boolean]
  resolved := Array.replicate 460 none
  statics := none }

def pool22 : Array CpInfo := pool [(6, .class_ 8), (1, u "java/lang/Object"), (0, u "<init>"), (0, u "()V"), (1, .class_ 14), (1, u "java/lang/StringUTF16"), (31, u "$assertionsDisabled"), (0, u "Z"), (13, u "HI_BYTE_SHIFT"), (0, u "I"), (2, u "LO_BYTE_SHIFT"), (49, .methodref 12 116), (0, .nameAndType 117 118), (0, u "compress"), (0, u "([CI[BII)I"), (3, u "([CII)[B"), (138, u "coderFromArrayLen"), (0, u "([BI)B"), (106, .class_ 371), (1, u "java/lang/StringUTF16$LinesSpliterator"), (58, u "MAX_LENGTH"), (196, .class_ 628), (0, u "java/lang/StringUTF16$CodePointsSpliterator"), (0, .class_ 630), (0, u "java/lang/StringUTF16$CharsSpliterator")] 4

def k22m0 : Method := { name := "<init>", desc := "()V", sig := { parameters := [], returnType := none }, accessFlags := 0, code := none }
def k22c1 : Code := { maxStack := 2, maxLocals := 2, code := jdk_52_method_15_code, exceptionTable := #[], attributes := #[] }
def k22m1 : Method := { name := "coderFromArrayLen", desc := "([BI)B", sig := { parameters := [(.array .byte), .int], returnType := some .byte }, accessFlags := 8, code := some k22c1 }
def k22c2 : Code := { maxStack := 5, maxLocals := 6, code := jdk_52_method_16_code, exceptionTable := #[], attributes := #[] }
def k22m2 : Method := { name := "compress", desc := "([CII)[B", sig := { parameters := [(.array .char), .int, .int], returnType := some (.array .byte) }, accessFlags := 9, code := some k22c2 }
def k22c3 : Code := { maxStack := 3, maxLocals := 7, code := jdk_52_method_21_code, exceptionTable := #[], attributes := #[] }
def k22m3 : Method := { name := "compress", desc := "([CI[BII)I", sig := { parameters := [(.array .char), .int, (.array .byte), .int, .int], returnType := some .int }, accessFlags := 9, code := some k22c3 }
/-- java/lang/StringUTF16 -/
def k22 : Class := { plain "java/lang/StringUTF16" (some 0) with
  accessFlags := 48
  interfaces := #[]
  cf := some (fileOf pool22 12 #[.nestMembers #[627, 629, 369]] #[{ accessFlags := 0, nameIndex := 9, descriptorIndex := 10, attributes := #[] }, { accessFlags := 8, nameIndex := 261, descriptorIndex := 262, attributes := #[] }, { accessFlags := 9, nameIndex := 117, descriptorIndex := 122, attributes := #[] }, { accessFlags := 9, nameIndex := 117, descriptorIndex := 118, attributes := #[] }] 48 6 #[] #[{ accessFlags := 26, nameIndex := 61, descriptorIndex := 62, attributes := #[] }, { accessFlags := 26, nameIndex := 65, descriptorIndex := 62, attributes := #[] }, { accessFlags := 24, nameIndex := 430, descriptorIndex := 62, attributes := #[] }, { accessFlags := 4120, nameIndex := 46, descriptorIndex := 47, attributes := #[] }])
  fields := #[{ name := "HI_BYTE_SHIFT", type := .int, accessFlags := 26, slot := 0, constantValue := 0 }, { name := "LO_BYTE_SHIFT", type := .int, accessFlags := 26, slot := 1, constantValue := 0 }, { name := "MAX_LENGTH", type := .int, accessFlags := 24, slot := 2, constantValue := 0 }, { name := "$assertionsDisabled", type := .boolean, accessFlags := 4120, slot := 3, constantValue := 0 }]
  methods := #[k22m0, k22m1, k22m2, k22m3]
  instanceTypes := #[]
  staticTypes := #[.int, .int, .int, .boolean]
  resolved := Array.replicate 635 none
  statics := none }

def pool23 : Array CpInfo := pool [(2, .class_ 4), (1, u "java/lang/Object"), (0, u "<init>"), (0, u "()V"), (17, .class_ 26), (1, u "jdk/internal/util/Preconditions"), (28, .class_ 56), (0, u "jdk/internal/util/Preconditions$4"), (57, .class_ 115), (0, u "jdk/internal/util/Preconditions$1"), (7, u "SIOOBE_FORMATTER"), (0, u "Ljava/util/function/BiFunction;"), (0, .class_ 126), (0, u "jdk/internal/util/Preconditions$2"), (3, u "AIOOBE_FORMATTER"), (0, .class_ 132), (0, u "jdk/internal/util/Preconditions$3"), (3, u "IOOBE_FORMATTER")] 57

def k23m0 : Method := { name := "<init>", desc := "()V", sig := { parameters := [], returnType := none }, accessFlags := 1, code := none }
/-- jdk/internal/util/Preconditions -/
def k23 : Class := { plain "jdk/internal/util/Preconditions" (some 0) with
  accessFlags := 33
  interfaces := #[]
  cf := some (fileOf pool23 24 #[.nestMembers #[55, 131, 125, 114]] #[{ accessFlags := 1, nameIndex := 5, descriptorIndex := 6, attributes := #[] }] 33 2 #[] #[{ accessFlags := 25, nameIndex := 123, descriptorIndex := 124, attributes := #[] }, { accessFlags := 25, nameIndex := 130, descriptorIndex := 124, attributes := #[] }, { accessFlags := 25, nameIndex := 136, descriptorIndex := 124, attributes := #[] }])
  fields := #[{ name := "SIOOBE_FORMATTER", type := (.object "java/util/function/BiFunction"), accessFlags := 25, slot := 0, constantValue := 0 }, { name := "AIOOBE_FORMATTER", type := (.object "java/util/function/BiFunction"), accessFlags := 25, slot := 1, constantValue := 0 }, { name := "IOOBE_FORMATTER", type := (.object "java/util/function/BiFunction"), accessFlags := 25, slot := 2, constantValue := 0 }]
  methods := #[k23m0]
  instanceTypes := #[]
  staticTypes := #[(.object "java/util/function/BiFunction"), (.object "java/util/function/BiFunction"), (.object "java/util/function/BiFunction")]
  resolved := Array.replicate 194 none
  statics := some 2 }

def pool24 : Array CpInfo := pool [(9, u "<init>"), (6, .class_ 18), (1, u "java/lang/Object"), (0, u "()V"), (1, .class_ 23), (1, u "jdk/internal/util/ArraysSupport"), (0, u "LOG2_ARRAY_LONG_INDEX_SCALE"), (0, u "I"), (2, u "U"), (0, u "Ljdk/internal/misc/Unsafe;"), (8, u "BIG_ENDIAN"), (0, u "Z"), (8, u "LOG2_BYTE_BIT_SIZE"), (4, u "LOG2_ARRAY_INT_INDEX_SCALE"), (54, u "JLA"), (0, u "Ljdk/internal/access/JavaLangAccess;"), (11, u "LOG2_ARRAY_BOOLEAN_INDEX_SCALE"), (9, u "LOG2_ARRAY_BYTE_INDEX_SCALE"), (5, u "LOG2_ARRAY_CHAR_INDEX_SCALE"), (5, u "LOG2_ARRAY_SHORT_INDEX_SCALE"), (18, u "LOG2_ARRAY_FLOAT_INDEX_SCALE"), (24, u "LOG2_ARRAY_DOUBLE_INDEX_SCALE"), (89, u "T_BOOLEAN"), (2, u "T_CHAR"), (1, u "T_FLOAT"), (1, u "T_DOUBLE"), (1, u "T_BYTE"), (1, u "T_SHORT"), (1, u "T_INT"), (1, u "T_LONG"), (1, u "SOFT_MAX_ARRAY_LENGTH")] 83

def k24m0 : Method := { name := "<init>", desc := "()V", sig := { parameters := [], returnType := none }, accessFlags := 2, code := none }
/-- jdk/internal/util/ArraysSupport -/
def k24 : Class := { plain "jdk/internal/util/ArraysSupport" (some 0) with
  accessFlags := 33
  interfaces := #[]
  cf := some (fileOf pool24 21 #[] #[{ accessFlags := 2, nameIndex := 9, descriptorIndex := 19, attributes := #[] }] 33 16 #[] #[{ accessFlags := 24, nameIndex := 28, descriptorIndex := 29, attributes := #[] }, { accessFlags := 26, nameIndex := 38, descriptorIndex := 39, attributes := #[] }, { accessFlags := 25, nameIndex := 121, descriptorIndex := 25, attributes := #[] }, { accessFlags := 25, nameIndex := 131, descriptorIndex := 25, attributes := #[] }, { accessFlags := 25, nameIndex := 137, descriptorIndex := 25, attributes := #[] }, { accessFlags := 25, nameIndex := 143, descriptorIndex := 25, attributes := #[] }, { accessFlags := 25, nameIndex := 53, descriptorIndex := 25, attributes := #[] }, { accessFlags := 25, nameIndex := 24, descriptorIndex := 25, attributes := #[] }, { accessFlags := 25, nameIndex := 162, descriptorIndex := 25, attributes := #[] }, { accessFlags := 25, nameIndex := 187, descriptorIndex := 25, attributes := #[] }, { accessFlags := 26, nameIndex := 48, descriptorIndex := 25, attributes := #[] }, { accessFlags := 25, nameIndex := 277, descriptorIndex := 25, attributes := #[] }, { accessFlags := 25, nameIndex := 280, descriptorIndex := 25, attributes := #[] }, { accessFlags := 25, nameIndex := 282, descriptorIndex := 25, attributes := #[] }, { accessFlags := 25, nameIndex := 284, descriptorIndex := 25, attributes := #[] }, { accessFlags := 25, nameIndex := 286, descriptorIndex := 25, attributes := #[] }, { accessFlags := 25, nameIndex := 288, descriptorIndex := 25, attributes := #[] }, { accessFlags := 25, nameIndex := 290, descriptorIndex := 25, attributes := #[] }, { accessFlags := 25, nameIndex := 292, descriptorIndex := 25, attributes := #[] }, { accessFlags := 26, nameIndex := 108, descriptorIndex := 109, attributes := #[] }, { accessFlags := 25, nameIndex := 294, descriptorIndex := 25, attributes := #[] }])
  fields := #[{ name := "U", type := (.object "jdk/internal/misc/Unsafe"), accessFlags := 24, slot := 0, constantValue := 0 }, { name := "BIG_ENDIAN", type := .boolean, accessFlags := 26, slot := 1, constantValue := 0 }, { name := "LOG2_ARRAY_BOOLEAN_INDEX_SCALE", type := .int, accessFlags := 25, slot := 2, constantValue := 0 }, { name := "LOG2_ARRAY_BYTE_INDEX_SCALE", type := .int, accessFlags := 25, slot := 3, constantValue := 0 }, { name := "LOG2_ARRAY_CHAR_INDEX_SCALE", type := .int, accessFlags := 25, slot := 4, constantValue := 0 }, { name := "LOG2_ARRAY_SHORT_INDEX_SCALE", type := .int, accessFlags := 25, slot := 5, constantValue := 0 }, { name := "LOG2_ARRAY_INT_INDEX_SCALE", type := .int, accessFlags := 25, slot := 6, constantValue := 0 }, { name := "LOG2_ARRAY_LONG_INDEX_SCALE", type := .int, accessFlags := 25, slot := 7, constantValue := 0 }, { name := "LOG2_ARRAY_FLOAT_INDEX_SCALE", type := .int, accessFlags := 25, slot := 8, constantValue := 0 }, { name := "LOG2_ARRAY_DOUBLE_INDEX_SCALE", type := .int, accessFlags := 25, slot := 9, constantValue := 0 }, { name := "LOG2_BYTE_BIT_SIZE", type := .int, accessFlags := 26, slot := 10, constantValue := 0 }, { name := "T_BOOLEAN", type := .int, accessFlags := 25, slot := 11, constantValue := 0 }, { name := "T_CHAR", type := .int, accessFlags := 25, slot := 12, constantValue := 0 }, { name := "T_FLOAT", type := .int, accessFlags := 25, slot := 13, constantValue := 0 }, { name := "T_DOUBLE", type := .int, accessFlags := 25, slot := 14, constantValue := 0 }, { name := "T_BYTE", type := .int, accessFlags := 25, slot := 15, constantValue := 0 }, { name := "T_SHORT", type := .int, accessFlags := 25, slot := 16, constantValue := 0 }, { name := "T_INT", type := .int, accessFlags := 25, slot := 17, constantValue := 0 }, { name := "T_LONG", type := .int, accessFlags := 25, slot := 18, constantValue := 0 }, { name := "JLA", type := (.object "jdk/internal/access/JavaLangAccess"), accessFlags := 26, slot := 19, constantValue := 0 }, { name := "SOFT_MAX_ARRAY_LENGTH", type := .int, accessFlags := 25, slot := 20, constantValue := 0 }]
  methods := #[k24m0]
  instanceTypes := #[]
  staticTypes := #[(.object "jdk/internal/misc/Unsafe"), .boolean, .int, .int, .int, .int, .int, .int, .int, .int, .int, .int, .int, .int, .int, .int, .int, .int, .int, (.object "jdk/internal/access/JavaLangAccess"), .int]
  resolved := Array.replicate 378 none
  statics := none }

/-- the primitive byte -/
def k25 : Class := { plain "byte" none with kind := .primitive 'B', accessFlags := 0x411 }
/-- [B -/
def k26 : Class := { plain "[B" (some 0) with kind := .array 25 .byte, interfaces := #[16, 2], accessFlags := 1041 }

/-- the primitive char -/
def k27 : Class := { plain "char" none with kind := .primitive 'C', accessFlags := 0x411 }
/-- [C -/
def k28 : Class := { plain "[C" (some 0) with kind := .array 27 .char, interfaces := #[16, 2], accessFlags := 1041 }

/-- the primitive int -/
def k29 : Class := { plain "int" none with kind := .primitive 'I', accessFlags := 0x411 }
/-- [I -/
def k30 : Class := { plain "[I" (some 0) with kind := .array 29 .int, interfaces := #[16, 2], accessFlags := 1041 }

/-- [Ljava/lang/Object; -/
def k31 : Class := { plain "[Ljava/lang/Object;" (some 0) with kind := .array 0 (.object "java/lang/Object"), interfaces := #[16, 2], accessFlags := 1041 }

def heap : Heap := #[{ cls := 7, slots := #[.long 0, .int 1, .null, .int 0, .null, .int 0, .int 0], vm := .statics 7 },
  { cls := 17, slots := #[.long 0, .int 0, .ref 3, .ref 4], vm := .statics 17 },
  { cls := 23, slots := #[.null, .null, .null], vm := .statics 23 },
  { cls := 31, slots := #[], vm := .none },
  { cls := 31, slots := #[], vm := .none }]
def classes : Array Class := #[k0, k1, k2, k3, k4, k5, k6, k7, k8, k9, k10, k11, k12, k13, k14, k15, k16, k17, k18, k19, k20, k21, k22, k23, k24, k25, k26, k27, k28, k29, k30, k31]
def interned : List (Array UInt16 × Addr) := []
def slotsUsed : Nat := 14
def theMethod : MethodId := ⟨1, 1⟩
def args0 : Array Value := #[.int 5, .int 14, .int 3, .int 2]
def aboutOver (below : List Frame) : State where
  vm := { classes := classes, interned := interned.toArray }
  heap := heap
  slotsUsed := slotsUsed
  threads := #[{ frames := .invoking theMethod args0 :: below }]
def below0 : List Frame := [.native { method := ⟨0, 0⟩, args := #[] }]
def about1 : State := aboutOver below0
def p0 : Program := .bare "" "" ""
def e0 : Env := launch0.env 0 0 0
theorem w_frames : about1.frames = Frame.invoking theMethod args0 :: below0 := rfl
set_option maxRecDepth 65536 in
theorem w_args : argsFit about1.vm theMethod args0 = true := by decide +kernel
set_option maxRecDepth 65536 in
theorem w_heap : heapFits about1 = true := by decide +kernel
set_option maxRecDepth 65536 in
theorem w_runnable : about1.curStatus? = some .runnable := by decide +kernel
set_option maxRecDepth 65536 in
theorem w_alone : about1.alone = true := by decide +kernel
set_option maxRecDepth 65536 in
theorem w_named : about1.methodNamed? x = some theMethod := by decide +kernel
set_option maxRecDepth 65536 in
theorem w_hears : about1.hears theMethod below0 = true := by decide +kernel
set_option maxRecDepth 65536 in
theorem w_ripe : about1.ripe theMethod args0 below0 = true := by decide +kernel
theorem w_running : about1.status = .running := rfl
set_option maxRecDepth 65536 in
theorem w_room : about1.hasRoom e0.platform room_1 = true :=
  launch0.hasRoom_least _ room_1 (by decide +kernel) (by decide +kernel) (by decide +kernel) (by decide +kernel) (by decide +kernel) (by decide +kernel)
theorem allAtoms_all (ts : List Jvm.Cond) (a : Array Jvm.Value) (st : Jvm.State) : (allAtoms ts).before a st = ts.all (fun c => c.before a st) := by
  induction ts with
  | nil => rfl
  | cons c t ih =>
    show (Jvm.Cond.and c (allAtoms t)).before a st = _
    rw [Jvm.Cond.before_and, ih, List.all_cons]
def words1 : List Jvm.Cond := Jvm.Cond.code x code maxLocals ret :: tables_1
/-- a 'code' word, met by the world's own term for the bytes: nothing is compared byte by byte -/
theorem code_word {y : MethodName} {bytes : ByteArray} {mx : Nat} {rt : Option FieldType} {a : Array Value} {s : State} {m : MethodId} {meth : Method} {c : Code} (h1 : s.methodNamed? y = some m) (h2 : s.vm.method? m = some meth) (h3 : meth.code = some c) (h4 : c.code = bytes)
    (h5 : (c.maxLocals == mx && c.exceptionTable.isEmpty && decide (c.maxStack ≤ mostOperands) && decide (meth.sig.returnType = rt) && !meth.locks && decide (parseMethodDescriptor y.desc = some meth.sig)) = true) : (Jvm.Cond.code y bytes mx rt).before a s = true := by
  simp only [Bool.and_eq_true, beq_iff_eq, Bool.not_eq_true', decide_eq_true_eq] at h5
  obtain ⟨⟨⟨⟨⟨g1, g2⟩, g3⟩, g4⟩, g5⟩, g6⟩ := h5
  simp [Cond.before, Cond.holds, Cond.value, h1, h2, h3, h4, g1, g2, g3, g4, g5, g6]
def isCode : Jvm.Cond → Bool
  | .code _ _ _ _ => true
  | _ => false
theorem all_split {L : List Jvm.Cond} {P : Jvm.Cond → Bool} (h1 : L.all (fun c => isCode c || P c) = true) (h2 : ∀ c ∈ L.filter isCode, P c = true) : L.all P = true := by
  refine List.all_eq_true.mpr fun c hc => ?_
  have h := List.all_eq_true.mp h1 c hc
  rcases Bool.eq_false_or_eq_true (isCode c) with hi | hi
  · exact h2 c (List.mem_filter.mpr ⟨hc, hi⟩)
  · simpa [hi] using h
set_option maxRecDepth 65536 in
theorem w_c0 : (Jvm.Cond.code x code maxLocals ret).before args0 about1 = true := code_word (m := ⟨1, 1⟩) (meth := k1m1) (c := k1c1) (by decide +kernel) rfl rfl rfl (by decide +kernel)
set_option maxRecDepth 65536 in
theorem w_c1 : (Jvm.Cond.code ({ cls := "java/lang/String", name := "valueOf", desc := "(C)Ljava/lang/String;" } : Jvm.MethodName) jdk_42_method_139_code (1 : Nat) (Option.some (Jvm.ClassFile.FieldType.object "java/lang/String"))).before args0 about1 = true := code_word (m := ⟨7, 2⟩) (meth := k7m2) (c := k7c2) (by decide +kernel) rfl rfl rfl (by decide +kernel)
set_option maxRecDepth 65536 in
theorem w_c2 : (Jvm.Cond.code ({ cls := "java/lang/StringLatin1", name := "canEncode", desc := "(C)Z" } : Jvm.MethodName) jdk_43_method_3_code (1 : Nat) (Option.some Jvm.ClassFile.FieldType.boolean)).before args0 about1 = true := code_word (m := ⟨8, 1⟩) (meth := k8m1) (c := k8c1) (by decide +kernel) rfl rfl rfl (by decide +kernel)
set_option maxRecDepth 65536 in
theorem w_c3 : (Jvm.Cond.code ({ cls := "java/lang/StringLatin1", name := "toBytes", desc := "(C)[B" } : Jvm.MethodName) jdk_43_method_46_code (1 : Nat) (Option.some (Jvm.ClassFile.FieldType.array Jvm.ClassFile.FieldType.byte))).before args0 about1 = true := code_word (m := ⟨8, 2⟩) (meth := k8m2) (c := k8c2) (by decide +kernel) rfl rfl rfl (by decide +kernel)
set_option maxRecDepth 65536 in
theorem w_c4 : (Jvm.Cond.code ({ cls := "java/lang/String", name := "<init>", desc := "([BB)V" } : Jvm.MethodName) jdk_42_method_151_code (3 : Nat) (Option.none : Option Jvm.ClassFile.FieldType)).before args0 about1 = true := code_word (m := ⟨7, 4⟩) (meth := k7m4) (c := k7c4) (by decide +kernel) rfl rfl rfl (by decide +kernel)
set_option maxRecDepth 65536 in
theorem w_c5 : (Jvm.Cond.code ({ cls := "java/lang/Object", name := "<init>", desc := "()V" } : Jvm.MethodName) object_method_1_code (1 : Nat) (Option.none : Option Jvm.ClassFile.FieldType)).before args0 about1 = true := code_word (m := ⟨0, 0⟩) (meth := k0m0) (c := k0c0) (by decide +kernel) rfl rfl rfl (by decide +kernel)
set_option maxRecDepth 65536 in
theorem w_c6 : (Jvm.Cond.code ({ cls := "java/util/ArrayList", name := "<init>", desc := "()V" } : Jvm.MethodName) jdk_38_method_2_code (1 : Nat) (Option.none : Option Jvm.ClassFile.FieldType)).before args0 about1 = true := code_word (m := ⟨17, 0⟩) (meth := k17m0) (c := k17c0) (by decide +kernel) rfl rfl rfl (by decide +kernel)
set_option maxRecDepth 65536 in
theorem w_c7 : (Jvm.Cond.code ({ cls := "java/util/AbstractList", name := "<init>", desc := "()V" } : Jvm.MethodName) jdk_39_method_1_code (1 : Nat) (Option.none : Option Jvm.ClassFile.FieldType)).before args0 about1 = true := code_word (m := ⟨14, 0⟩) (meth := k14m0) (c := k14c0) (by decide +kernel) rfl rfl rfl (by decide +kernel)
set_option maxRecDepth 65536 in
theorem w_c8 : (Jvm.Cond.code ({ cls := "java/util/AbstractCollection", name := "<init>", desc := "()V" } : Jvm.MethodName) jdk_22_method_1_code (1 : Nat) (Option.none : Option Jvm.ClassFile.FieldType)).before args0 about1 = true := code_word (m := ⟨11, 0⟩) (meth := k11m0) (c := k11c0) (by decide +kernel) rfl rfl rfl (by decide +kernel)
set_option maxRecDepth 65536 in
theorem w_c9 : (Jvm.Cond.code ({ cls := "com/example/araucaria/araucaria/proto/SourcePosition", name := "<init>", desc := "(II)V" } : Jvm.MethodName) prog_116_method_1_code (3 : Nat) (Option.none : Option Jvm.ClassFile.FieldType)).before args0 about1 = true := code_word (m := ⟨19, 0⟩) (meth := k19m0) (c := k19c0) (by decide +kernel) rfl rfl rfl (by decide +kernel)
set_option maxRecDepth 65536 in
theorem w_c10 : (Jvm.Cond.code ({ cls := "java/lang/Record", name := "<init>", desc := "()V" } : Jvm.MethodName) jdk_30_method_1_code (1 : Nat) (Option.none : Option Jvm.ClassFile.FieldType)).before args0 about1 = true := code_word (m := ⟨18, 0⟩) (meth := k18m0) (c := k18c0) (by decide +kernel) rfl rfl rfl (by decide +kernel)
set_option maxRecDepth 65536 in
theorem w_c11 : (Jvm.Cond.code ({ cls := "com/example/araucaria/araucaria/proto/ProtoField", name := "<init>", desc := "(Ljava/lang/String;ILcom/example/araucaria/araucaria/proto/SourcePosition;Lcom/example/araucaria/araucaria/proto/SourcePosition;Ljava/lang/String;ZZLjava/lang/String;Ljava/util/List;Ljava/lang/String;)V" } : Jvm.MethodName) prog_82_method_2_code (11 : Nat) (Option.none : Option Jvm.ClassFile.FieldType)).before args0 about1 = true := code_word (m := ⟨20, 0⟩) (meth := k20m0) (c := k20c0) (by decide +kernel) rfl rfl rfl (by decide +kernel)
set_option maxRecDepth 65536 in
theorem w_c12 : (Jvm.Cond.code ({ cls := "com/example/araucaria/araucaria/proto/ProtoField", name := "hasPresence", desc := "()Z" } : Jvm.MethodName) prog_82_method_5_code (1 : Nat) (Option.some Jvm.ClassFile.FieldType.boolean)).before args0 about1 = true := code_word (m := ⟨20, 1⟩) (meth := k20m1) (c := k20c1) (by decide +kernel) rfl rfl rfl (by decide +kernel)
set_option maxRecDepth 65536 in
theorem w_c13 : (Jvm.Cond.code ({ cls := "java/lang/String", name := "<init>", desc := "([C)V" } : Jvm.MethodName) jdk_42_method_3_code (2 : Nat) (Option.none : Option Jvm.ClassFile.FieldType)).before args0 about1 = true := code_word (m := ⟨7, 1⟩) (meth := k7m1) (c := k7c1) (by decide +kernel) rfl rfl rfl (by decide +kernel)
set_option maxRecDepth 65536 in
theorem w_c14 : (Jvm.Cond.code ({ cls := "java/lang/String", name := "<init>", desc := "([CIILjava/lang/Void;)V" } : Jvm.MethodName) jdk_42_method_149_code (6 : Nat) (Option.none : Option Jvm.ClassFile.FieldType)).before args0 about1 = true := code_word (m := ⟨7, 3⟩) (meth := k7m3) (c := k7c3) (by decide +kernel) rfl rfl rfl (by decide +kernel)
set_option maxRecDepth 65536 in
theorem w_c15 : (Jvm.Cond.code ({ cls := "java/util/ArrayList", name := "add", desc := "(Ljava/lang/Object;)Z" } : Jvm.MethodName) jdk_38_method_25_code (2 : Nat) (Option.some Jvm.ClassFile.FieldType.boolean)).before args0 about1 = true := code_word (m := ⟨17, 4⟩) (meth := k17m4) (c := k17c4) (by decide +kernel) rfl rfl rfl (by decide +kernel)
set_option maxRecDepth 65536 in
theorem w_c16 : (Jvm.Cond.code ({ cls := "java/util/ArrayList", name := "add", desc := "(Ljava/lang/Object;[Ljava/lang/Object;I)V" } : Jvm.MethodName) jdk_38_method_24_code (4 : Nat) (Option.none : Option Jvm.ClassFile.FieldType)).before args0 about1 = true := code_word (m := ⟨17, 3⟩) (meth := k17m3) (c := k17c3) (by decide +kernel) rfl rfl rfl (by decide +kernel)
set_option maxRecDepth 65536 in
theorem w_c17 : (Jvm.Cond.code ({ cls := "java/util/ArrayList", name := "grow", desc := "()[Ljava/lang/Object;" } : Jvm.MethodName) jdk_38_method_7_code (1 : Nat) (Option.some (Jvm.ClassFile.FieldType.array (Jvm.ClassFile.FieldType.object "java/lang/Object")))).before args0 about1 = true := code_word (m := ⟨17, 2⟩) (meth := k17m2) (c := k17c2) (by decide +kernel) rfl rfl rfl (by decide +kernel)
set_option maxRecDepth 65536 in
theorem w_c18 : (Jvm.Cond.code ({ cls := "java/util/ArrayList", name := "grow", desc := "(I)[Ljava/lang/Object;" } : Jvm.MethodName) jdk_38_method_6_code (4 : Nat) (Option.some (Jvm.ClassFile.FieldType.array (Jvm.ClassFile.FieldType.object "java/lang/Object")))).before args0 about1 = true := code_word (m := ⟨17, 1⟩) (meth := k17m1) (c := k17c1) (by decide +kernel) rfl rfl rfl (by decide +kernel)
set_option maxRecDepth 65536 in
theorem w_c19 : (Jvm.Cond.code ({ cls := "java/lang/Math", name := "max", desc := "(II)I" } : Jvm.MethodName) jdk_29_method_65_code (2 : Nat) (Option.some Jvm.ClassFile.FieldType.int)).before args0 about1 = true := code_word (m := ⟨21, 1⟩) (meth := k21m1) (c := k21c1) (by decide +kernel) rfl rfl rfl (by decide +kernel)
set_option maxRecDepth 65536 in
theorem w_c20 : (Jvm.Cond.code ({ cls := "java/lang/StringUTF16", name := "compress", desc := "([CII)[B" } : Jvm.MethodName) jdk_52_method_16_code (6 : Nat) (Option.some (Jvm.ClassFile.FieldType.array Jvm.ClassFile.FieldType.byte))).before args0 about1 = true := code_word (m := ⟨22, 2⟩) (meth := k22m2) (c := k22c2) (by decide +kernel) rfl rfl rfl (by decide +kernel)
set_option maxRecDepth 65536 in
theorem w_c21 : (Jvm.Cond.code ({ cls := "java/lang/StringUTF16", name := "compress", desc := "([CI[BII)I" } : Jvm.MethodName) jdk_52_method_21_code (7 : Nat) (Option.some Jvm.ClassFile.FieldType.int)).before args0 about1 = true := code_word (m := ⟨22, 3⟩) (meth := k22m3) (c := k22c3) (by decide +kernel) rfl rfl rfl (by decide +kernel)
set_option maxRecDepth 65536 in
theorem w_c22 : (Jvm.Cond.code ({ cls := "java/lang/StringUTF16", name := "coderFromArrayLen", desc := "([BI)B" } : Jvm.MethodName) jdk_52_method_15_code (2 : Nat) (Option.some Jvm.ClassFile.FieldType.byte)).before args0 about1 = true := code_word (m := ⟨22, 1⟩) (meth := k22m1) (c := k22c1) (by decide +kernel) rfl rfl rfl (by decide +kernel)
def codes1 : List Jvm.Cond := [Jvm.Cond.code x code maxLocals ret, Jvm.Cond.code ({ cls := "java/lang/String", name := "valueOf", desc := "(C)Ljava/lang/String;" } : Jvm.MethodName) jdk_42_method_139_code (1 : Nat) (Option.some (Jvm.ClassFile.FieldType.object "java/lang/String")), Jvm.Cond.code ({ cls := "java/lang/StringLatin1", name := "canEncode", desc := "(C)Z" } : Jvm.MethodName) jdk_43_method_3_code (1 : Nat) (Option.some Jvm.ClassFile.FieldType.boolean), Jvm.Cond.code ({ cls := "java/lang/StringLatin1", name := "toBytes", desc := "(C)[B" } : Jvm.MethodName) jdk_43_method_46_code (1 : Nat) (Option.some (Jvm.ClassFile.FieldType.array Jvm.ClassFile.FieldType.byte)), Jvm.Cond.code ({ cls := "java/lang/String", name := "<init>", desc := "([BB)V" } : Jvm.MethodName) jdk_42_method_151_code (3 : Nat) (Option.none : Option Jvm.ClassFile.FieldType), Jvm.Cond.code ({ cls := "java/lang/Object", name := "<init>", desc := "()V" } : Jvm.MethodName) object_method_1_code (1 : Nat) (Option.none : Option Jvm.ClassFile.FieldType), Jvm.Cond.code ({ cls := "java/util/ArrayList", name := "<init>", desc := "()V" } : Jvm.MethodName) jdk_38_method_2_code (1 : Nat) (Option.none : Option Jvm.ClassFile.FieldType), Jvm.Cond.code ({ cls := "java/util/AbstractList", name := "<init>", desc := "()V" } : Jvm.MethodName) jdk_39_method_1_code (1 : Nat) (Option.none : Option Jvm.ClassFile.FieldType), Jvm.Cond.code ({ cls := "java/util/AbstractCollection", name := "<init>", desc := "()V" } : Jvm.MethodName) jdk_22_method_1_code (1 : Nat) (Option.none : Option Jvm.ClassFile.FieldType), Jvm.Cond.code ({ cls := "com/example/araucaria/araucaria/proto/SourcePosition", name := "<init>", desc := "(II)V" } : Jvm.MethodName) prog_116_method_1_code (3 : Nat) (Option.none : Option Jvm.ClassFile.FieldType), Jvm.Cond.code ({ cls := "java/lang/Record", name := "<init>", desc := "()V" } : Jvm.MethodName) jdk_30_method_1_code (1 : Nat) (Option.none : Option Jvm.ClassFile.FieldType), Jvm.Cond.code ({ cls := "com/example/araucaria/araucaria/proto/ProtoField", name := "<init>", desc := "(Ljava/lang/String;ILcom/example/araucaria/araucaria/proto/SourcePosition;Lcom/example/araucaria/araucaria/proto/SourcePosition;Ljava/lang/String;ZZLjava/lang/String;Ljava/util/List;Ljava/lang/String;)V" } : Jvm.MethodName) prog_82_method_2_code (11 : Nat) (Option.none : Option Jvm.ClassFile.FieldType), Jvm.Cond.code ({ cls := "com/example/araucaria/araucaria/proto/ProtoField", name := "hasPresence", desc := "()Z" } : Jvm.MethodName) prog_82_method_5_code (1 : Nat) (Option.some Jvm.ClassFile.FieldType.boolean), Jvm.Cond.code ({ cls := "java/lang/String", name := "<init>", desc := "([C)V" } : Jvm.MethodName) jdk_42_method_3_code (2 : Nat) (Option.none : Option Jvm.ClassFile.FieldType), Jvm.Cond.code ({ cls := "java/lang/String", name := "<init>", desc := "([CIILjava/lang/Void;)V" } : Jvm.MethodName) jdk_42_method_149_code (6 : Nat) (Option.none : Option Jvm.ClassFile.FieldType), Jvm.Cond.code ({ cls := "java/util/ArrayList", name := "add", desc := "(Ljava/lang/Object;)Z" } : Jvm.MethodName) jdk_38_method_25_code (2 : Nat) (Option.some Jvm.ClassFile.FieldType.boolean), Jvm.Cond.code ({ cls := "java/util/ArrayList", name := "add", desc := "(Ljava/lang/Object;[Ljava/lang/Object;I)V" } : Jvm.MethodName) jdk_38_method_24_code (4 : Nat) (Option.none : Option Jvm.ClassFile.FieldType), Jvm.Cond.code ({ cls := "java/util/ArrayList", name := "grow", desc := "()[Ljava/lang/Object;" } : Jvm.MethodName) jdk_38_method_7_code (1 : Nat) (Option.some (Jvm.ClassFile.FieldType.array (Jvm.ClassFile.FieldType.object "java/lang/Object"))), Jvm.Cond.code ({ cls := "java/util/ArrayList", name := "grow", desc := "(I)[Ljava/lang/Object;" } : Jvm.MethodName) jdk_38_method_6_code (4 : Nat) (Option.some (Jvm.ClassFile.FieldType.array (Jvm.ClassFile.FieldType.object "java/lang/Object"))), Jvm.Cond.code ({ cls := "java/lang/Math", name := "max", desc := "(II)I" } : Jvm.MethodName) jdk_29_method_65_code (2 : Nat) (Option.some Jvm.ClassFile.FieldType.int), Jvm.Cond.code ({ cls := "java/lang/StringUTF16", name := "compress", desc := "([CII)[B" } : Jvm.MethodName) jdk_52_method_16_code (6 : Nat) (Option.some (Jvm.ClassFile.FieldType.array Jvm.ClassFile.FieldType.byte)), Jvm.Cond.code ({ cls := "java/lang/StringUTF16", name := "compress", desc := "([CI[BII)I" } : Jvm.MethodName) jdk_52_method_21_code (7 : Nat) (Option.some Jvm.ClassFile.FieldType.int), Jvm.Cond.code ({ cls := "java/lang/StringUTF16", name := "coderFromArrayLen", desc := "([BI)B" } : Jvm.MethodName) jdk_52_method_15_code (2 : Nat) (Option.some Jvm.ClassFile.FieldType.byte)]
set_option maxRecDepth 65536 in
theorem codes_eq : words1.filter isCode = codes1 := rfl
theorem w_codes : ∀ c ∈ words1.filter isCode, c.before args0 about1 = true := by
  rw [codes_eq]
  intro c hc
  simp only [codes1, List.mem_cons, List.not_mem_nil, or_false] at hc
  rcases hc with rfl | rfl | rfl | rfl | rfl | rfl | rfl | rfl | rfl | rfl | rfl | rfl | rfl | rfl | rfl | rfl | rfl | rfl | rfl | rfl | rfl | rfl | rfl
  · exact w_c0
  · exact w_c1
  · exact w_c2
  · exact w_c3
  · exact w_c4
  · exact w_c5
  · exact w_c6
  · exact w_c7
  · exact w_c8
  · exact w_c9
  · exact w_c10
  · exact w_c11
  · exact w_c12
  · exact w_c13
  · exact w_c14
  · exact w_c15
  · exact w_c16
  · exact w_c17
  · exact w_c18
  · exact w_c19
  · exact w_c20
  · exact w_c21
  · exact w_c22
set_option maxRecDepth 65536 in
theorem w_t1 : (words1.take 24).all (fun c => isCode c || c.before args0 about1) = true := by decide +kernel
set_option maxRecDepth 65536 in
theorem w_t2 : ((words1.drop 24).take 24).all (fun c => isCode c || c.before args0 about1) = true := by decide +kernel
set_option maxRecDepth 65536 in
theorem w_t3 : (((words1.drop 24).drop 24).take 24).all (fun c => isCode c || c.before args0 about1) = true := by decide +kernel
set_option maxRecDepth 65536 in
theorem w_t4 : ((((words1.drop 24).drop 24).drop 24).take 24).all (fun c => isCode c || c.before args0 about1) = true := by decide +kernel
set_option maxRecDepth 65536 in
theorem w_t5 : (((((words1.drop 24).drop 24).drop 24).drop 24).take 24).all (fun c => isCode c || c.before args0 about1) = true := by decide +kernel
set_option maxRecDepth 65536 in
theorem w_t6 : ((((((words1.drop 24).drop 24).drop 24).drop 24).drop 24).take 24).all (fun c => isCode c || c.before args0 about1) = true := by decide +kernel
set_option maxRecDepth 65536 in
theorem w_t7 : ((((((words1.drop 24).drop 24).drop 24).drop 24).drop 24).drop 24).all (fun c => isCode c || c.before args0 about1) = true := by decide +kernel
theorem w_tables : (allAtoms (Jvm.Cond.code x code maxLocals ret :: tables_1)).before args0 about1 = true := by
  rw [allAtoms_all]
  show words1.all (fun c => c.before args0 about1) = true
  refine all_split ?_ w_codes
  rw [← List.take_append_drop 24 words1, List.all_append, w_t1, ← List.take_append_drop 24 (words1.drop 24), List.all_append, w_t2, ← List.take_append_drop 24 ((words1.drop 24).drop 24), List.all_append, w_t3, ← List.take_append_drop 24 (((words1.drop 24).drop 24).drop 24), List.all_append, w_t4, ← List.take_append_drop 24 ((((words1.drop 24).drop 24).drop 24).drop 24), List.all_append, w_t5, ← List.take_append_drop 24 (((((words1.drop 24).drop 24).drop 24).drop 24).drop 24), List.all_append, w_t6, w_t7]
  rfl
set_option maxRecDepth 65536 in
theorem w_rest : rest_1_c.before args0 about1 = true := by decide +kernel
set_option maxRecDepth 65536 in
theorem w_case : (Jvm.Cond.and given_1 narrow_1).before args0 about1 = true := by decide +kernel
set_option maxRecDepth 65536 in
theorem w_consts : constsHeld consts_1 about1 := Jvm.Lit.constsHeldB_iff.mp (by decide +kernel)
theorem w_applies : (headSpec (Jvm.Cond.code x code maxLocals ret :: tables_1) room_1).applies x e0.platform about1 = true :=
  (Spec.applies_iff w_frames).mpr ⟨w_running, w_runnable, w_alone, w_named, w_hears, w_ripe, w_room, w_tables⟩
theorem atStart : AtStart classFile x code maxLocals ret World_1 tables_1 room_1 Calls_1 rest_1 Pre_1 launch0 p0 e0 about1 theMethod args0 below0 :=
  ⟨lists_1, trivial, launch0.admits_env _ _ _, launch0.least_env, fairChoices_fair.cas, fairChoices_fair.clock, w_frames, w_args, w_heap, w_applies, ⟨w_consts, trivial⟩, w_rest, w_case⟩
end start1
theorem witness_1 : WitnessClaimed_1 := ⟨start1.p0, start1.e0, start1.about1, start1.theMethod, start1.args0, start1.below0, start1.atStart⟩
end Jvm.Pilot.@@N@@
