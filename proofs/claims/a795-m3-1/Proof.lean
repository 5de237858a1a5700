import JvmDerived
import JvmDerived.Pilot.@@N@@Statement
import JvmDerived.Pilot.@@N@@Code
set_option linter.unusedVariables false
set_option linter.unusedSimpArgs false
namespace Jvm.Pilot.@@N@@
open Jvm Jvm.ClassFile Sem Op Lib Jvm.Free Jvm.Stand Jvm.LawKit Jvm.RoadKit Bundle Jvm.Pilot.@@N@@.Jvm.D
/-! short names -/
abbrev sR (a : Addr) : Slot := .val (.ref a)
abbrev sI (x : Int32) : Slot := .val (.int x)
abbrev sL (x : Int64) : Slot := .val (.long x)
abbrev sN : Slot := .val .null
abbrev sU : Slot := .unset
abbrev sS : Slot := .second
theorem ow {Z : State} {a0 : Array Value} (hw : ∀ d ∈ tables_1, d.before a0 Z = true) (i : Nat) {d : Jvm.Cond} (h : tables_1[i]? = some d) : d.before a0 Z = true := hw d (List.mem_of_getElem? h)
theorem neN {a b : Addr} (h : @Ne Nat a b) : a ≠ b := h
/-! 0. the run from a state on, said once: it ends, and how -/
def Go (p : Program) (e : Env) (below : List Frame) (s : State) (K N : Nat) (Q : Option Value → Heap → List Loc → Prop) (st : State) : Prop :=
  ∃ s₂ o, Steps p.tables e below st s₂ ∧ s₂.status = .running ∧ Ended s₂ below o ∧ ∃ v L, o = .returned v ∧ Q v s₂.heap L ∧ FrameEnd s o s₂ L K N
/-- what is known of the walk all along -/
def Ctx (p : Program) (s : State) (m : MethodId) (meth : Method) (c : Code) (Z : State) (bytes : ByteArray) (maxl : Nat) (own : String) (ret : Option FieldType) : Prop :=
  p.tables.exec = Jvm.exec ∧ Z.Warmed39 s.vm ∧ c.code = bytes ∧ c.maxLocals = maxl ∧ s.vm.findClass own = some m.cls ∧ meth.sig.returnType = ret ∧ meth.locks = false
/-- a value comes back, the heap is as it was -/
def QV (w : Value) (h0 : Heap) (n0 : Nat) (v : Option Value) (h : Heap) (L : List Loc) : Prop := v = some w ∧ Fr n0 L ∧ h = h0
section Own
variable {p : Program} {l : Launch} {e : Env} {R : Room} {s : State} {m : MethodId} {args : Array Value} {below : List Frame} {meth : Method} {c : Code} {T : State} {locs : List Loc} {cells slots K N : Nat} {Q : Option Value → Heap → List Loc → Prop} {st st' : State}
theorem Go.pre (h : ∀ t, Steps p.tables e below st' t → Steps p.tables e below st t) (k : Go p e below s K N Q st') : Go p e below s K N Q st := by
  obtain ⟨s₂, o, h1, h2⟩ := k; exact ⟨s₂, o, h _ h1, h2⟩
theorem Go.trans (h : Steps p.tables e below st st') (k : Go p e below s K N Q st') : Go p e below s K N Q st := by
  obtain ⟨s₂, o, h1, h2⟩ := k; exact ⟨s₂, o, h.trans h1, h2⟩
theorem Go.mono {Q' : Option Value → Heap → List Loc → Prop} (k : Go p e below s K N Q st) (h : ∀ v h L, Q v h L → Q' v h L) : Go p e below s K N Q' st := by
  obtain ⟨s₂, o, h1, h2, h3, v, L, h4, h5, h6⟩ := k; exact ⟨s₂, o, h1, h2, h3, v, L, h4, h _ _ _ h5, h6⟩
theorem Go.retN (X : Stand p l e R s m args below meth c T locs cells slots) (hx : p.tables.exec = Jvm.exec) (hlk : meth.locks = false) {pc : Nat} {Ls : Array Slot} {z z' : Int32} {t : FieldType} {rest : List Value} (hret : meth.sig.returnType = some t) (ht : t = .boolean ∨ t = .byte ∨ t = .char ∨ t = .short)
    (hd : decode c.code pc = .ok (.ireturn, 1)) (hz : nar t z = z') (hk : cells ≤ K) (hn : slots ≤ N) (hQ : Q (some (.int z')) T.heap locs) : Go p e below s K N Q (T.setTop (mkF m pc Ls (.int z :: rest))) := by
  subst hz
  obtain ⟨fs, hr, hrun, hended, hW, hsame⟩ := X.leave (v := some (.int (nar t z))) (fun h => by rw [hret] at h; cases h) hlk
  exact ⟨_, _, Jvm.RoadKit.retN X hx hret ht hd hr, hrun, hended, _, _, rfl, hQ, ⟨_, rfl⟩, hW, hsame.mono hk hn⟩
theorem Go.retV (X : Stand p l e R s m args below meth c T locs cells slots) (hx : p.tables.exec = Jvm.exec) (hlk : meth.locks = false) {pc : Nat} {Ls : Array Slot} {w : Value} {t : FieldType} {i : Instr} {rest : List Value} (hret : meth.sig.returnType = some t) (hnr : narrow t w = w)
    (hi : (i = .ireturn ∧ (t = .int ∨ t = .boolean ∨ t = .byte ∨ t = .char ∨ t = .short) ∧ ∃ z, w = .int z) ∨ (i = .lreturn ∧ t = .long ∧ ∃ z, w = .long z) ∨ (i = .dreturn ∧ t = .double ∧ ∃ z, w = .double z) ∨ (i = .freturn ∧ t = .float ∧ ∃ z, w = .float z) ∨ (i = .areturn ∧ t.isReference = true ∧ w.isRef = true))
    (hd : decode c.code pc = .ok (i, 1)) (hk : cells ≤ K) (hn : slots ≤ N) (hQ : Q (some w) T.heap locs) : Go p e below s K N Q (T.setTop (mkF m pc Ls (w :: rest))) := by
  obtain ⟨fs, hr, hrun, hended, hW, hsame⟩ := X.leave (v := some w) (fun h => by rw [hret] at h; cases h) hlk
  exact ⟨_, _, retOut X hx hret hnr hi hd hr, hrun, hended, _, _, rfl, hQ, ⟨_, rfl⟩, hW, hsame.mono hk hn⟩
theorem Go.ret0 (X : Stand p l e R s m args below meth c T locs cells slots) (hx : p.tables.exec = Jvm.exec) (hlk : meth.locks = false) {pc : Nat} {Ls : Array Slot} (hret : meth.sig.returnType = none)
    (hd : decode c.code pc = .ok (.return_, 1)) (hk : cells ≤ K) (hn : slots ≤ N) (hQ : Q none T.heap locs) : Go p e below s K N Q (T.setTop (mkF m pc Ls [])) := by
  obtain ⟨fs, hr, hrun, hended, hW, hsame⟩ := X.leave (v := none) (fun _ => rfl) hlk
  exact ⟨_, _, X.returnOut hx hret hd hr, hrun, hended, _, _, rfl, hQ, ⟨_, rfl⟩, hW, hsame.mono hk hn⟩
end Own

/-! walks that may intern -/
def GoW (p : Program) (e : Env) (below : List Frame) (s : State) (K N : Nat) (Q : Option Value → Vm → Heap → List Loc → Prop) (st : State) : Prop :=
  ∃ s₂ o, Steps p.tables e below st s₂ ∧ s₂.status = .running ∧ Ended s₂ below o ∧ ∃ v L, o = .returned v ∧ Q v s₂.vm s₂.heap L ∧ ReturnedEndW s o s₂ L K N
theorem retW_mono {s t : State} {o : Outcome} {L : List Loc} {k n k' n' : Nat} (h : ReturnedEndW s o t L k n) (h1 : k ≤ k') (h2 : n ≤ n') : ReturnedEndW s o t L k' n' := ⟨h.1, h.2.1, h.2.2.1, h.2.2.2.mono h1 h2⟩
theorem leH {T : State} {h : Heap} {k : Nat} (e : T.heap = h) (q : k ≤ h.size) : k ≤ T.heap.size := e ▸ q
theorem frS {s : State} {h0 : Heap} {n0 : Nat} {L : List Loc} (e : s.heap = h0) (q : n0 = h0.size) (N : Fr n0 L) : Fr s.heap.size L := by rw [e, ← q]; exact N
section OwnW
variable {p : Program} {l : Launch} {e : Env} {R : Room} {s : State} {vm0 vm1 : Vm} {m : MethodId} {args : Array Value} {below : List Frame} {meth : Method} {c : Code} {T Z : State} {locs : List Loc} {cells slots K N k0 : Nat} {Q : Option Value → Vm → Heap → List Loc → Prop} {st st' : State} {Ts : List String} {h : Heap} {a0 : Array Value}
theorem GoW.pre (h : ∀ t, Steps p.tables e below st' t → Steps p.tables e below st t) (k : GoW p e below s K N Q st') : GoW p e below s K N Q st := by
  obtain ⟨s₂, o, h1, h2⟩ := k; exact ⟨s₂, o, h _ h1, h2⟩
theorem GoW.trans (h : Steps p.tables e below st st') (k : GoW p e below s K N Q st') : GoW p e below s K N Q st := by
  obtain ⟨s₂, o, h1, h2⟩ := k; exact ⟨s₂, o, h.trans h1, h2⟩
theorem GoW.retN (X : Stand p l e R (s.setVm vm0) m args below meth c T locs cells slots) (hS : s.Since vm0 k0) (hk0 : k0 ≤ T.heap.size) (hx : p.tables.exec = Jvm.exec) (hlk : meth.locks = false) {pc : Nat} {Ls : Array Slot} {z z' : Int32} {t : FieldType} {rest : List Value} (hret : meth.sig.returnType = some t) (ht : t = .boolean ∨ t = .byte ∨ t = .char ∨ t = .short)
    (hd : decode c.code pc = .ok (.ireturn, 1)) (hz : nar t z = z') (hk : cells ≤ K) (hn : slots ≤ N) (hQ : Q (some (.int z')) T.vm T.heap locs) : GoW p e below s K N Q (T.setTop (mkF m pc Ls (.int z :: rest))) := by
  subst hz
  obtain ⟨fs, hr, hrun, hended, hE⟩ := X.leaveW hS hk0 (v := some (.int (nar t z))) (fun h => by rw [hret] at h; cases h) hlk
  exact ⟨_, _, Jvm.RoadKit.retN X hx hret ht hd hr, hrun, hended, _, _, rfl, hQ, retW_mono hE hk hn⟩
theorem GoW.retV (X : Stand p l e R (s.setVm vm0) m args below meth c T locs cells slots) (hS : s.Since vm0 k0) (hk0 : k0 ≤ T.heap.size) (hx : p.tables.exec = Jvm.exec) (hlk : meth.locks = false) {pc : Nat} {Ls : Array Slot} {w : Value} {t : FieldType} {i : Instr} {rest : List Value} (hret : meth.sig.returnType = some t) (hnr : narrow t w = w)
    (hi : (i = .ireturn ∧ (t = .int ∨ t = .boolean ∨ t = .byte ∨ t = .char ∨ t = .short) ∧ ∃ z, w = .int z) ∨ (i = .lreturn ∧ t = .long ∧ ∃ z, w = .long z) ∨ (i = .dreturn ∧ t = .double ∧ ∃ z, w = .double z) ∨ (i = .freturn ∧ t = .float ∧ ∃ z, w = .float z) ∨ (i = .areturn ∧ t.isReference = true ∧ w.isRef = true))
    (hd : decode c.code pc = .ok (i, 1)) (hk : cells ≤ K) (hn : slots ≤ N) (hQ : Q (some w) T.vm T.heap locs) : GoW p e below s K N Q (T.setTop (mkF m pc Ls (w :: rest))) := by
  obtain ⟨fs, hr, hrun, hended, hE⟩ := X.leaveW hS hk0 (v := some w) (fun h => by rw [hret] at h; cases h) hlk
  exact ⟨_, _, retOut X hx hret hnr hi hd hr, hrun, hended, _, _, rfl, hQ, retW_mono hE hk hn⟩
theorem GoW.ret0 (X : Stand p l e R (s.setVm vm0) m args below meth c T locs cells slots) (hS : s.Since vm0 k0) (hk0 : k0 ≤ T.heap.size) (hx : p.tables.exec = Jvm.exec) (hlk : meth.locks = false) {pc : Nat} {Ls : Array Slot} (hret : meth.sig.returnType = none)
    (hd : decode c.code pc = .ok (.return_, 1)) (hk : cells ≤ K) (hn : slots ≤ N) (hQ : Q none T.vm T.heap locs) : GoW p e below s K N Q (T.setTop (mkF m pc Ls [])) := by
  obtain ⟨fs, hr, hrun, hended, hE⟩ := X.leaveW hS hk0 (v := none) (fun _ => rfl) hlk
  exact ⟨_, _, X.returnOut hx hret hd hr, hrun, hended, _, _, rfl, hQ, retW_mono hE hk hn⟩
theorem IB.at (X : Stand p l e R (s.setVm vm0) m args below meth c T locs cells slots) (I : IB Z vm0 Ts) : IB Z T.vm Ts := by
  obtain ⟨more, e1, h1⟩ := I; exact ⟨more, X.warmed.interned_eq.trans e1, h1⟩
theorem IB.mv (I : IB Z vm0 Ts) (hvm : (s.setVm vm0).WarmedH vm1) : IB Z vm1 Ts := by
  obtain ⟨more, e1, h1⟩ := I; exact ⟨more, hvm.interned_eq.trans e1, h1⟩
theorem IB.sup {Ts' : List String} (I : IB Z vm0 Ts) (h : ∀ t ∈ Ts, t ∈ Ts') : IB Z vm0 Ts' := by
  obtain ⟨more, e1, h1⟩ := I; exact ⟨more, e1, fun q hq => by obtain ⟨t, ht, hd⟩ := h1 q hq; exact ⟨t, h t ht, hd⟩⟩
theorem backOfSI {y : MethodName} {bytes : ByteArray} {maxL : Nat} {ret : Option FieldType} {rm : Room} {len W : Nat} {as' : Array Value}
    (hM : MetFree l y (head1 [Cond.code y bytes maxL ret] rm) (fun a U => a = as' ∧ Z.Warmed39 U.vm ∧ U.heap = h ∧ IB Z U.vm Ts) (fun _ _ _ _ _ => True) (fun _ U o U' => ∃ v L, o = .returned v ∧ Q v U'.vm U'.heap L ∧ ReturnedEndW U o U' L rm.cells rm.slots))
    (hZ : Z.Warmed39 s.vm) (wc : (Cond.code y bytes maxL ret).before a0 Z = true) (wz : (Cond.initialized y.cls).before a0 Z = true) (hf : rm.frames + 1 ≤ R.frames) (hl : W + (maxL + 11) + rm.locals ≤ R.locals) :
    BackS l R p e below s args y len W (fun A a => a = as' ∧ A.U.heap = h ∧ A.cells + rm.cells ≤ R.cells ∧ A.slots + rm.slots ≤ R.slots ∧ IB Z A.U.vm Ts)
      (fun A _ v B => ∃ L, Q v B.U.vm B.U.heap L ∧ B.locs = A.locs ++ L ∧ B.cells = A.cells + rm.cells ∧ B.slots = A.slots + rm.slots) := by
  refine BackS.of_freeW (bytes := bytes) (maxL := maxL) (ret := ret) (E := fun _ _ o t L k n => k = rm.cells ∧ n = rm.slots ∧ ∃ v, o = .returned v ∧ Q v t.vm t.heap L) hM hf hl ?_ ?_ (fun _ _ _ _ _ _ _ _ _ => trivial) ?_ ?_
  · intro m meth c A a Y hp
    have hU : Z.Warmed39 A.U.vm := wtrans hZ Y.warmed
    refine ⟨?_, mv hU wc, mv hU wz, hp.2.2.1, hp.2.2.2.1⟩
    show (Cond.and _ .tt).before a A.U = true
    rw [Cond.before_and, mv hU wc]; rfl
  · intro m meth c A a g mk Y hp
    exact ⟨hp.1, wtrans hZ Y.warmed, hp.2.1, hp.2.2.2.2⟩
  · rintro _ _ _ _ ⟨v, L, h1, h2, h3⟩
    exact ⟨L, _, _, h3, rfl, rfl, v, h1, h2⟩
  · rintro m meth c A a g mk v t L k n Y hp _ _ ⟨e1, e2, v', e3, e4⟩
    cases e3; subst e1 e2
    exact ⟨L, e4, rfl, rfl, rfl⟩
end OwnW

/-! more of the kit's kind -/
/-- every field keeps what it held, but for the places in ps -/
def KF (Z : State) (h0 h : Heap) (ps : List (Addr × Nat)) : Prop := ∀ (b : Addr) (O n d : String) (w : Value), Fld Z h0 b O n d w → (∀ p ∈ ps, b ≠ p.1 ∨ Jvm.RoadKit.slotOf Z O n d ≠ p.2) → Fld Z h b O n d w
theorem KF.refl (Z : State) (h0 : Heap) (ps : List (Addr × Nat)) : KF Z h0 h0 ps := fun _ _ _ _ _ F _ => F
theorem KF.ext {Z : State} {h0 h h' : Heap} {ps : List (Addr × Nat)} (K : KF Z h0 h ps) (E : Ext h h') : KF Z h0 h' ps := fun b O n d w F q => (K b O n d w F q).ext E
theorem KF.wr {Z : State} {h0 h h' : Heap} {ps : List (Addr × Nat)} {a : Addr} {sl : Nat} {v : Value} (K : KF Z h0 h ps) (W : Wr h h' a sl v) (q : (a, sl) ∈ ps ∨ h0.size ≤ a) : KF Z h0 h' ps := fun b O n d w F r => by
  refine (K b O n d w F r).other W ?_
  rcases q with q | q
  · exact r _ q
  · exact Or.inl (Nat.ne_of_lt (Nat.lt_of_lt_of_le F.lt q))
theorem KF.trans {Z : State} {h0 h h' : Heap} {ps ps' : List (Addr × Nat)} (K : KF Z h0 h ps) (K' : KF Z h h' ps') (q : ∀ p ∈ ps', p ∈ ps ∨ h0.size ≤ p.1) : KF Z h0 h' ps := fun b O n d w F r => by
  refine K' b O n d w (K b O n d w F r) fun p hp => ?_
  rcases q p hp with q | q
  · exact r _ q
  · exact Or.inl (Nat.ne_of_lt (Nat.lt_of_lt_of_le F.lt q))
theorem pall0 {P : Addr × Nat → Prop} : ∀ x ∈ ([] : List (Addr × Nat)), P x := fun _ q => nomatch q
theorem pallS {P : Addr × Nat → Prop} {y : Addr × Nat} {L : List (Addr × Nat)} (q : P y) (r : ∀ x ∈ L, P x) : ∀ x ∈ y :: L, P x := fun x z => (List.mem_cons.mp z).elim (fun u => u ▸ q) (r x)
theorem padS {p : Program} {l : Launch} {e : Env} {R : Room} {s : State} {m : MethodId} {args : Array Value} {below : List Frame} {meth : Method} {c : Code} {T : State} {locs : List Loc} {k n k' n' : Nat} (X : Stand p l e R s m args below meth c T locs k n) (h1 : k ≤ k') (h2 : n ≤ n') : Stand p l e R s m args below meth c T locs k' n' :=
  ⟨X.admits, X.cas, X.clock, X.frames, X.room, X.hears, X.method, X.code, X.here, X.tail, X.warmed, X.limits, X.bytes, X.same.mono h1 h2⟩
theorem and11 (x : Int32) : nar .boolean (x &&& 1) = x &&& 1 := by
  show x &&& 1 &&& 1 = x &&& 1
  rw [Int32.and_assoc]; rfl
theorem fits_and1 (x : Int32) : fits .boolean (.int (x &&& 1)) = true := fits_nar_bool x
theorem narV {C : String} {v : Value} (h : v.isRef = true) : narrow (.object C) v = v := by rcases ref_cases h with rfl | ⟨a, rfl⟩ <;> rfl
theorem fitV {C : String} {v : Value} (h : v.isRef = true) : fits (.object C) v = true := by rcases ref_cases h with rfl | ⟨a, rfl⟩ <;> rfl

/-! arrays whose places are known by a function -/
def Arf (Z : State) (h : Heap) (a : Addr) (k : ClassId) (ty : FieldType) (n : Int32) (f : Int32 → Value) : Prop := ∃ c : Cell, Arr Z h a c ty ∧ c.cls = k ∧ c.slots.size = n.toNatClampNeg ∧ ¬ n < 0 ∧ ∀ j : Int32, ¬ (j < 0 ∨ c.slots.size ≤ j.toNatClampNeg) → c.slots[j.toNatClampNeg]? = some (f j) ∧ fits ty (f j) = true
def own_upd {α : Type} (f : Int32 → α) (j : Int32) (v : α) (x : Int32) : α := if x = j then v else f x
def LF (f : Int32 → Int64) (x : Int32) : Value := .long (f x)
def Stb (Z : State) (h : Heap) (v : Value) : Prop := v = .null ∨ ∃ y, v = .ref y ∧ Exa Z h y "java/lang/String"
section Arf
variable {Z : State} {h h' : Heap} {a b : Addr} {k : ClassId} {ty : FieldType} {n j : Int32} {f : Int32 → Value} {v w : Value} {sl : Nat} {ws : List Addr}
theorem Arf.lt (F : Arf Z h a k ty n f) : a < h.size := by obtain ⟨c, A, -⟩ := F; exact A.lt
theorem Arf.ext (F : Arf Z h a k ty n f) (E : Ext h h') : Arf Z h' a k ty n f := by obtain ⟨c, A, r⟩ := F; exact ⟨c, A.ext E, r⟩
theorem Arf.other (F : Arf Z h b k ty n f) (W : Wr h h' a sl v) (q : b ≠ a) : Arf Z h' b k ty n f := by obtain ⟨c, A, r⟩ := F; exact ⟨c, A.other W q, r⟩
theorem Arf.keep (F : Arf Z h a k ty n f) (K : Keep h h' ws) (q : a ∉ ws) : Arf Z h' a k ty n f := by obtain ⟨c, A, r⟩ := F; exact ⟨c, ⟨K.2.1 a c A.1 q, A.2⟩, r⟩
theorem Arf.of_arv {d : Value} (F : Arv Z h a k ty n [] d) : Arf Z h a k ty n (fun _ => d) := by
  obtain ⟨c, A, q1, q2, q3, H, G⟩ := F
  refine ⟨c, A, q1, q2, q3, fun j hj => ?_⟩
  have hl : j.toNatClampNeg < c.slots.size := Nat.lt_of_not_le fun q => hj (Or.inr q)
  exact ⟨H _ hl, G _ hl⟩
theorem Arf.set {c : Cell} (A : Arr Z h a c ty) (q1 : c.cls = k) (S : c.slots.size = n.toNatClampNeg) (q3 : ¬ n < 0) (H : ∀ j : Int32, ¬ (j < 0 ∨ c.slots.size ≤ j.toNatClampNeg) → c.slots[j.toNatClampNeg]? = some (f j) ∧ fits ty (f j) = true)
    (hv : fits ty v = true) (hj : ¬ (j < 0 ∨ c.slots.size ≤ j.toNatClampNeg)) (W : Wr h h' a j.toNatClampNeg v) : Arf Z h' a k ty n (own_upd f j v) := by
  refine ⟨_, A.same W, q1, by rw [sz_set]; exact S, q3, fun x hx => ?_⟩
  rw [sz_set] at hx
  unfold own_upd
  by_cases e : x = j
  · rw [if_pos e]; exact ⟨get_hit hj e, hv⟩
  · rw [if_neg e, get_miss (fun q => hj (Or.inl q)) (fun q => hx (Or.inl q)) e]; exact H x hx
theorem Arf.eq {g : Int32 → Value} (F : Arf Z h a k ty n f) (e : f = g) : Arf Z h a k ty n g := e ▸ F
theorem LF_upd (f : Int32 → Int64) (j : Int32) (x : Int64) : own_upd (LF f) j (.long x) = LF (own_upd f j x) := by
  funext y
  show (if y = j then Value.long x else Value.long (f y)) = Value.long (if y = j then x else f y)
  split <;> rfl
theorem LF_const (x : Int64) : (fun _ : Int32 => Value.long x) = LF (fun _ => x) := rfl
theorem Stb.ext (F : Stb Z h v) (E : Ext h h') : Stb Z h' v := F.elim Or.inl fun ⟨y, q, e⟩ => Or.inr ⟨y, q, e.ext E⟩
theorem Stb.wr (F : Stb Z h v) (W : Wr h h' a sl w) : Stb Z h' v := F.elim Or.inl fun ⟨y, q, e⟩ => Or.inr ⟨y, q, e.wr W⟩
theorem Stb.keep (F : Stb Z h v) (K : Keep h h' ws) : Stb Z h' v := F.elim Or.inl fun ⟨y, q, e⟩ => Or.inr ⟨y, q, e.keep K⟩
theorem Stb.ref (F : Stb Z h v) : v.isRef = true := by rcases F with rfl | ⟨y, rfl, -⟩ <;> rfl
theorem Stb.sto {c : Cell} (F : Stb Z h v) (A : Arr Z h a c ty) (q : c.cls = k) (O : Ovr Z k "java/lang/String") : Sto Z h a v := by
  rcases F with rfl | ⟨y, rfl, e⟩
  · exact Or.inl rfl
  · exact Sto.ofV A q O (Ins.self e)
theorem storeV {l l' : Array Slot} {i : Nat} {o : Slot} {v : Value} (hv : v.isRef = true) (h1 : l[i]? = some o) (h2 : l.setIfInBounds i (.val v) = l') (ho : o = .unset ∨ ∃ w, o = .val w ∧ w.category = 1) : storeLocals l i v = some l' := by
  subst h2
  exact XS.store1 h1 ho (by rcases ref_cases hv with rfl | ⟨a, rfl⟩ <;> rfl)
theorem own_hit {α : Type} (f : Int32 → α) (j : Int32) (v : α) : own_upd f j v j = v := if_pos rfl
theorem own_at {α : Type} {f : Int32 → α} {j x : Int32} {v : α} (e : x = j) : own_upd f j v x = v := if_pos e
theorem own_miss {α : Type} {f : Int32 → α} {j x : Int32} {v w : α} (e : ¬ x = j) (h : f x = w) : own_upd f j v x = w := (if_neg e).trans h
theorem own_or {α : Type} {f : Int32 → α} {j x : Int32} {v : α} (h : f x = v) : own_upd f j v x = v := by
  unfold own_upd; split
  · rfl
  · exact h
end Arf

theorem own_wS {Z : State} {a0 : Array Value} (hw : ∀ d ∈ tables_1, d.before a0 Z = true) : ∀ a ∈ Bundle.stringAtoms, a.before a0 Z = true := by
  intro a ha
  simp only [Bundle.stringAtoms, Bundle.sN, List.mem_cons, List.not_mem_nil, or_false] at ha
  rcases ha with rfl | rfl | rfl | rfl | rfl | rfl | rfl
  · exact (ow hw 1 rfl)
  · exact (ow hw 2 rfl)
  · exact (ow hw 3 rfl)
  · exact (ow hw 4 rfl)
  · exact (ow hw 5 rfl)
  · exact (ow hw 6 rfl)
  · exact (ow hw 7 rfl)
theorem own_i2c (x : Int32) (h : 0 ≤ x.toInt ∧ x.toInt ≤ 65535) : x.toUInt32.toUInt16.toUInt32.toInt32.toInt = x.toInt := by
  have := c_i2c x
  omega
theorem own_m255 (x : Int32) : 0 ≤ (x &&& (255 : Int32)).toInt ∧ (x &&& (255 : Int32)).toInt ≤ 255 := by
  have h := c_and x (255 : Int32) (by decide)
  have e : (255 : Int32).toInt = 255 := by decide
  omega
theorem own_c255 (x : Int32) : ¬ (255 : Int32) < ((x &&& (255 : Int32)).toUInt32.toUInt16.toUInt32.toInt32) := by
  have h := own_m255 x
  have h2 := own_i2c (x &&& (255 : Int32)) ⟨h.1, by omega⟩
  rw [Int32.lt_iff_toInt_lt, h2]
  have e : (255 : Int32).toInt = 255 := by decide
  omega
theorem own_c255n (x : Int32) : ¬ (255 : Int32) < nar .char ((x &&& (255 : Int32)).toUInt32.toUInt16.toUInt32.toInt32) := by
  have h := own_m255 x
  have h2 := own_i2c (x &&& (255 : Int32)) ⟨h.1, by omega⟩
  have h3 := own_i2c ((x &&& (255 : Int32)).toUInt32.toUInt16.toUInt32.toInt32) (by rw [h2]; omega)
  rw [Int32.lt_iff_toInt_lt]
  show ¬ _ < (((x &&& (255 : Int32)).toUInt32.toUInt16.toUInt32.toInt32).toUInt32.toUInt16.toUInt32.toInt32).toInt
  rw [h3, h2]
  have e : (255 : Int32).toInt = 255 := by decide
  omega
def own_maxL (x y : Int64) : Int64 := if x < y then y else x
def own_minI (x y : Int32) : Int32 := if y < x then y else x
theorem own_max1 (y : Int64) : ¬ own_maxL (1 : Int64) y < (1 : Int64) := by
  unfold own_maxL
  split
  · rename_i h; exact Int64.not_lt.mpr (Int64.le_of_lt h)
  · decide
theorem own_succ (x : Int64) (h : ¬ x < (1 : Int64)) (n : ¬ x = (9223372036854775807 : Int64)) : ¬ (x + (1 : Int64)) < (1 : Int64) := by
  rw [Int64.lt_iff_toInt_lt] at h ⊢
  have n2 : x.toInt ≠ (9223372036854775807 : Int64).toInt := fun q => n (Int64.toInt_inj.mp q)
  have e1 : (1 : Int64).toInt = 1 := by decide
  have e2 : (9223372036854775807 : Int64).toInt = 9223372036854775807 := by decide
  have hlt : x.toInt < 9223372036854775808 := Int64.toInt_lt x
  rw [Int64.toInt_add, e1, Int.bmod_def]
  split <;> omega
theorem own_inb (x : Int32) : ¬ ((x &&& (1023 : Int32)) < 0 ∨ (1024 : Int32).toNatClampNeg ≤ (x &&& (1023 : Int32)).toNatClampNeg) := by
  have h := c_and x (1023 : Int32) (by decide)
  have e : (1023 : Int32).toInt = 1023 := by decide
  have e2 : (1024 : Int32).toNatClampNeg = 1024 := by decide
  have e0 : (0 : Int32).toInt = 0 := by decide
  rw [e2, Int32.lt_iff_toInt_lt, e0]
  simp only [Int32.toNatClampNeg]
  omega
/-! StringLatin1.canEncode (21) -/
theorem d21_0 : decode jdk_43_method_3_code 0 = .ok (.iload_n 0, 1) := by decide +kernel
theorem d21_1 : decode jdk_43_method_3_code 1 = .ok (.sipush 255, 3) := by decide +kernel
theorem d21_4 : decode jdk_43_method_3_code 4 = .ok (.if_icmp .gt 7, 3) := by decide +kernel
theorem d21_7 : decode jdk_43_method_3_code 7 = .ok (.iconst 1, 1) := by decide +kernel
theorem d21_8 : decode jdk_43_method_3_code 8 = .ok (.goto 4, 3) := by decide +kernel
theorem d21_12 : decode jdk_43_method_3_code 12 = .ok (.ireturn, 1) := by decide +kernel
theorem pn_21 : plainName "java/lang/StringLatin1" = true := by first | (simp [plainName, overriddenIn]; done) | decide +kernel
theorem ef_21 (m : MethodId) (p0 : Int32) : entryFrame m #[(.int p0)] 1 = (mkF m 0 #[.val (.int p0)] []) := by first | (simp [entryFrame, mkF, argsToLocals, Value.category]; done) | rfl
def Q21 (Z : State) (p0 : Int32) (h0 : Heap) (n0 : Nat) (v : Option Value) (h : Heap) (L : List Loc) : Prop := v = some (.int (1 : Int32)) ∧ Fr n0 L ∧ h = h0
set_option maxRecDepth 65536 in
set_option maxHeartbeats 40000000 in
theorem rm21 (l : Launch) (Z : State) (a0 : Array Value) (hw : ∀ d ∈ tables_1, d.before a0 Z = true) (ws : List Jvm.Cond) (p0 : Int32) (h0 : Heap) (n0 : Nat) (Z0 : n0 ≤ h0.size) (hc4 : ¬ ((255 : Int32) < p0)) :
    MetFree l (⟨"java/lang/StringLatin1", "canEncode", "(C)Z"⟩ : MethodName) (head1 (Jvm.Cond.code (⟨"java/lang/StringLatin1", "canEncode", "(C)Z"⟩ : MethodName) jdk_43_method_3_code 1 (some .boolean) :: ws) ({ frames := 0, cells := 0, slots := 0, locals := 0 } : Room)) (fun a U => a = #[(.int p0)] ∧ Z.Warmed39 U.vm ∧ U.heap = h0) (fun _ _ _ _ _ => True) (fun _ U o U' => ∃ v L, o = .returned v ∧ Q21 Z p0 h0 n0 v U'.heap L ∧ FrameEnd U o U' L ({ frames := 0, cells := 0, slots := 0, locals := 0 } : Room).cells ({ frames := 0, cells := 0, slots := 0, locals := 0 } : Room).slots) := by
  refine MetFree.of_bodySF (plainFor_of_name pn_21) hisR ?_
  intro p e s m args below meth c s₁ Bd hml0 hP hK
  obtain ⟨rfl, hZ, hh⟩ := hP
  have hx := Bd.exec
  have hby := Bd.bytes
  have hml : c.maxLocals = 1 := hml0
  have hown : s.vm.findClass "java/lang/StringLatin1" = some m.cls := findClass_of_methodNamed Bd.named
  have hnm := (name_of_methodNamed Bd.named Bd.method).1
  have hrt := Bd.returns
  have hlk := Bd.notSynchronized
  have X0 : Stand p l e ({ frames := 0, cells := 0, slots := 0, locals := 0 } : Room) s m #[(.int p0)] below meth c s₁ [] 0 0 := Stand.of_body Bd
  have e0 : s₁.heap = h0 := by rw [← hh, Bd.state]; rfl
  have N0 := Fr.nil n0
  show Go p e below s 0 0 (Q21 Z p0 h0 n0) (s₁.setTop (entryFrame m #[(.int p0)] 1))
  rw [ef_21 m p0]
  refine Go.pre (st' := s₁.setTop (mkF m 12 #[sI p0] [(.int (1 : Int32))])) (fun target kt => ?_) ?_
  · show Steps p.tables e below (s₁.setTop (mkF m 0 #[sI p0] [])) _
    refine XS.iloadN X0.here hx rfl (hb hby d21_0) rfl ?_
    refine XS.sipush X0.here hx rfl (hb hby d21_1) ?_
    refine XS.icmpNo X0.here hx rfl (hb hby d21_4) rfl (flt hc4).2.2.1 ?_
    refine XS.iconst X0.here hx rfl (hb hby d21_7) ?_
    refine XS.goto X0.here hx rfl (pc0 := 8) (pc' := 12) rfl (hb hby d21_8) (by decide) (by decide) ?_
    exact kt
  exact Go.retN X0 hx hlk hrt (z' := (1 : Int32)) (by simp) (hb hby d21_12) rfl (by decide) (by decide) (by rw [e0]; exact ⟨rfl, N0, rfl⟩)
/-! StringLatin1.toBytes (22) -/
theorem d22_0 : decode jdk_43_method_46_code 0 = .ok (.iconst 1, 1) := by decide +kernel
theorem d22_1 : decode jdk_43_method_46_code 1 = .ok (.newarray .byte, 2) := by decide +kernel
theorem d22_3 : decode jdk_43_method_46_code 3 = .ok (.dup, 1) := by decide +kernel
theorem d22_4 : decode jdk_43_method_46_code 4 = .ok (.iconst 0, 1) := by decide +kernel
theorem d22_5 : decode jdk_43_method_46_code 5 = .ok (.iload_n 0, 1) := by decide +kernel
theorem d22_6 : decode jdk_43_method_46_code 6 = .ok (.i2b, 1) := by decide +kernel
theorem d22_7 : decode jdk_43_method_46_code 7 = .ok (.bastore, 1) := by decide +kernel
theorem d22_8 : decode jdk_43_method_46_code 8 = .ok (.areturn, 1) := by decide +kernel
theorem pn_22 : plainName "java/lang/StringLatin1" = true := by first | (simp [plainName, overriddenIn]; done) | decide +kernel
theorem ef_22 (m : MethodId) (p0 : Int32) : entryFrame m #[(.int p0)] 1 = (mkF m 0 #[.val (.int p0)] []) := by first | (simp [entryFrame, mkF, argsToLocals, Value.category]; done) | rfl
def Q22 (Z : State) (p0 : Int32) (h0 : Heap) (n0 : Nat) (v : Option Value) (h : Heap) (L : List Loc) : Prop := ∃ b1 : Addr, ∃ k1 : ClassId, v = some (.ref b1) ∧ Fr n0 L ∧ Keep h0 h [] ∧ KF Z h0 h [] ∧ LE.le (α := Nat) h0.size b1 ∧ LT.lt (α := Nat) b1 h.size ∧ Arv Z h b1 k1 .byte (1 : Int32) [(.int (nar .byte (p0.toInt8.toInt32)))] (.int (0 : Int32))
set_option maxRecDepth 65536 in
set_option maxHeartbeats 40000000 in
theorem rm22 (l : Launch) (Z : State) (a0 : Array Value) (hw : ∀ d ∈ tables_1, d.before a0 Z = true) (ws : List Jvm.Cond) (p0 : Int32) (h0 : Heap) (n0 : Nat) (Z0 : n0 ≤ h0.size) :
    MetFree l (⟨"java/lang/StringLatin1", "toBytes", "(C)[B"⟩ : MethodName) (head1 (Jvm.Cond.code (⟨"java/lang/StringLatin1", "toBytes", "(C)[B"⟩ : MethodName) jdk_43_method_46_code 1 (some (.array .byte)) :: ws) ({ frames := 0, cells := 1, slots := 1, locals := 0 } : Room)) (fun a U => a = #[(.int p0)] ∧ Z.Warmed39 U.vm ∧ U.heap = h0) (fun _ _ _ _ _ => True) (fun _ U o U' => ∃ v L, o = .returned v ∧ Q22 Z p0 h0 n0 v U'.heap L ∧ FrameEnd U o U' L ({ frames := 0, cells := 1, slots := 1, locals := 0 } : Room).cells ({ frames := 0, cells := 1, slots := 1, locals := 0 } : Room).slots) := by
  refine MetFree.of_bodySF (plainFor_of_name pn_22) hisR ?_
  intro p e s m args below meth c s₁ Bd hml0 hP hK
  obtain ⟨rfl, hZ, hh⟩ := hP
  have hx := Bd.exec
  have hby := Bd.bytes
  have hml : c.maxLocals = 1 := hml0
  have hown : s.vm.findClass "java/lang/StringLatin1" = some m.cls := findClass_of_methodNamed Bd.named
  have hnm := (name_of_methodNamed Bd.named Bd.method).1
  have hrt := Bd.returns
  have hlk := Bd.notSynchronized
  have X0 : Stand p l e ({ frames := 0, cells := 1, slots := 1, locals := 0 } : Room) s m #[(.int p0)] below meth c s₁ [] 0 0 := Stand.of_body Bd
  have e0 : s₁.heap = h0 := by rw [← hh, Bd.state]; rfl
  have N0 := Fr.nil n0
  show Go p e below s 1 1 (Q22 Z p0 h0 n0) (s₁.setTop (entryFrame m #[(.int p0)] 1))
  rw [ef_22 m p0]
  refine Go.pre (st' := s₁.setTop (mkF m 1 #[sI p0] [(.int (1 : Int32))])) (fun target kt => ?_) ?_
  · show Steps p.tables e below (s₁.setTop (mkF m 0 #[sI p0] [])) _
    refine XS.iconst X0.here hx rfl (hb hby d22_0) ?_
    exact kt
  obtain ⟨T1, h1, k1, X1, e1, E1, A1, st1⟩ := newP X0 hx hZ (ow hw 3 rfl) e0 (g := (mkF m 1 #[sI p0] [(.int (1 : Int32))])) rfl (hb hby d22_1) rfl (by decide) (cap := 1) (by decide) (by decide) (by decide) (by decide)
  obtain ⟨b1, g1⟩ : ∃ z, z = h0.size := ⟨_, rfl⟩
  rw [← g1] at A1 st1
  have sz1 : h0.size ≤ h1.size := E1.1
  have V1 : Arv Z h1 b1 k1 .byte (1 : Int32) [(.int (0 : Int32))] (.int (0 : Int32)) := (Arv.new A1 (by decide)).pad (pad_rep [] (.int (0 : Int32)) 1)
  have lt1 : b1 < h1.size := V1.lt
  refine Go.pre st1 ?_
  show Go p e below s _ _ _ (T1.setTop (mkF m 3 #[sI p0] [(.ref b1)]))
  refine Go.pre (st' := T1.setTop (mkF m 7 #[sI p0] [(.int (p0.toInt8.toInt32)), (.int (0 : Int32)), (.ref b1), (.ref b1)])) (fun target kt => ?_) ?_
  · show Steps p.tables e below (T1.setTop (mkF m 3 #[sI p0] [(.ref b1)])) _
    refine XS.dup X1.here hx rfl (hb hby d22_3) rfl rfl ?_
    refine XS.iconst X1.here hx rfl (hb hby d22_4) ?_
    refine XS.iloadN X1.here hx rfl (hb hby d22_5) rfl ?_
    refine XS.i2b X1.here hx rfl (hb hby d22_6) rfl ?_
    exact kt
  obtain ⟨cl2, Ar2, q2, Sz2, Nn2, Hs2, Gs2⟩ := id V1
  have in2 := inb_of (j := (0 : Int32)) Sz2 ⟨by decide, by decide⟩
  obtain ⟨T2, h2, X2, e2, W2, st2⟩ := stB X1 hx hZ e1 Ar2 (j := (0 : Int32)) in2 (g := (mkF m 7 #[sI p0] [(.int (p0.toInt8.toInt32)), (.int (0 : Int32)), (.ref b1), (.ref b1)])) rfl rfl (hb hby d22_7)
  have sz2 : h1.size ≤ h2.size := (Keep.of_wr W2).1
  have V2 : Arv Z h2 b1 k1 .byte (1 : Int32) [(.int (nar .byte (p0.toInt8.toInt32)))] (.int (0 : Int32)) := Arv.set Ar2 q2 Sz2 Nn2 Hs2 Gs2 (fits_nar_byte _) W2 0 rfl (Nat.le_of_ble_eq_true rfl)
  have N2 := Fr.snoc X2 N0 (by omega)
  refine Go.pre st2 ?_
  show Go p e below s _ _ _ (T2.setTop (mkF m 8 #[sI p0] [(.ref b1)]))
  exact Go.retV X2 hx hlk hrt rfl (Or.inr (Or.inr (Or.inr (Or.inr ⟨rfl, rfl, rfl⟩)))) (hb hby d22_8) (by decide) (by decide) (by rw [e2]; exact ⟨b1, k1, rfl, N2, (((Keep.refl h0 []).ext E1).wr W2 (Or.inr (by omega))), (((KF.refl Z h0 []).ext E1).wr W2 (Or.inr (by show _ ≤ b1; omega))), by omega, by omega, V2⟩)
/-! String.<init> (23) -/
theorem d23_0 : decode jdk_42_method_151_code 0 = .ok (.aload_n 0, 1) := by decide +kernel
theorem d23_1 : decode jdk_42_method_151_code 1 = .ok (.invokespecial 1, 3) := by decide +kernel
theorem d23_4 : decode jdk_42_method_151_code 4 = .ok (.aload_n 0, 1) := by decide +kernel
theorem d23_5 : decode jdk_42_method_151_code 5 = .ok (.aload_n 1, 1) := by decide +kernel
theorem d23_6 : decode jdk_42_method_151_code 6 = .ok (.putfield 9, 3) := by decide +kernel
theorem d23_9 : decode jdk_42_method_151_code 9 = .ok (.aload_n 0, 1) := by decide +kernel
theorem d23_10 : decode jdk_42_method_151_code 10 = .ok (.iload_n 2, 1) := by decide +kernel
theorem d23_11 : decode jdk_42_method_151_code 11 = .ok (.putfield 15, 3) := by decide +kernel
theorem d23_14 : decode jdk_42_method_151_code 14 = .ok (.return_, 1) := by decide +kernel
theorem pn_23 : plainName "java/lang/String" = true := by first | (simp [plainName, overriddenIn]; done) | decide +kernel
theorem ef_23 (m : MethodId) (o0 : Addr) (o1 : Addr) (p2 : Int32) : entryFrame m #[(.ref o0), (.ref o1), (.int p2)] 3 = (mkF m 0 #[.val (.ref o0), .val (.ref o1), .val (.int p2)] []) := by first | (simp [entryFrame, mkF, argsToLocals, Value.category]; done) | rfl
def Q23 (Z : State) (o0 : Addr) (o1 : Addr) (p2 : Int32) (u2 : Value) (u5 : Value) (h0 : Heap) (n0 : Nat) (v : Option Value) (h : Heap) (L : List Loc) : Prop := v = none ∧ Fr n0 L ∧ Keep h0 h [o0] ∧ KF Z h0 h [(o0, Jvm.RoadKit.slotOf Z "java/lang/String" "value" "[B"), (o0, Jvm.RoadKit.slotOf Z "java/lang/String" "coder" "B")] ∧ Fld Z h o0 "java/lang/String" "value" "[B" (.ref o1) ∧ Fld Z h o0 "java/lang/String" "coder" "B" (.int (nar .byte p2))
set_option maxRecDepth 65536 in
set_option maxHeartbeats 40000000 in
theorem rm23 (l : Launch) (Z : State) (a0 : Array Value) (hw : ∀ d ∈ tables_1, d.before a0 Z = true) (ws : List Jvm.Cond) (o0 : Addr) (o1 : Addr) (p2 : Int32) (u2 : Value) (u5 : Value) (h0 : Heap) (n0 : Nat) (Z0 : n0 ≤ h0.size) (F_value_o0 : Fld Z h0 o0 "java/lang/String" "value" "[B" u2) (E_o0 : Exa Z h0 o0 "java/lang/String") (g_o0 : n0 ≤ o0) (F_coder_o0 : Fld Z h0 o0 "java/lang/String" "coder" "B" u5) :
    MetFree l (⟨"java/lang/String", "<init>", "([BB)V"⟩ : MethodName) (head1 (Jvm.Cond.code (⟨"java/lang/String", "<init>", "([BB)V"⟩ : MethodName) jdk_42_method_151_code 3 none :: ws) ({ frames := 1, cells := 0, slots := 0, locals := 12 } : Room)) (fun a U => a = #[(.ref o0), (.ref o1), (.int p2)] ∧ Z.Warmed39 U.vm ∧ U.heap = h0) (fun _ _ _ _ _ => True) (fun _ U o U' => ∃ v L, o = .returned v ∧ Q23 Z o0 o1 p2 u2 u5 h0 n0 v U'.heap L ∧ FrameEnd U o U' L ({ frames := 1, cells := 0, slots := 0, locals := 12 } : Room).cells ({ frames := 1, cells := 0, slots := 0, locals := 12 } : Room).slots) := by
  refine MetFree.of_bodySF (plainFor_of_name pn_23) hisR ?_
  intro p e s m args below meth c s₁ Bd hml0 hP hK
  obtain ⟨rfl, hZ, hh⟩ := hP
  have hx := Bd.exec
  have hby := Bd.bytes
  have hml : c.maxLocals = 3 := hml0
  have hown : s.vm.findClass "java/lang/String" = some m.cls := findClass_of_methodNamed Bd.named
  have hnm := (name_of_methodNamed Bd.named Bd.method).1
  have hrt := Bd.returns
  have hlk := Bd.notSynchronized
  have X0 : Stand p l e ({ frames := 1, cells := 0, slots := 0, locals := 12 } : Room) s m #[(.ref o0), (.ref o1), (.int p2)] below meth c s₁ [] 0 0 := Stand.of_body Bd
  have e0 : s₁.heap = h0 := by rw [← hh, Bd.state]; rfl
  have N0 := Fr.nil n0
  have lt_F_value_o0 : LT.lt (α := Nat) o0 h0.size := F_value_o0.lt
  have lt_E_o0 : LT.lt (α := Nat) o0 h0.size := E_o0.lt
  have lt_F_coder_o0 : LT.lt (α := Nat) o0 h0.size := F_coder_o0.lt
  show Go p e below s 0 0 (Q23 Z o0 o1 p2 u2 u5 h0 n0) (s₁.setTop (entryFrame m #[(.ref o0), (.ref o1), (.int p2)] 3))
  rw [ef_23 m o0 o1 p2]
  refine Go.pre (st' := s₁.setTop (mkF m 1 #[sR o0, sR o1, sI p2] [(.ref o0)])) (fun target kt => ?_) ?_
  · show Steps p.tables e below (s₁.setTop (mkF m 0 #[sR o0, sR o1, sI p2] [])) _
    refine XS.aloadN X0.here hx rfl (hb hby d23_0) rfl rfl ?_
    exact kt
  obtain ⟨T1, X1, e1, st1⟩ := initO X0 hx hZ hown (ow hw 103 rfl) (ow hw 20 rfl) (ow hw 21 rfl) e0 (g := (mkF m 1 #[sR o0, sR o1, sI p2] [(.ref o0)])) rfl (by rw [hml]; rfl) rfl (hb hby d23_1) (by decide) (W := 0) (by show 2 * 0 + _ ≤ _; exact Nat.le_of_eq rfl) (by decide)
  refine Go.pre st1 ?_
  show Go p e below s _ _ _ (T1.setTop (mkF m 4 #[sR o0, sR o1, sI p2] []))
  refine Go.pre (st' := T1.setTop (mkF m 6 #[sR o0, sR o1, sI p2] [(.ref o1), (.ref o0)])) (fun target kt => ?_) ?_
  · show Steps p.tables e below (T1.setTop (mkF m 4 #[sR o0, sR o1, sI p2] [])) _
    refine XS.aloadN X1.here hx rfl (hb hby d23_4) rfl rfl ?_
    refine XS.aloadN X1.here hx rfl (hb hby d23_5) rfl rfl ?_
    exact kt
  obtain ⟨T3, h3, X3, e3, W3, st3⟩ := putF X1 hx hZ hown (host := "") (Or.inl (ow hw 105 rfl)) Via.refl e1 F_value_o0 E_o0 (Or.inr ⟨(ow hw 4 rfl), rfl, hnm⟩) (ow hw 2 rfl) (ty := (.array .byte)) (by decide) rfl rfl (g := (mkF m 6 #[sR o0, sR o1, sI p2] [(.ref o1), (.ref o0)])) rfl rfl (hb hby d23_6)
  have sz3 : h0.size ≤ h3.size := (Keep.of_wr W3).1
  have Y4 : Fld Z h3 o0 "java/lang/String" "value" "[B" (.ref o1) := F_value_o0.same W3
  have N3 := Fr.snoc X3 N0 (by omega)
  refine Go.pre st3 ?_
  show Go p e below s _ _ _ (T3.setTop (mkF m 9 #[sR o0, sR o1, sI p2] []))
  refine Go.pre (st' := T3.setTop (mkF m 11 #[sR o0, sR o1, sI p2] [(.int p2), (.ref o0)])) (fun target kt => ?_) ?_
  · show Steps p.tables e below (T3.setTop (mkF m 9 #[sR o0, sR o1, sI p2] [])) _
    refine XS.aloadN X3.here hx rfl (hb hby d23_9) rfl rfl ?_
    refine XS.iloadN X3.here hx rfl (hb hby d23_10) rfl ?_
    exact kt
  have Y6 : Fld Z h3 o0 "java/lang/String" "coder" "B" u5 := (F_coder_o0.other W3 (Or.inr (slot_ne (Or.inr (ow hw 5 rfl)) (Or.inr (ow hw 4 rfl)) (by decide) (t := .byte) (t' := (.array .byte)) (by decide) (by decide))))
  have Y7 : Exa Z h3 o0 "java/lang/String" := (E_o0.wr W3)
  obtain ⟨T8, h8, X8, e8, W8, st8⟩ := putFN X3 hx hZ hown (ow hw 106 rfl) Via.refl e3 Y6 Y7 (Or.inr ⟨(ow hw 5 rfl), rfl, hnm⟩) (ow hw 2 rfl) (ty := .byte) (v' := (.int (nar .byte p2))) (by decide) rfl (fits_nar_byte _) (g := (mkF m 11 #[sR o0, sR o1, sI p2] [(.int p2), (.ref o0)])) rfl rfl (hb hby d23_11)
  have sz8 : h3.size ≤ h8.size := (Keep.of_wr W8).1
  have Y9 : Fld Z h8 o0 "java/lang/String" "coder" "B" (.int (nar .byte p2)) := Y6.same W8
  have N8 := Fr.snoc X8 N3 (by omega)
  refine Go.pre st8 ?_
  show Go p e below s _ _ _ (T8.setTop (mkF m 14 #[sR o0, sR o1, sI p2] []))
  have Y10 : Fld Z h8 o0 "java/lang/String" "value" "[B" (.ref o1) := (Y4.other W8 (Or.inr (slot_ne (Or.inr (ow hw 4 rfl)) (Or.inr (ow hw 5 rfl)) (by decide) (t := (.array .byte)) (t' := .byte) (by decide) (by decide))))
  exact Go.ret0 X8 hx hlk hrt (hb hby d23_14) (by decide) (by decide) (by rw [e8]; exact ⟨rfl, N8, (((Keep.refl h0 [o0]).wr W3 (Or.inl (List.mem_of_getElem? (i := 0) rfl))).wr W8 (Or.inl (List.mem_of_getElem? (i := 0) rfl))), (((KF.refl Z h0 [(o0, Jvm.RoadKit.slotOf Z "java/lang/String" "value" "[B"), (o0, Jvm.RoadKit.slotOf Z "java/lang/String" "coder" "B")]).wr W3 (Or.inl (List.mem_of_getElem? (i := 0) rfl))).wr W8 (Or.inl (List.mem_of_getElem? (i := 1) rfl))), Y10, Y9⟩)
/-! String.valueOf (20) -/
theorem d20_0 : decode jdk_42_method_139_code 0 = .ok (.getstatic 38, 3) := by decide +kernel
theorem d20_3 : decode jdk_42_method_139_code 3 = .ok (.ifCond .eq 23, 3) := by decide +kernel
theorem d20_6 : decode jdk_42_method_139_code 6 = .ok (.iload_n 0, 1) := by decide +kernel
theorem d20_7 : decode jdk_42_method_139_code 7 = .ok (.invokestatic 1015, 3) := by decide +kernel
theorem d20_10 : decode jdk_42_method_139_code 10 = .ok (.ifCond .eq 16, 3) := by decide +kernel
theorem d20_13 : decode jdk_42_method_139_code 13 = .ok (.new 10, 3) := by decide +kernel
theorem d20_16 : decode jdk_42_method_139_code 16 = .ok (.dup, 1) := by decide +kernel
theorem d20_17 : decode jdk_42_method_139_code 17 = .ok (.iload_n 0, 1) := by decide +kernel
theorem d20_18 : decode jdk_42_method_139_code 18 = .ok (.invokestatic 1018, 3) := by decide +kernel
theorem d20_21 : decode jdk_42_method_139_code 21 = .ok (.iconst 0, 1) := by decide +kernel
theorem d20_22 : decode jdk_42_method_139_code 22 = .ok (.invokespecial 209, 3) := by decide +kernel
theorem d20_25 : decode jdk_42_method_139_code 25 = .ok (.areturn, 1) := by decide +kernel
theorem pn_20 : plainName "java/lang/String" = true := by first | (simp [plainName, overriddenIn]; done) | decide +kernel
theorem pd20_0 : parseMethodDescriptor "(C)Z" = some ⟨[.char], some .boolean⟩ := by decide +kernel
theorem pd20_1 : parseMethodDescriptor "(C)[B" = some ⟨[.char], some (.array .byte)⟩ := by decide +kernel
theorem pd20_2 : parseMethodDescriptor "([BB)V" = some ⟨[(.array .byte), .byte], none⟩ := by decide +kernel
theorem ef_20 (m : MethodId) (p0 : Int32) : entryFrame m #[(.int p0)] 1 = (mkF m 0 #[.val (.int p0)] []) := by first | (simp [entryFrame, mkF, argsToLocals, Value.category]; done) | rfl
def Q20 (Z : State) (p0 : Int32) (zc : Int32) (h0 : Heap) (n0 : Nat) (v : Option Value) (h : Heap) (L : List Loc) : Prop := ∃ b3 : Addr, ∃ b4_0 : Addr, ∃ k4_0 : ClassId, v = some (.ref b3) ∧ Fr n0 L ∧ Keep h0 h [] ∧ KF Z h0 h [] ∧ LE.le (α := Nat) h0.size b3 ∧ LT.lt (α := Nat) b3 h.size ∧ LE.le (α := Nat) h0.size b4_0 ∧ LT.lt (α := Nat) b4_0 h.size ∧ LT.lt (α := Nat) b3 b4_0 ∧ Exa Z h b3 "java/lang/String" ∧ Fld Z h b3 "java/lang/String" "value" "[B" (.ref b4_0) ∧ Fld Z h b3 "java/lang/String" "coder" "B" (.int (nar .byte (0 : Int32))) ∧ Arv Z h b4_0 k4_0 .byte (1 : Int32) [(.int (nar .byte (p0.toInt8.toInt32)))] (.int (0 : Int32))
set_option maxRecDepth 65536 in
set_option maxHeartbeats 40000000 in
theorem rm20 (l : Launch) (Z : State) (a0 : Array Value) (hw : ∀ d ∈ tables_1, d.before a0 Z = true) (ws : List Jvm.Cond) (p0 : Int32) (zc : Int32) (h0 : Heap) (n0 : Nat) (Z0 : n0 ≤ h0.size) (S_COMPACT : Sta Z Z.heap "java/lang/String" "COMPACT_STRINGS" "Z" (.int zc)) (Ol : Old Z n0 h0) (hle : ¬ ((255 : Int32) < p0)) (hc3 : ¬ (zc = (0 : Int32))) :
    MetFree l (⟨"java/lang/String", "valueOf", "(C)Ljava/lang/String;"⟩ : MethodName) (head1 (Jvm.Cond.code (⟨"java/lang/String", "valueOf", "(C)Ljava/lang/String;"⟩ : MethodName) jdk_42_method_139_code 1 (some (.object "java/lang/String")) :: ws) ({ frames := 2, cells := 2, slots := 5, locals := 27 } : Room)) (fun a U => a = #[(.int p0)] ∧ Z.Warmed39 U.vm ∧ U.heap = h0) (fun _ _ _ _ _ => True) (fun _ U o U' => ∃ v L, o = .returned v ∧ Q20 Z p0 zc h0 n0 v U'.heap L ∧ FrameEnd U o U' L ({ frames := 2, cells := 2, slots := 5, locals := 27 } : Room).cells ({ frames := 2, cells := 2, slots := 5, locals := 27 } : Room).slots) := by
  refine MetFree.of_bodySF (plainFor_of_name pn_20) hisR ?_
  intro p e s m args below meth c s₁ Bd hml0 hP hK
  obtain ⟨rfl, hZ, hh⟩ := hP
  have hx := Bd.exec
  have hby := Bd.bytes
  have hml : c.maxLocals = 1 := hml0
  have hown : s.vm.findClass "java/lang/String" = some m.cls := findClass_of_methodNamed Bd.named
  have hnm := (name_of_methodNamed Bd.named Bd.method).1
  have hrt := Bd.returns
  have hlk := Bd.notSynchronized
  have X0 : Stand p l e ({ frames := 2, cells := 2, slots := 5, locals := 27 } : Room) s m #[(.int p0)] below meth c s₁ [] 0 0 := Stand.of_body Bd
  have e0 : s₁.heap = h0 := by rw [← hh, Bd.state]; rfl
  have N0 := Fr.nil n0
  show Go p e below s 2 5 (Q20 Z p0 zc h0 n0) (s₁.setTop (entryFrame m #[(.int p0)] 1))
  rw [ef_20 m p0]
  obtain ⟨T1, X1, e1, st1⟩ := getS2 X0 hx hZ hown (host := "") (Or.inl (ow hw 107 rfl)) Via.refl e0 (S_COMPACT.ext Ol.2) (g := (mkF m 0 #[sI p0] [])) rfl (hb hby d20_0)
  refine Go.pre st1 ?_
  show Go p e below s _ _ _ (T1.setTop (mkF m 3 #[sI p0] [(.int zc)]))
  refine Go.pre (st' := T1.setTop (mkF m 7 #[sI p0] [(.int p0)])) (fun target kt => ?_) ?_
  · show Steps p.tables e below (T1.setTop (mkF m 3 #[sI p0] [(.int zc)])) _
    refine XS.ifNo X1.here hx rfl (hb hby d20_3) rfl ((if0 _ _).trans (feq hc3).1) ?_
    refine XS.iloadN X1.here hx rfl (hb hby d20_6) rfl ?_
    exact kt
  obtain ⟨_, _, ⟨T2, L2, k2, n2⟩, -, X2, ⟨Lc2, hQ2, l2, y2, z2⟩, st2⟩ := Jvm.LawKit.callS X1 hx (y := (⟨"java/lang/StringLatin1", "canEncode", "(C)Z"⟩ : MethodName)) hown (mvT hZ (ow hw 121 rfl)) (mvT hZ (ow hw 122 rfl)) (mvT hZ (ow hw 123 rfl)) (mvT hZ (ow hw 124 rfl)) (by decide) (backOf (W := 0) (rm21 l Z a0 hw [] p0 h0 n0 (by omega) hle) hZ (ow hw 124 rfl) (ow hw 123 rfl) (by decide) (by decide)) (g := (mkF m 7 #[sI p0] [(.int p0)])) rfl (by rw [hml]; rfl) (argsL := [(.int p0)]) (rest := []) (lenOf pd20_0 rfl) rfl (by show 2 * 0 + _ ≤ _; exact Nat.le_of_eq rfl) (hb hby d20_7) (fun vm₁ hvm => ⟨rfl, e1, (by decide : 0 + 0 ≤ _), (by decide : 0 + 0 ≤ _)⟩)
  dsimp only [Pt.U, Pt.locs, Pt.cells, Pt.slots] at X2 l2 y2 z2 st2 hQ2
  subst l2 y2 z2
  obtain ⟨rfl, N2q, e2⟩ := hQ2
  have N2 := Fr.app N0 N2q
  refine Go.pre st2 ?_
  show Go p e below s _ _ _ (T2.setTop (mkF m 10 #[sI p0] [(.int (1 : Int32))]))
  refine Go.pre (st' := T2.setTop (mkF m 13 #[sI p0] [])) (fun target kt => ?_) ?_
  · show Steps p.tables e below (T2.setTop (mkF m 10 #[sI p0] [(.int (1 : Int32))])) _
    refine XS.ifNo X2.here hx rfl (hb hby d20_10) rfl ((if0 _ _).trans (feq (by decide)).1) ?_
    exact kt
  obtain ⟨T3, h3, X3, e3, E3, A3, D3, -, st3⟩ := newO X2 hx hZ hown (ow hw 125 rfl) (ow hw 2 rfl) (ow hw 1 rfl) e2 (g := (mkF m 13 #[sI p0] [])) rfl (hb hby d20_13) (by decide) (by decide)
  obtain ⟨b3, g3⟩ : ∃ z, z = h0.size := ⟨_, rfl⟩
  rw [← g3] at A3 D3 st3
  have sz3 : h0.size ≤ h3.size := E3.1
  have lt3 : b3 < h3.size := A3.lt
  have F3_value : Fld Z h3 b3 "java/lang/String" "value" "[B" .null := D3 (Or.inr (ow hw 4 rfl)) (ty := (.array .byte)) (by decide)
  have F3_coder : Fld Z h3 b3 "java/lang/String" "coder" "B" (.int (0 : Int32)) := D3 (Or.inr (ow hw 5 rfl)) (ty := .byte) (by decide)
  refine Go.pre st3 ?_
  show Go p e below s _ _ _ (T3.setTop (mkF m 16 #[sI p0] [(.ref b3)]))
  refine Go.pre (st' := T3.setTop (mkF m 18 #[sI p0] [(.int p0), (.ref b3), (.ref b3)])) (fun target kt => ?_) ?_
  · show Steps p.tables e below (T3.setTop (mkF m 16 #[sI p0] [(.ref b3)])) _
    refine XS.dup X3.here hx rfl (hb hby d20_16) rfl rfl ?_
    refine XS.iloadN X3.here hx rfl (hb hby d20_17) rfl ?_
    exact kt
  obtain ⟨_, _, ⟨T4, L4, k4, n4⟩, -, X4, ⟨Lc4, hQ4, l4, y4, z4⟩, st4⟩ := Jvm.LawKit.callS X3 hx (y := (⟨"java/lang/StringLatin1", "toBytes", "(C)[B"⟩ : MethodName)) hown (mvT hZ (ow hw 126 rfl)) (mvT hZ (ow hw 127 rfl)) (mvT hZ (ow hw 123 rfl)) (mvT hZ (ow hw 128 rfl)) (by decide) (backOf (W := 2) (rm22 l Z a0 hw [] p0 h3 n0 (by omega) ) hZ (ow hw 128 rfl) (ow hw 123 rfl) (by decide) (by decide)) (g := (mkF m 18 #[sI p0] [(.int p0), (.ref b3), (.ref b3)])) rfl (by rw [hml]; rfl) (argsL := [(.int p0)]) (rest := [(.ref b3), (.ref b3)]) (lenOf pd20_1 rfl) rfl (by show 2 * 0 + _ ≤ _; exact Nat.le_of_eq rfl) (hb hby d20_18) (fun vm₁ hvm => ⟨rfl, e3, (by decide : 1 + 1 ≤ _), (by decide : 4 + 1 ≤ _)⟩)
  dsimp only [Pt.U, Pt.locs, Pt.cells, Pt.slots] at X4 l4 y4 z4 st4 hQ4
  subst l4 y4 z4
  obtain ⟨b4_0, k4_0, rfl, N4q, K4, KF4, gb4_0, ltb4_0, Y4_0⟩ := hQ4
  have sz4 : h3.size ≤ T4.heap.size := K4.1
  have N4 := Fr.app N2 N4q
  refine Go.pre st4 ?_
  show Go p e below s _ _ _ (T4.setTop (mkF m 21 #[sI p0] [(.ref b4_0), (.ref b3), (.ref b3)]))
  refine Go.pre (st' := T4.setTop (mkF m 22 #[sI p0] [(.int (0 : Int32)), (.ref b4_0), (.ref b3), (.ref b3)])) (fun target kt => ?_) ?_
  · show Steps p.tables e below (T4.setTop (mkF m 21 #[sI p0] [(.ref b4_0), (.ref b3), (.ref b3)])) _
    refine XS.iconst X4.here hx rfl (hb hby d20_21) ?_
    exact kt
  have Y6 : Fld Z T4.heap b3 "java/lang/String" "value" "[B" .null := (F3_value.keep K4 nin0)
  have Y7 : Exa Z T4.heap b3 "java/lang/String" := (A3.keep K4)
  have Y8 : Fld Z T4.heap b3 "java/lang/String" "coder" "B" (.int (0 : Int32)) := (F3_coder.keep K4 nin0)
  obtain ⟨_, _, ⟨T5, L5, k5, n5⟩, -, X5, ⟨Lc5, hQ5, l5, y5, z5⟩, st5⟩ := X4.specialBack hx (y := (⟨"java/lang/String", "<init>", "([BB)V"⟩ : MethodName)) rfl hown (mvT hZ (ow hw 129 rfl)) (mvT hZ (ow hw 130 rfl)) (mvT hZ (ow hw 131 rfl)) (by decide) (backOf (W := 1) (rm23 l Z a0 hw [] b3 b4_0 (0 : Int32) .null (.int (0 : Int32)) T4.heap n0 (by omega) Y6 Y7 (by omega) Y8) hZ (ow hw 131 rfl) (ow hw 1 rfl) (by decide) (by decide)) (g := (mkF m 22 #[sI p0] [(.int (0 : Int32)), (.ref b4_0), (.ref b3), (.ref b3)])) rfl (by rw [hml]; rfl) (Steps.refl _) (a := b3) (argsL := [(.ref b4_0), (.int (0 : Int32))]) (rest := [(.ref b3)]) (lenOf pd20_2 rfl) rfl (by show 2 * 0 + _ ≤ _; exact Nat.le_of_eq rfl) (hb hby d20_22) (fun vm₁ hvm => ⟨rfl, rfl, (by decide : 2 + 0 ≤ _), (by decide : 5 + 0 ≤ _)⟩)
  dsimp only [Pt.U, Pt.locs, Pt.cells, Pt.slots] at X5 l5 y5 z5 st5 hQ5
  subst l5 y5 z5
  obtain ⟨rfl, N5q, K5, KF5, Y5_0, Y5_1⟩ := hQ5
  have sz5 : T4.heap.size ≤ T5.heap.size := K5.1
  have N5 := Fr.app N4 N5q
  refine Go.trans st5 ?_
  show Go p e below s _ _ _ (T5.setTop (mkF m 25 #[sI p0] [(.ref b3)]))
  have Y9 : Exa Z T5.heap b3 "java/lang/String" := (Y7.keep K5)
  have Y10 : Arv Z T5.heap b4_0 k4_0 .byte (1 : Int32) [(.int (nar .byte (p0.toInt8.toInt32)))] (.int (0 : Int32)) := (Y4_0.keep K5 (ninS (neN (by omega)) nin0))
  exact Go.retV X5 hx hlk hrt rfl (Or.inr (Or.inr (Or.inr (Or.inr ⟨rfl, rfl, rfl⟩)))) (hb hby d20_25) (by decide) (by decide) (by exact ⟨b3, b4_0, k4_0, rfl, N5, ((((Keep.refl h0 []).ext E3).trans K4 all0).trans K5 (allS (Or.inr (by omega)) all0)), ((((KF.refl Z h0 []).ext E3).trans KF4 pall0).trans KF5 (pallS (Or.inr (by show _ ≤ b3; omega)) (pallS (Or.inr (by show _ ≤ b3; omega)) pall0))), by omega, by omega, by omega, by omega, by omega, Y9, Y5_0, Y5_1, Y10⟩)
/-! String.<init> (16e) -/
theorem d16_0 : decode jdk_42_method_149_code 0 = .ok (.aload_n 0, 1) := by decide +kernel
theorem d16_1 : decode jdk_42_method_149_code 1 = .ok (.invokespecial 1, 3) := by decide +kernel
theorem d16_4 : decode jdk_42_method_149_code 4 = .ok (.iload_n 3, 1) := by decide +kernel
theorem d16_5 : decode jdk_42_method_149_code 5 = .ok (.ifCond .ne 22, 3) := by decide +kernel
theorem d16_8 : decode jdk_42_method_149_code 8 = .ok (.aload_n 0, 1) := by decide +kernel
theorem d16_9 : decode jdk_42_method_149_code 9 = .ok (.ldc 7, 2) := by decide +kernel
theorem d16_11 : decode jdk_42_method_149_code 11 = .ok (.getfield 9, 3) := by decide +kernel
theorem d16_14 : decode jdk_42_method_149_code 14 = .ok (.putfield 9, 3) := by decide +kernel
theorem d16_17 : decode jdk_42_method_149_code 17 = .ok (.aload_n 0, 1) := by decide +kernel
theorem d16_18 : decode jdk_42_method_149_code 18 = .ok (.ldc 7, 2) := by decide +kernel
theorem d16_20 : decode jdk_42_method_149_code 20 = .ok (.getfield 15, 3) := by decide +kernel
theorem d16_23 : decode jdk_42_method_149_code 23 = .ok (.putfield 15, 3) := by decide +kernel
theorem d16_26 : decode jdk_42_method_149_code 26 = .ok (.return_, 1) := by decide +kernel
theorem pn_16 : plainName "java/lang/String" = true := by first | (simp [plainName, overriddenIn]; done) | decide +kernel
theorem ef_16e (m : MethodId) (o0 : Addr) (o1 : Addr) : entryFrame m #[(.ref o0), (.ref o1), (.int (0 : Int32)), (.int (0 : Int32)), .null] 6 = (mkF m 0 #[.val (.ref o0), .val (.ref o1), .val (.int (0 : Int32)), .val (.int (0 : Int32)), .val .null, .unset] []) := by first | (simp [entryFrame, mkF, argsToLocals, Value.category]; done) | rfl
def Q16e (Z : State) (o0 : Addr) (o1 : Addr) (u4 : Value) (u12 : Value) (h0 : Heap) (n0 : Nat) (v : Option Value) (vm : Vm) (h : Heap) (L : List Loc) : Prop := v = none ∧ Fr n0 L ∧ Keep h0 h [o0] ∧ KF Z h0 h [(o0, Jvm.RoadKit.slotOf Z "java/lang/String" "value" "[B"), (o0, Jvm.RoadKit.slotOf Z "java/lang/String" "coder" "B")] ∧ Fld Z h o0 "java/lang/String" "coder" "B" (.int (nar .byte (0 : Int32))) ∧ IB Z vm [""]
set_option maxRecDepth 65536 in
set_option maxHeartbeats 40000000 in
theorem rm16e (l : Launch) (Z : State) (a0 : Array Value) (hw : ∀ d ∈ tables_1, d.before a0 Z = true) (ws : List Jvm.Cond) (o0 : Addr) (o1 : Addr) (u4 : Value) (u12 : Value) (h0 : Heap) (n0 : Nat) (Z0 : n0 ≤ h0.size) (hcw : Jvm.Lit.compactW.before a0 Z = true) (hheld : ∀ q ∈ consts_1, Jvm.Lit.constHeld Z q.1 q.2) (Ol : Old Z n0 h0) (F_value_o0 : Fld Z h0 o0 "java/lang/String" "value" "[B" u4) (E_o0 : Exa Z h0 o0 "java/lang/String") (g_o0 : n0 ≤ o0) (F_coder_o0 : Fld Z h0 o0 "java/lang/String" "coder" "B" u12) :
    MetFree l (⟨"java/lang/String", "<init>", "([CIILjava/lang/Void;)V"⟩ : MethodName) (head1 (Jvm.Cond.code (⟨"java/lang/String", "<init>", "([CIILjava/lang/Void;)V"⟩ : MethodName) jdk_42_method_149_code 6 none :: ws) ({ frames := 1, cells := 2, slots := 4, locals := 12 } : Room)) (fun a U => a = #[(.ref o0), (.ref o1), (.int (0 : Int32)), (.int (0 : Int32)), .null] ∧ Z.Warmed39 U.vm ∧ U.heap = h0 ∧ IB Z U.vm []) (fun _ _ _ _ _ => True) (fun _ U o U' => ∃ v L, o = .returned v ∧ Q16e Z o0 o1 u4 u12 h0 n0 v U'.vm U'.heap L ∧ ReturnedEndW U o U' L ({ frames := 1, cells := 2, slots := 4, locals := 12 } : Room).cells ({ frames := 1, cells := 2, slots := 4, locals := 12 } : Room).slots) := by
  refine MetFree.of_bodySF (plainFor_of_name pn_16) hisR ?_
  intro p e s m args below meth c s₁ Bd hml0 hP hK
  obtain ⟨rfl, hZ, hh, hI⟩ := hP
  have hx := Bd.exec
  have hby := Bd.bytes
  have hml : c.maxLocals = 6 := hml0
  have hown : s.vm.findClass "java/lang/String" = some m.cls := findClass_of_methodNamed Bd.named
  have hnm := (name_of_methodNamed Bd.named Bd.method).1
  have hrt := Bd.returns
  have hlk := Bd.notSynchronized
  have X0 : Stand p l e ({ frames := 1, cells := 2, slots := 4, locals := 12 } : Room) (s.setVm s.vm) m #[(.ref o0), (.ref o1), (.int (0 : Int32)), (.int (0 : Int32)), .null] below meth c s₁ [] 0 0 := Stand.of_body Bd
  have hS : s.Since s.vm 0 := (State.WarmedH.refl s).since 0
  have hk := Nat.zero_le h0.size
  have hkp : ∀ (b : Addr) (cl : Cell), Z.heap[b]? = some cl → s.heap[b]? = some cl := fun b cl q => by rw [show (s.heap : Heap) = h0 from hh]; exact Ol.2.2 b cl q
  have e0 : s₁.heap = h0 := by rw [← hh, Bd.state]; rfl
  have N0 := Fr.nil n0
  have lt_F_value_o0 : LT.lt (α := Nat) o0 h0.size := F_value_o0.lt
  have lt_E_o0 : LT.lt (α := Nat) o0 h0.size := E_o0.lt
  have lt_F_coder_o0 : LT.lt (α := Nat) o0 h0.size := F_coder_o0.lt
  show GoW p e below s 2 4 (Q16e Z o0 o1 u4 u12 h0 n0) (s₁.setTop (entryFrame m #[(.ref o0), (.ref o1), (.int (0 : Int32)), (.int (0 : Int32)), .null] 6))
  rw [ef_16e m o0 o1]
  refine GoW.pre (st' := s₁.setTop (mkF m 1 #[sR o0, sR o1, sI (0 : Int32), sI (0 : Int32), sN, sU] [(.ref o0)])) (fun target kt => ?_) ?_
  · show Steps p.tables e below (s₁.setTop (mkF m 0 #[sR o0, sR o1, sI (0 : Int32), sI (0 : Int32), sN, sU] [])) _
    refine XS.aloadN X0.here hx rfl (hb hby d16_0) rfl rfl ?_
    exact kt
  obtain ⟨T1, X1, e1, st1⟩ := initO X0 hx hZ hown (ow hw 103 rfl) (ow hw 20 rfl) (ow hw 21 rfl) e0 (g := (mkF m 1 #[sR o0, sR o1, sI (0 : Int32), sI (0 : Int32), sN, sU] [(.ref o0)])) rfl (by rw [hml]; rfl) rfl (hb hby d16_1) (by decide) (W := 0) (by show 2 * 0 + _ ≤ _; exact Nat.le_of_eq rfl) (by decide)
  refine GoW.pre st1 ?_
  show GoW p e below s _ _ _ (T1.setTop (mkF m 4 #[sR o0, sR o1, sI (0 : Int32), sI (0 : Int32), sN, sU] []))
  refine GoW.pre (st' := T1.setTop (mkF m 9 #[sR o0, sR o1, sI (0 : Int32), sI (0 : Int32), sN, sU] [(.ref o0)])) (fun target kt => ?_) ?_
  · show Steps p.tables e below (T1.setTop (mkF m 4 #[sR o0, sR o1, sI (0 : Int32), sI (0 : Int32), sN, sU] [])) _
    refine XS.iloadN X1.here hx rfl (hb hby d16_4) rfl ?_
    refine XS.ifNo X1.here hx rfl (hb hby d16_5) rfl ((if0 _ _).trans (teq (by decide)).2) ?_
    refine XS.aloadN X1.here hx rfl (hb hby d16_8) rfl rfl ?_
    exact kt
  obtain ⟨la2, T2, h2, kq2, b2, k2, X2, e2, E2, hS, hk, hZ, hown, Ea2, Fc2, Fv2, Va2, lt2, lu2, hI, Lt_la2, st2⟩ := ldcSVL X1 hx hZ hown (ow hw 104 rfl) (own_wS hw) e1 hS (by omega) (Fr.nil _) hkp hI (by decide) (hheld _ (List.mem_of_getElem? (i := 1) rfl)) hcw (vs := []) (z := (0 : Int32)) ⟨by decide, by decide⟩ (by decide) rfl (g := (mkF m 9 #[sR o0, sR o1, sI (0 : Int32), sI (0 : Int32), sN, sU] [(.ref o0)])) rfl (hb hby d16_9) (n := 0) (by decide) (by decide) (by decide) (by decide)
  have sz2 : h0.size ≤ h2.size := E2.1
  refine GoW.pre st2 ?_
  show GoW p e below s _ _ _ (T2.setTop (mkF m 11 #[sR o0, sR o1, sI (0 : Int32), sI (0 : Int32), sN, sU] [(.ref la2), (.ref o0)]))
  obtain ⟨T3, X3, e3, st3⟩ := getF X2 hx hZ hown (host := "") (Or.inl (ow hw 105 rfl)) Via.refl e2 Fv2 (g := (mkF m 11 #[sR o0, sR o1, sI (0 : Int32), sI (0 : Int32), sN, sU] [(.ref la2), (.ref o0)])) rfl rfl (hb hby d16_11)
  refine GoW.pre st3 ?_
  show GoW p e below s _ _ _ (T3.setTop (mkF m 14 #[sR o0, sR o1, sI (0 : Int32), sI (0 : Int32), sN, sU] [(.ref b2), (.ref o0)]))
  have Y5 : Fld Z h2 o0 "java/lang/String" "value" "[B" u4 := (F_value_o0.ext E2)
  have Y6 : Exa Z h2 o0 "java/lang/String" := (E_o0.ext E2)
  obtain ⟨T7, h7, X7, e7, W7, st7⟩ := putF X3 hx hZ hown (host := "") (Or.inl (ow hw 105 rfl)) Via.refl e3 Y5 Y6 (Or.inr ⟨(ow hw 4 rfl), rfl, hnm⟩) (ow hw 2 rfl) (ty := (.array .byte)) (by decide) rfl rfl (g := (mkF m 14 #[sR o0, sR o1, sI (0 : Int32), sI (0 : Int32), sN, sU] [(.ref b2), (.ref o0)])) rfl rfl (hb hby d16_14)
  have sz7 : h2.size ≤ h7.size := (Keep.of_wr W7).1
  have Y8 : Fld Z h7 o0 "java/lang/String" "value" "[B" (.ref b2) := Y5.same W7
  have N7 := Fr.snoc X7 N0 (by omega)
  refine GoW.pre st7 ?_
  show GoW p e below s _ _ _ (T7.setTop (mkF m 17 #[sR o0, sR o1, sI (0 : Int32), sI (0 : Int32), sN, sU] []))
  refine GoW.pre (st' := T7.setTop (mkF m 18 #[sR o0, sR o1, sI (0 : Int32), sI (0 : Int32), sN, sU] [(.ref o0)])) (fun target kt => ?_) ?_
  · show Steps p.tables e below (T7.setTop (mkF m 17 #[sR o0, sR o1, sI (0 : Int32), sI (0 : Int32), sN, sU] [])) _
    refine XS.aloadN X7.here hx rfl (hb hby d16_17) rfl rfl ?_
    exact kt
  refine GoW.pre (ldcAgain X7 hx hZ hown (ow hw 104 rfl) Lt_la2 (g := (mkF m 18 #[sR o0, sR o1, sI (0 : Int32), sI (0 : Int32), sN, sU] [(.ref o0)])) rfl (hb hby d16_18)) ?_
  show GoW p e below s _ _ _ (T7.setTop (mkF m 20 #[sR o0, sR o1, sI (0 : Int32), sI (0 : Int32), sN, sU] [(.ref la2), (.ref o0)]))
  have Y10 : Fld Z h7 la2 "java/lang/String" "coder" "B" (.int (0 : Int32)) := (Fc2.other W7 (Or.inr (slot_ne (Or.inr (ow hw 5 rfl)) (Or.inr (ow hw 4 rfl)) (by decide) (t := .byte) (t' := (.array .byte)) (by decide) (by decide))))
  obtain ⟨T11, X11, e11, st11⟩ := getF X7 hx hZ hown (host := "") (Or.inl (ow hw 106 rfl)) Via.refl e7 Y10 (g := (mkF m 20 #[sR o0, sR o1, sI (0 : Int32), sI (0 : Int32), sN, sU] [(.ref la2), (.ref o0)])) rfl rfl (hb hby d16_20)
  refine GoW.pre st11 ?_
  show GoW p e below s _ _ _ (T11.setTop (mkF m 23 #[sR o0, sR o1, sI (0 : Int32), sI (0 : Int32), sN, sU] [(.int (0 : Int32)), (.ref o0)]))
  have Y13 : Fld Z h7 o0 "java/lang/String" "coder" "B" u12 := ((F_coder_o0.ext E2).other W7 (Or.inr (slot_ne (Or.inr (ow hw 5 rfl)) (Or.inr (ow hw 4 rfl)) (by decide) (t := .byte) (t' := (.array .byte)) (by decide) (by decide))))
  have Y14 : Exa Z h7 o0 "java/lang/String" := (Y6.wr W7)
  obtain ⟨T15, h15, X15, e15, W15, st15⟩ := putFN X11 hx hZ hown (ow hw 106 rfl) Via.refl e11 Y13 Y14 (Or.inr ⟨(ow hw 5 rfl), rfl, hnm⟩) (ow hw 2 rfl) (ty := .byte) (v' := (.int (nar .byte (0 : Int32)))) (by decide) rfl (fits_nar_byte _) (g := (mkF m 23 #[sR o0, sR o1, sI (0 : Int32), sI (0 : Int32), sN, sU] [(.int (0 : Int32)), (.ref o0)])) rfl rfl (hb hby d16_23)
  have sz15 : h7.size ≤ h15.size := (Keep.of_wr W15).1
  have Y16 : Fld Z h15 o0 "java/lang/String" "coder" "B" (.int (nar .byte (0 : Int32))) := Y13.same W15
  have N15 := Fr.snoc X15 N7 (by omega)
  refine GoW.pre st15 ?_
  show GoW p e below s _ _ _ (T15.setTop (mkF m 26 #[sR o0, sR o1, sI (0 : Int32), sI (0 : Int32), sN, sU] []))
  exact GoW.ret0 X15 hS (leH e15 (by omega)) hx hlk hrt (hb hby d16_26) (by decide) (by decide) (by rw [e15]; exact ⟨rfl, N15, ((((Keep.refl h0 [o0]).ext E2).wr W7 (Or.inl (List.mem_of_getElem? (i := 0) rfl))).wr W15 (Or.inl (List.mem_of_getElem? (i := 0) rfl))), ((((KF.refl Z h0 [(o0, Jvm.RoadKit.slotOf Z "java/lang/String" "value" "[B"), (o0, Jvm.RoadKit.slotOf Z "java/lang/String" "coder" "B")]).ext E2).wr W7 (Or.inl (List.mem_of_getElem? (i := 0) rfl))).wr W15 (Or.inl (List.mem_of_getElem? (i := 1) rfl))), Y16, IB.at X15 hI⟩)
/-! String.<init> (15e) -/
theorem d15_0 : decode jdk_42_method_3_code 0 = .ok (.aload_n 0, 1) := by decide +kernel
theorem d15_1 : decode jdk_42_method_3_code 1 = .ok (.aload_n 1, 1) := by decide +kernel
theorem d15_2 : decode jdk_42_method_3_code 2 = .ok (.iconst 0, 1) := by decide +kernel
theorem d15_3 : decode jdk_42_method_3_code 3 = .ok (.aload_n 1, 1) := by decide +kernel
theorem d15_4 : decode jdk_42_method_3_code 4 = .ok (.arraylength, 1) := by decide +kernel
theorem d15_5 : decode jdk_42_method_3_code 5 = .ok (.aconst_null, 1) := by decide +kernel
theorem d15_6 : decode jdk_42_method_3_code 6 = .ok (.invokespecial 27, 3) := by decide +kernel
theorem d15_9 : decode jdk_42_method_3_code 9 = .ok (.return_, 1) := by decide +kernel
theorem pn_15 : plainName "java/lang/String" = true := by first | (simp [plainName, overriddenIn]; done) | decide +kernel
theorem pd15e_0 : parseMethodDescriptor "([CIILjava/lang/Void;)V" = some ⟨[(.array .char), .int, .int, (.object "java/lang/Void")], none⟩ := by decide +kernel
theorem ef_15e (m : MethodId) (o0 : Addr) (o1 : Addr) : entryFrame m #[(.ref o0), (.ref o1)] 2 = (mkF m 0 #[.val (.ref o0), .val (.ref o1)] []) := by first | (simp [entryFrame, mkF, argsToLocals, Value.category]; done) | rfl
def Q15e (Z : State) (o0 : Addr) (o1 : Addr) (ka : ClassId) (u3 : Value) (u4 : Value) (h0 : Heap) (n0 : Nat) (v : Option Value) (vm : Vm) (h : Heap) (L : List Loc) : Prop := v = none ∧ Fr n0 L ∧ Keep h0 h [o0] ∧ KF Z h0 h [(o0, Jvm.RoadKit.slotOf Z "java/lang/String" "value" "[B"), (o0, Jvm.RoadKit.slotOf Z "java/lang/String" "coder" "B")] ∧ Fld Z h o0 "java/lang/String" "coder" "B" (.int (nar .byte (0 : Int32))) ∧ IB Z vm [""]
set_option maxRecDepth 65536 in
set_option maxHeartbeats 40000000 in
theorem rm15e (l : Launch) (Z : State) (a0 : Array Value) (hw : ∀ d ∈ tables_1, d.before a0 Z = true) (ws : List Jvm.Cond) (o0 : Addr) (o1 : Addr) (ka : ClassId) (u3 : Value) (u4 : Value) (h0 : Heap) (n0 : Nat) (Z0 : n0 ≤ h0.size) (hcw : Jvm.Lit.compactW.before a0 Z = true) (hheld : ∀ q ∈ consts_1, Jvm.Lit.constHeld Z q.1 q.2) (Ol : Old Z n0 h0) (A_o1 : Arv Z h0 o1 ka .char (0 : Int32) [] (.int (0 : Int32))) (F_value_o0 : Fld Z h0 o0 "java/lang/String" "value" "[B" u3) (E_o0 : Exa Z h0 o0 "java/lang/String") (g_o0 : n0 ≤ o0) (F_coder_o0 : Fld Z h0 o0 "java/lang/String" "coder" "B" u4) :
    MetFree l (⟨"java/lang/String", "<init>", "([C)V"⟩ : MethodName) (head1 (Jvm.Cond.code (⟨"java/lang/String", "<init>", "([C)V"⟩ : MethodName) jdk_42_method_3_code 2 none :: ws) ({ frames := 2, cells := 2, slots := 4, locals := 29 } : Room)) (fun a U => a = #[(.ref o0), (.ref o1)] ∧ Z.Warmed39 U.vm ∧ U.heap = h0 ∧ IB Z U.vm []) (fun _ _ _ _ _ => True) (fun _ U o U' => ∃ v L, o = .returned v ∧ Q15e Z o0 o1 ka u3 u4 h0 n0 v U'.vm U'.heap L ∧ ReturnedEndW U o U' L ({ frames := 2, cells := 2, slots := 4, locals := 29 } : Room).cells ({ frames := 2, cells := 2, slots := 4, locals := 29 } : Room).slots) := by
  refine MetFree.of_bodySF (plainFor_of_name pn_15) hisR ?_
  intro p e s m args below meth c s₁ Bd hml0 hP hK
  obtain ⟨rfl, hZ, hh, hI⟩ := hP
  have hx := Bd.exec
  have hby := Bd.bytes
  have hml : c.maxLocals = 2 := hml0
  have hown : s.vm.findClass "java/lang/String" = some m.cls := findClass_of_methodNamed Bd.named
  have hnm := (name_of_methodNamed Bd.named Bd.method).1
  have hrt := Bd.returns
  have hlk := Bd.notSynchronized
  have X0 : Stand p l e ({ frames := 2, cells := 2, slots := 4, locals := 29 } : Room) (s.setVm s.vm) m #[(.ref o0), (.ref o1)] below meth c s₁ [] 0 0 := Stand.of_body Bd
  have hS : s.Since s.vm 0 := (State.WarmedH.refl s).since 0
  have hk := Nat.zero_le h0.size
  have hkp : ∀ (b : Addr) (cl : Cell), Z.heap[b]? = some cl → s.heap[b]? = some cl := fun b cl q => by rw [show (s.heap : Heap) = h0 from hh]; exact Ol.2.2 b cl q
  have e0 : s₁.heap = h0 := by rw [← hh, Bd.state]; rfl
  have N0 := Fr.nil n0
  have lt_A_o1 : LT.lt (α := Nat) o1 h0.size := A_o1.lt
  have lt_F_value_o0 : LT.lt (α := Nat) o0 h0.size := F_value_o0.lt
  have lt_E_o0 : LT.lt (α := Nat) o0 h0.size := E_o0.lt
  have lt_F_coder_o0 : LT.lt (α := Nat) o0 h0.size := F_coder_o0.lt
  show GoW p e below s 2 4 (Q15e Z o0 o1 ka u3 u4 h0 n0) (s₁.setTop (entryFrame m #[(.ref o0), (.ref o1)] 2))
  rw [ef_15e m o0 o1]
  refine GoW.pre (st' := s₁.setTop (mkF m 4 #[sR o0, sR o1] [(.ref o1), (.int (0 : Int32)), (.ref o1), (.ref o0)])) (fun target kt => ?_) ?_
  · show Steps p.tables e below (s₁.setTop (mkF m 0 #[sR o0, sR o1] [])) _
    refine XS.aloadN X0.here hx rfl (hb hby d15_0) rfl rfl ?_
    refine XS.aloadN X0.here hx rfl (hb hby d15_1) rfl rfl ?_
    refine XS.iconst X0.here hx rfl (hb hby d15_2) ?_
    refine XS.aloadN X0.here hx rfl (hb hby d15_3) rfl rfl ?_
    exact kt
  obtain ⟨cl1, Ar1, -, Sz1, Nn1, -, -⟩ := id A_o1
  have st1 := X0.arraylength hx (by rw [e0]; exact Ar1.1) (State.isArrayOf_alike hZ.alike Ar1.2.1) (g := (mkF m 4 #[sR o0, sR o1] [(.ref o1), (.int (0 : Int32)), (.ref o1), (.ref o0)])) rfl rfl (hb hby d15_4)
  rw [len_of Sz1 Nn1] at st1
  refine GoW.pre st1 ?_
  show GoW p e below s _ _ _ (s₁.setTop (mkF m 5 #[sR o0, sR o1] [(.int (0 : Int32)), (.int (0 : Int32)), (.ref o1), (.ref o0)]))
  refine GoW.pre (st' := s₁.setTop (mkF m 6 #[sR o0, sR o1] [.null, (.int (0 : Int32)), (.int (0 : Int32)), (.ref o1), (.ref o0)])) (fun target kt => ?_) ?_
  · show Steps p.tables e below (s₁.setTop (mkF m 5 #[sR o0, sR o1] [(.int (0 : Int32)), (.int (0 : Int32)), (.ref o1), (.ref o0)])) _
    refine XS.aconstNull X0.here hx rfl (hb hby d15_5) ?_
    exact kt
  obtain ⟨_, _, ⟨T2, L2, k2, n2⟩, -, X2', hS2, hgr2, ⟨Lc2, hQ2, l2, y2, z2⟩, st2⟩ := X0.specialBackS hx (y := (⟨"java/lang/String", "<init>", "([CIILjava/lang/Void;)V"⟩ : MethodName)) rfl hown (mvT hZ (ow hw 100 rfl)) (mvT hZ (ow hw 101 rfl)) (mvT hZ (ow hw 102 rfl)) (by decide) (backOfSI (W := 0) (rm16e l Z a0 hw [] o0 o1 u3 u4 h0 n0 (by omega) hcw hheld Ol F_value_o0 E_o0 (by omega) F_coder_o0) hZ (ow hw 102 rfl) (ow hw 1 rfl) (by decide) (by decide)) (g := (mkF m 6 #[sR o0, sR o1] [.null, (.int (0 : Int32)), (.int (0 : Int32)), (.ref o1), (.ref o0)])) rfl (by rw [hml]; rfl) (Steps.refl _) (a := o0) (argsL := [(.ref o1), (.int (0 : Int32)), (.int (0 : Int32)), .null]) (rest := []) (lenOf pd15e_0 rfl) rfl (by show 2 * 0 + _ ≤ _; exact Nat.le_of_eq rfl) (hb hby d15_6) (fun vm₁ hvm => ⟨rfl, e0, (by decide : 0 + 2 ≤ _), (by decide : 0 + 4 ≤ _), IB.mv hI hvm⟩)
  dsimp only [Pt.U, Pt.locs, Pt.cells, Pt.slots] at X2' l2 y2 z2 st2 hQ2 hS2 hgr2
  subst l2 y2 z2
  obtain ⟨X2, hS, hZ, hown⟩ := rebS hS (leH e0 (by omega)) X2' hS2 hgr2 hZ hown
  have hk := Nat.le_refl T2.heap.size
  obtain ⟨rfl, N2q, K2, KF2, Y2_0, hI⟩ := hQ2
  have sz2 : h0.size ≤ T2.heap.size := K2.1
  have N2 := Fr.app N0 N2q
  refine GoW.trans st2 ?_
  show GoW p e below s _ _ _ (T2.setTop (mkF m 9 #[sR o0, sR o1] []))
  exact GoW.ret0 X2 hS (leH rfl (by omega)) hx hlk hrt (hb hby d15_9) (by decide) (by decide) (by exact ⟨rfl, N2, ((Keep.refl h0 [o0]).trans K2 (allS (Or.inl (List.mem_of_getElem? (i := 0) rfl)) all0)), ((KF.refl Z h0 [(o0, Jvm.RoadKit.slotOf Z "java/lang/String" "value" "[B"), (o0, Jvm.RoadKit.slotOf Z "java/lang/String" "coder" "B")]).trans KF2 (pallS (Or.inl (List.mem_of_getElem? (i := 0) rfl)) (pallS (Or.inl (List.mem_of_getElem? (i := 1) rfl)) pall0))), Y2_0, IB.at X2 hI⟩)
/-! StringUTF16.compress (18c) -/
theorem d18_0 : decode jdk_52_method_21_code 0 = .ok (.iconst 0, 1) := by decide +kernel
theorem d18_1 : decode jdk_52_method_21_code 1 = .ok (.istore 5, 2) := by decide +kernel
theorem d18_3 : decode jdk_52_method_21_code 3 = .ok (.iload 5, 2) := by decide +kernel
theorem d18_5 : decode jdk_52_method_21_code 5 = .ok (.iload 4, 2) := by decide +kernel
theorem d18_7 : decode jdk_52_method_21_code 7 = .ok (.if_icmp .ge 37, 3) := by decide +kernel
theorem d18_10 : decode jdk_52_method_21_code 10 = .ok (.aload_n 0, 1) := by decide +kernel
theorem d18_11 : decode jdk_52_method_21_code 11 = .ok (.iload_n 1, 1) := by decide +kernel
theorem d18_12 : decode jdk_52_method_21_code 12 = .ok (.caload, 1) := by decide +kernel
theorem d18_13 : decode jdk_52_method_21_code 13 = .ok (.istore 6, 2) := by decide +kernel
theorem d18_15 : decode jdk_52_method_21_code 15 = .ok (.iload 6, 2) := by decide +kernel
theorem d18_17 : decode jdk_52_method_21_code 17 = .ok (.sipush 255, 3) := by decide +kernel
theorem d18_20 : decode jdk_52_method_21_code 20 = .ok (.if_icmp .le 6, 3) := by decide +kernel
theorem d18_26 : decode jdk_52_method_21_code 26 = .ok (.aload_n 2, 1) := by decide +kernel
theorem d18_27 : decode jdk_52_method_21_code 27 = .ok (.iload_n 3, 1) := by decide +kernel
theorem d18_28 : decode jdk_52_method_21_code 28 = .ok (.iload 6, 2) := by decide +kernel
theorem d18_30 : decode jdk_52_method_21_code 30 = .ok (.i2b, 1) := by decide +kernel
theorem d18_31 : decode jdk_52_method_21_code 31 = .ok (.bastore, 1) := by decide +kernel
theorem d18_32 : decode jdk_52_method_21_code 32 = .ok (.iinc 1 1, 3) := by decide +kernel
theorem d18_35 : decode jdk_52_method_21_code 35 = .ok (.iinc 3 1, 3) := by decide +kernel
theorem d18_38 : decode jdk_52_method_21_code 38 = .ok (.iinc 5 1, 3) := by decide +kernel
theorem d18_41 : decode jdk_52_method_21_code 41 = .ok (.goto (-38), 3) := by decide +kernel
theorem d18_44 : decode jdk_52_method_21_code 44 = .ok (.iload 4, 2) := by decide +kernel
theorem d18_46 : decode jdk_52_method_21_code 46 = .ok (.ireturn, 1) := by decide +kernel
theorem pn_18 : plainName "java/lang/StringUTF16" = true := by first | (simp [plainName, overriddenIn]; done) | decide +kernel
theorem ef_18c (m : MethodId) (o0 : Addr) (o2 : Addr) : entryFrame m #[(.ref o0), (.int (0 : Int32)), (.ref o2), (.int (0 : Int32)), (.int (2 : Int32))] 7 = (mkF m 0 #[.val (.ref o0), .val (.int (0 : Int32)), .val (.ref o2), .val (.int (0 : Int32)), .val (.int (2 : Int32)), .unset, .unset] []) := by first | (simp [entryFrame, mkF, argsToLocals, Value.category]; done) | rfl
def Q18c (Z : State) (o0 : Addr) (o2 : Addr) (ka : ClassId) (c0 : Int32) (c1 : Int32) (kb : ClassId) (h0 : Heap) (n0 : Nat) (v : Option Value) (h : Heap) (L : List Loc) : Prop := v = some (.int (2 : Int32)) ∧ Fr n0 L ∧ Keep h0 h [o2] ∧ KF Z h0 h [(o2, ((0 : Int32)).toNatClampNeg), (o2, ((1 : Int32)).toNatClampNeg)] ∧ Arv Z h o2 kb .byte (2 : Int32) [(.int (nar .byte (c0.toInt8.toInt32))), (.int (nar .byte (c1.toInt8.toInt32)))] (.int (0 : Int32))
set_option maxRecDepth 65536 in
set_option maxHeartbeats 40000000 in
theorem rm18c (l : Launch) (Z : State) (a0 : Array Value) (hw : ∀ d ∈ tables_1, d.before a0 Z = true) (ws : List Jvm.Cond) (o0 : Addr) (o2 : Addr) (ka : ClassId) (c0 : Int32) (c1 : Int32) (kb : ClassId) (h0 : Heap) (n0 : Nat) (Z0 : n0 ≤ h0.size) (A_c : Arv Z h0 o0 ka .char (2 : Int32) [(.int c0), (.int c1)] (.int (0 : Int32))) (A_d : Arv Z h0 o2 kb .byte (2 : Int32) [(.int (0 : Int32)), (.int (0 : Int32))] (.int (0 : Int32))) (n_02 : o0 ≠ o2) (g_o2 : n0 ≤ o2) (hle0 : ¬ ((255 : Int32) < c0)) (hle1 : ¬ ((255 : Int32) < c1)) :
    MetFree l (⟨"java/lang/StringUTF16", "compress", "([CI[BII)I"⟩ : MethodName) (head1 (Jvm.Cond.code (⟨"java/lang/StringUTF16", "compress", "([CI[BII)I"⟩ : MethodName) jdk_52_method_21_code 7 (some .int) :: ws) ({ frames := 0, cells := 0, slots := 0, locals := 0 } : Room)) (fun a U => a = #[(.ref o0), (.int (0 : Int32)), (.ref o2), (.int (0 : Int32)), (.int (2 : Int32))] ∧ Z.Warmed39 U.vm ∧ U.heap = h0) (fun _ _ _ _ _ => True) (fun _ U o U' => ∃ v L, o = .returned v ∧ Q18c Z o0 o2 ka c0 c1 kb h0 n0 v U'.heap L ∧ FrameEnd U o U' L ({ frames := 0, cells := 0, slots := 0, locals := 0 } : Room).cells ({ frames := 0, cells := 0, slots := 0, locals := 0 } : Room).slots) := by
  refine MetFree.of_bodySF (plainFor_of_name pn_18) hisR ?_
  intro p e s m args below meth c s₁ Bd hml0 hP hK
  obtain ⟨rfl, hZ, hh⟩ := hP
  have hx := Bd.exec
  have hby := Bd.bytes
  have hml : c.maxLocals = 7 := hml0
  have hown : s.vm.findClass "java/lang/StringUTF16" = some m.cls := findClass_of_methodNamed Bd.named
  have hnm := (name_of_methodNamed Bd.named Bd.method).1
  have hrt := Bd.returns
  have hlk := Bd.notSynchronized
  have X0 : Stand p l e ({ frames := 0, cells := 0, slots := 0, locals := 0 } : Room) s m #[(.ref o0), (.int (0 : Int32)), (.ref o2), (.int (0 : Int32)), (.int (2 : Int32))] below meth c s₁ [] 0 0 := Stand.of_body Bd
  have e0 : s₁.heap = h0 := by rw [← hh, Bd.state]; rfl
  have N0 := Fr.nil n0
  have lt_A_c : LT.lt (α := Nat) o0 h0.size := A_c.lt
  have lt_A_d : LT.lt (α := Nat) o2 h0.size := A_d.lt
  show Go p e below s 0 0 (Q18c Z o0 o2 ka c0 c1 kb h0 n0) (s₁.setTop (entryFrame m #[(.ref o0), (.int (0 : Int32)), (.ref o2), (.int (0 : Int32)), (.int (2 : Int32))] 7))
  rw [ef_18c m o0 o2]
  refine Go.pre (st' := s₁.setTop (mkF m 12 #[sR o0, sI (0 : Int32), sR o2, sI (0 : Int32), sI (2 : Int32), sI (0 : Int32), sU] [(.int (0 : Int32)), (.ref o0)])) (fun target kt => ?_) ?_
  · show Steps p.tables e below (s₁.setTop (mkF m 0 #[sR o0, sI (0 : Int32), sR o2, sI (0 : Int32), sI (2 : Int32), sU, sU] [])) _
    refine XS.iconst X0.here hx rfl (hb hby d18_0) ?_
    refine XS.istore X0.here hx rfl (hb hby d18_1) rfl (l' := #[.val (.ref o0), .val (.int (0 : Int32)), .val (.ref o2), .val (.int (0 : Int32)), .val (.int (2 : Int32)), .val (.int (0 : Int32)), .unset]) rfl ?_
    refine XS.iload X0.here hx rfl (hb hby d18_3) rfl ?_
    refine XS.iload X0.here hx rfl (hb hby d18_5) rfl ?_
    refine XS.icmpNo X0.here hx rfl (hb hby d18_7) rfl (tlt (by decide)).2.1 ?_
    refine XS.aloadN X0.here hx rfl (hb hby d18_10) rfl rfl ?_
    refine XS.iloadN X0.here hx rfl (hb hby d18_11) rfl ?_
    exact kt
  obtain ⟨cl1, Ar1, q1, Sz1, Nn1, Hs1, Gs1⟩ := id A_c
  have in1 := inb_of (j := (0 : Int32)) Sz1 ⟨by decide, by decide⟩
  have at1 : cl1.slots[((0 : Int32)).toNatClampNeg]? = some (.int c0) := Has.at Hs1 in1 rfl
  refine Go.pre (X0.caload hx (j := (0 : Int32)) (v := (.int c0)) (by rw [e0]; exact Ar1.1) (State.isArrayOf_alike hZ.alike Ar1.2.1) Ar1.2.2 in1 at1 (g := (mkF m 12 #[sR o0, sI (0 : Int32), sR o2, sI (0 : Int32), sI (2 : Int32), sI (0 : Int32), sU] [(.int (0 : Int32)), (.ref o0)])) rfl rfl (hb hby d18_12)) ?_
  show Go p e below s _ _ _ (s₁.setTop (mkF m 13 #[sR o0, sI (0 : Int32), sR o2, sI (0 : Int32), sI (2 : Int32), sI (0 : Int32), sU] [(.int c0)]))
  refine Go.pre (st' := s₁.setTop (mkF m 31 #[sR o0, sI (0 : Int32), sR o2, sI (0 : Int32), sI (2 : Int32), sI (0 : Int32), sI c0] [(.int (c0.toInt8.toInt32)), (.int (0 : Int32)), (.ref o2)])) (fun target kt => ?_) ?_
  · show Steps p.tables e below (s₁.setTop (mkF m 13 #[sR o0, sI (0 : Int32), sR o2, sI (0 : Int32), sI (2 : Int32), sI (0 : Int32), sU] [(.int c0)])) _
    refine XS.istore X0.here hx rfl (hb hby d18_13) rfl (l' := #[.val (.ref o0), .val (.int (0 : Int32)), .val (.ref o2), .val (.int (0 : Int32)), .val (.int (2 : Int32)), .val (.int (0 : Int32)), .val (.int c0)]) rfl ?_
    refine XS.iload X0.here hx rfl (hb hby d18_15) rfl ?_
    refine XS.sipush X0.here hx rfl (hb hby d18_17) ?_
    refine XS.icmpYes X0.here hx rfl (pc0 := 20) (pc' := 26) rfl (hb hby d18_20) rfl (flt hle0).2.2.2 (by decide) (by decide) ?_
    refine XS.aloadN X0.here hx rfl (hb hby d18_26) rfl rfl ?_
    refine XS.iloadN X0.here hx rfl (hb hby d18_27) rfl ?_
    refine XS.iload X0.here hx rfl (hb hby d18_28) rfl ?_
    refine XS.i2b X0.here hx rfl (hb hby d18_30) rfl ?_
    exact kt
  obtain ⟨cl2, Ar2, q2, Sz2, Nn2, Hs2, Gs2⟩ := id A_d
  have in2 := inb_of (j := (0 : Int32)) Sz2 ⟨by decide, by decide⟩
  obtain ⟨T2, h2, X2, e2, W2, st2⟩ := stB X0 hx hZ e0 Ar2 (j := (0 : Int32)) in2 (g := (mkF m 31 #[sR o0, sI (0 : Int32), sR o2, sI (0 : Int32), sI (2 : Int32), sI (0 : Int32), sI c0] [(.int (c0.toInt8.toInt32)), (.int (0 : Int32)), (.ref o2)])) rfl rfl (hb hby d18_31)
  have sz2 : h0.size ≤ h2.size := (Keep.of_wr W2).1
  have V2 : Arv Z h2 o2 kb .byte (2 : Int32) [(.int (nar .byte (c0.toInt8.toInt32))), (.int (0 : Int32))] (.int (0 : Int32)) := Arv.set Ar2 q2 Sz2 Nn2 Hs2 Gs2 (fits_nar_byte _) W2 0 rfl (Nat.le_of_ble_eq_true rfl)
  have N2 := Fr.snoc X2 N0 (by omega)
  refine Go.pre st2 ?_
  show Go p e below s _ _ _ (T2.setTop (mkF m 32 #[sR o0, sI (0 : Int32), sR o2, sI (0 : Int32), sI (2 : Int32), sI (0 : Int32), sI c0] []))
  refine Go.pre (st' := T2.setTop (mkF m 12 #[sR o0, sI (1 : Int32), sR o2, sI (1 : Int32), sI (2 : Int32), sI (1 : Int32), sI c0] [(.int (1 : Int32)), (.ref o0)])) (fun target kt => ?_) ?_
  · show Steps p.tables e below (T2.setTop (mkF m 32 #[sR o0, sI (0 : Int32), sR o2, sI (0 : Int32), sI (2 : Int32), sI (0 : Int32), sI c0] [])) _
    refine XS.iinc X2.here hx rfl (hb hby d18_32) rfl (l' := #[.val (.ref o0), .val (.int (1 : Int32)), .val (.ref o2), .val (.int (0 : Int32)), .val (.int (2 : Int32)), .val (.int (0 : Int32)), .val (.int c0)]) rfl ?_
    refine XS.iinc X2.here hx rfl (hb hby d18_35) rfl (l' := #[.val (.ref o0), .val (.int (1 : Int32)), .val (.ref o2), .val (.int (1 : Int32)), .val (.int (2 : Int32)), .val (.int (0 : Int32)), .val (.int c0)]) rfl ?_
    refine XS.iinc X2.here hx rfl (hb hby d18_38) rfl (l' := #[.val (.ref o0), .val (.int (1 : Int32)), .val (.ref o2), .val (.int (1 : Int32)), .val (.int (2 : Int32)), .val (.int (1 : Int32)), .val (.int c0)]) rfl ?_
    refine XS.goto X2.here hx rfl (pc0 := 41) (pc' := 3) rfl (hb hby d18_41) (by decide) (by decide) ?_
    refine XS.iload X2.here hx rfl (hb hby d18_3) rfl ?_
    refine XS.iload X2.here hx rfl (hb hby d18_5) rfl ?_
    refine XS.icmpNo X2.here hx rfl (hb hby d18_7) rfl (tlt (by decide)).2.1 ?_
    refine XS.aloadN X2.here hx rfl (hb hby d18_10) rfl rfl ?_
    refine XS.iloadN X2.here hx rfl (hb hby d18_11) rfl ?_
    exact kt
  have Y3 : Arv Z h2 o0 ka .char (2 : Int32) [(.int c0), (.int c1)] (.int (0 : Int32)) := (A_c.other W2 n_02)
  obtain ⟨cl4, Ar4, q4, Sz4, Nn4, Hs4, Gs4⟩ := id Y3
  have in4 := inb_of (j := (1 : Int32)) Sz4 ⟨by decide, by decide⟩
  have at4 : cl4.slots[((1 : Int32)).toNatClampNeg]? = some (.int c1) := Has.at Hs4 in4 rfl
  refine Go.pre (X2.caload hx (j := (1 : Int32)) (v := (.int c1)) (by rw [e2]; exact Ar4.1) (State.isArrayOf_alike hZ.alike Ar4.2.1) Ar4.2.2 in4 at4 (g := (mkF m 12 #[sR o0, sI (1 : Int32), sR o2, sI (1 : Int32), sI (2 : Int32), sI (1 : Int32), sI c0] [(.int (1 : Int32)), (.ref o0)])) rfl rfl (hb hby d18_12)) ?_
  show Go p e below s _ _ _ (T2.setTop (mkF m 13 #[sR o0, sI (1 : Int32), sR o2, sI (1 : Int32), sI (2 : Int32), sI (1 : Int32), sI c0] [(.int c1)]))
  refine Go.pre (st' := T2.setTop (mkF m 31 #[sR o0, sI (1 : Int32), sR o2, sI (1 : Int32), sI (2 : Int32), sI (1 : Int32), sI c1] [(.int (c1.toInt8.toInt32)), (.int (1 : Int32)), (.ref o2)])) (fun target kt => ?_) ?_
  · show Steps p.tables e below (T2.setTop (mkF m 13 #[sR o0, sI (1 : Int32), sR o2, sI (1 : Int32), sI (2 : Int32), sI (1 : Int32), sI c0] [(.int c1)])) _
    refine XS.istore X2.here hx rfl (hb hby d18_13) rfl (l' := #[.val (.ref o0), .val (.int (1 : Int32)), .val (.ref o2), .val (.int (1 : Int32)), .val (.int (2 : Int32)), .val (.int (1 : Int32)), .val (.int c1)]) rfl ?_
    refine XS.iload X2.here hx rfl (hb hby d18_15) rfl ?_
    refine XS.sipush X2.here hx rfl (hb hby d18_17) ?_
    refine XS.icmpYes X2.here hx rfl (pc0 := 20) (pc' := 26) rfl (hb hby d18_20) rfl (flt hle1).2.2.2 (by decide) (by decide) ?_
    refine XS.aloadN X2.here hx rfl (hb hby d18_26) rfl rfl ?_
    refine XS.iloadN X2.here hx rfl (hb hby d18_27) rfl ?_
    refine XS.iload X2.here hx rfl (hb hby d18_28) rfl ?_
    refine XS.i2b X2.here hx rfl (hb hby d18_30) rfl ?_
    exact kt
  obtain ⟨cl5, Ar5, q5, Sz5, Nn5, Hs5, Gs5⟩ := id V2
  have in5 := inb_of (j := (1 : Int32)) Sz5 ⟨by decide, by decide⟩
  obtain ⟨T5, h5, X5, e5, W5, st5⟩ := stB X2 hx hZ e2 Ar5 (j := (1 : Int32)) in5 (g := (mkF m 31 #[sR o0, sI (1 : Int32), sR o2, sI (1 : Int32), sI (2 : Int32), sI (1 : Int32), sI c1] [(.int (c1.toInt8.toInt32)), (.int (1 : Int32)), (.ref o2)])) rfl rfl (hb hby d18_31)
  have sz5 : h2.size ≤ h5.size := (Keep.of_wr W5).1
  have V5 : Arv Z h5 o2 kb .byte (2 : Int32) [(.int (nar .byte (c0.toInt8.toInt32))), (.int (nar .byte (c1.toInt8.toInt32)))] (.int (0 : Int32)) := Arv.set Ar5 q5 Sz5 Nn5 Hs5 Gs5 (fits_nar_byte _) W5 1 rfl (Nat.le_of_ble_eq_true rfl)
  have N5 := Fr.snoc X5 N2 (by omega)
  refine Go.pre st5 ?_
  show Go p e below s _ _ _ (T5.setTop (mkF m 32 #[sR o0, sI (1 : Int32), sR o2, sI (1 : Int32), sI (2 : Int32), sI (1 : Int32), sI c1] []))
  refine Go.pre (st' := T5.setTop (mkF m 46 #[sR o0, sI (2 : Int32), sR o2, sI (2 : Int32), sI (2 : Int32), sI (2 : Int32), sI c1] [(.int (2 : Int32))])) (fun target kt => ?_) ?_
  · show Steps p.tables e below (T5.setTop (mkF m 32 #[sR o0, sI (1 : Int32), sR o2, sI (1 : Int32), sI (2 : Int32), sI (1 : Int32), sI c1] [])) _
    refine XS.iinc X5.here hx rfl (hb hby d18_32) rfl (l' := #[.val (.ref o0), .val (.int (2 : Int32)), .val (.ref o2), .val (.int (1 : Int32)), .val (.int (2 : Int32)), .val (.int (1 : Int32)), .val (.int c1)]) rfl ?_
    refine XS.iinc X5.here hx rfl (hb hby d18_35) rfl (l' := #[.val (.ref o0), .val (.int (2 : Int32)), .val (.ref o2), .val (.int (2 : Int32)), .val (.int (2 : Int32)), .val (.int (1 : Int32)), .val (.int c1)]) rfl ?_
    refine XS.iinc X5.here hx rfl (hb hby d18_38) rfl (l' := #[.val (.ref o0), .val (.int (2 : Int32)), .val (.ref o2), .val (.int (2 : Int32)), .val (.int (2 : Int32)), .val (.int (2 : Int32)), .val (.int c1)]) rfl ?_
    refine XS.goto X5.here hx rfl (pc0 := 41) (pc' := 3) rfl (hb hby d18_41) (by decide) (by decide) ?_
    refine XS.iload X5.here hx rfl (hb hby d18_3) rfl ?_
    refine XS.iload X5.here hx rfl (hb hby d18_5) rfl ?_
    refine XS.icmpYes X5.here hx rfl (pc0 := 7) (pc' := 44) rfl (hb hby d18_7) rfl (flt (by decide)).2.1 (by decide) (by decide) ?_
    refine XS.iload X5.here hx rfl (hb hby d18_44) rfl ?_
    exact kt
  exact Go.retV X5 hx hlk hrt rfl (Or.inl ⟨rfl, Or.inl rfl, _, rfl⟩) (hb hby d18_46) (by decide) (by decide) (by rw [e5]; exact ⟨rfl, N5, (((Keep.refl h0 [o2]).wr W2 (Or.inl (List.mem_of_getElem? (i := 0) rfl))).wr W5 (Or.inl (List.mem_of_getElem? (i := 0) rfl))), (((KF.refl Z h0 [(o2, ((0 : Int32)).toNatClampNeg), (o2, ((1 : Int32)).toNatClampNeg)]).wr W2 (Or.inl (List.mem_of_getElem? (i := 0) rfl))).wr W5 (Or.inl (List.mem_of_getElem? (i := 1) rfl))), V5⟩)
/-! StringUTF16.compress (17c) -/
theorem d17_0 : decode jdk_52_method_16_code 0 = .ok (.iload_n 2, 1) := by decide +kernel
theorem d17_1 : decode jdk_52_method_16_code 1 = .ok (.newarray .byte, 2) := by decide +kernel
theorem d17_3 : decode jdk_52_method_16_code 3 = .ok (.astore_n 3, 1) := by decide +kernel
theorem d17_4 : decode jdk_52_method_16_code 4 = .ok (.aload_n 0, 1) := by decide +kernel
theorem d17_5 : decode jdk_52_method_16_code 5 = .ok (.iload_n 1, 1) := by decide +kernel
theorem d17_6 : decode jdk_52_method_16_code 6 = .ok (.aload_n 3, 1) := by decide +kernel
theorem d17_7 : decode jdk_52_method_16_code 7 = .ok (.iconst 0, 1) := by decide +kernel
theorem d17_8 : decode jdk_52_method_16_code 8 = .ok (.iload_n 2, 1) := by decide +kernel
theorem d17_9 : decode jdk_52_method_16_code 9 = .ok (.invokestatic 115, 3) := by decide +kernel
theorem d17_12 : decode jdk_52_method_16_code 12 = .ok (.istore 4, 2) := by decide +kernel
theorem d17_14 : decode jdk_52_method_16_code 14 = .ok (.iload 4, 2) := by decide +kernel
theorem d17_16 : decode jdk_52_method_16_code 16 = .ok (.iload_n 2, 1) := by decide +kernel
theorem d17_17 : decode jdk_52_method_16_code 17 = .ok (.if_icmp .eq 40, 3) := by decide +kernel
theorem d17_57 : decode jdk_52_method_16_code 57 = .ok (.aload_n 3, 1) := by decide +kernel
theorem d17_58 : decode jdk_52_method_16_code 58 = .ok (.areturn, 1) := by decide +kernel
theorem pn_17 : plainName "java/lang/StringUTF16" = true := by first | (simp [plainName, overriddenIn]; done) | decide +kernel
theorem pd17c_0 : parseMethodDescriptor "([CI[BII)I" = some ⟨[(.array .char), .int, (.array .byte), .int, .int], some .int⟩ := by decide +kernel
theorem ef_17c (m : MethodId) (o0 : Addr) : entryFrame m #[(.ref o0), (.int (0 : Int32)), (.int (2 : Int32))] 6 = (mkF m 0 #[.val (.ref o0), .val (.int (0 : Int32)), .val (.int (2 : Int32)), .unset, .unset, .unset] []) := by first | (simp [entryFrame, mkF, argsToLocals, Value.category]; done) | rfl
def Q17c (Z : State) (o0 : Addr) (ka : ClassId) (c0 : Int32) (c1 : Int32) (h0 : Heap) (n0 : Nat) (v : Option Value) (h : Heap) (L : List Loc) : Prop := ∃ b1 : Addr, ∃ k1 : ClassId, v = some (.ref b1) ∧ Fr n0 L ∧ Keep h0 h [] ∧ KF Z h0 h [] ∧ LE.le (α := Nat) h0.size b1 ∧ LT.lt (α := Nat) b1 h.size ∧ Arv Z h b1 k1 .byte (2 : Int32) [(.int (nar .byte (c0.toInt8.toInt32))), (.int (nar .byte (c1.toInt8.toInt32)))] (.int (0 : Int32))
set_option maxRecDepth 65536 in
set_option maxHeartbeats 40000000 in
theorem rm17c (l : Launch) (Z : State) (a0 : Array Value) (hw : ∀ d ∈ tables_1, d.before a0 Z = true) (ws : List Jvm.Cond) (o0 : Addr) (ka : ClassId) (c0 : Int32) (c1 : Int32) (h0 : Heap) (n0 : Nat) (Z0 : n0 ≤ h0.size) (A_c : Arv Z h0 o0 ka .char (2 : Int32) [(.int c0), (.int c1)] (.int (0 : Int32))) (hle0 : ¬ ((255 : Int32) < c0)) (hle1 : ¬ ((255 : Int32) < c1)) :
    MetFree l (⟨"java/lang/StringUTF16", "compress", "([CII)[B"⟩ : MethodName) (head1 (Jvm.Cond.code (⟨"java/lang/StringUTF16", "compress", "([CII)[B"⟩ : MethodName) jdk_52_method_16_code 6 (some (.array .byte)) :: ws) ({ frames := 1, cells := 1, slots := 2, locals := 18 } : Room)) (fun a U => a = #[(.ref o0), (.int (0 : Int32)), (.int (2 : Int32))] ∧ Z.Warmed39 U.vm ∧ U.heap = h0) (fun _ _ _ _ _ => True) (fun _ U o U' => ∃ v L, o = .returned v ∧ Q17c Z o0 ka c0 c1 h0 n0 v U'.heap L ∧ FrameEnd U o U' L ({ frames := 1, cells := 1, slots := 2, locals := 18 } : Room).cells ({ frames := 1, cells := 1, slots := 2, locals := 18 } : Room).slots) := by
  refine MetFree.of_bodySF (plainFor_of_name pn_17) hisR ?_
  intro p e s m args below meth c s₁ Bd hml0 hP hK
  obtain ⟨rfl, hZ, hh⟩ := hP
  have hx := Bd.exec
  have hby := Bd.bytes
  have hml : c.maxLocals = 6 := hml0
  have hown : s.vm.findClass "java/lang/StringUTF16" = some m.cls := findClass_of_methodNamed Bd.named
  have hnm := (name_of_methodNamed Bd.named Bd.method).1
  have hrt := Bd.returns
  have hlk := Bd.notSynchronized
  have X0 : Stand p l e ({ frames := 1, cells := 1, slots := 2, locals := 18 } : Room) s m #[(.ref o0), (.int (0 : Int32)), (.int (2 : Int32))] below meth c s₁ [] 0 0 := Stand.of_body Bd
  have e0 : s₁.heap = h0 := by rw [← hh, Bd.state]; rfl
  have N0 := Fr.nil n0
  have lt_A_c : LT.lt (α := Nat) o0 h0.size := A_c.lt
  show Go p e below s 1 2 (Q17c Z o0 ka c0 c1 h0 n0) (s₁.setTop (entryFrame m #[(.ref o0), (.int (0 : Int32)), (.int (2 : Int32))] 6))
  rw [ef_17c m o0]
  refine Go.pre (st' := s₁.setTop (mkF m 1 #[sR o0, sI (0 : Int32), sI (2 : Int32), sU, sU, sU] [(.int (2 : Int32))])) (fun target kt => ?_) ?_
  · show Steps p.tables e below (s₁.setTop (mkF m 0 #[sR o0, sI (0 : Int32), sI (2 : Int32), sU, sU, sU] [])) _
    refine XS.iloadN X0.here hx rfl (hb hby d17_0) rfl ?_
    exact kt
  obtain ⟨T1, h1, k1, X1, e1, E1, A1, st1⟩ := newP X0 hx hZ (ow hw 3 rfl) e0 (g := (mkF m 1 #[sR o0, sI (0 : Int32), sI (2 : Int32), sU, sU, sU] [(.int (2 : Int32))])) rfl (hb hby d17_1) rfl (by decide) (cap := 2) (by decide) (by decide) (by decide) (by decide)
  obtain ⟨b1, g1⟩ : ∃ z, z = h0.size := ⟨_, rfl⟩
  rw [← g1] at A1 st1
  have sz1 : h0.size ≤ h1.size := E1.1
  have V1 : Arv Z h1 b1 k1 .byte (2 : Int32) [(.int (0 : Int32)), (.int (0 : Int32))] (.int (0 : Int32)) := (Arv.new A1 (by decide)).pad (pad_rep [] (.int (0 : Int32)) 2)
  have lt1 : b1 < h1.size := V1.lt
  refine Go.pre st1 ?_
  show Go p e below s _ _ _ (T1.setTop (mkF m 3 #[sR o0, sI (0 : Int32), sI (2 : Int32), sU, sU, sU] [(.ref b1)]))
  refine Go.pre (st' := T1.setTop (mkF m 9 #[sR o0, sI (0 : Int32), sI (2 : Int32), sR b1, sU, sU] [(.int (2 : Int32)), (.int (0 : Int32)), (.ref b1), (.int (0 : Int32)), (.ref o0)])) (fun target kt => ?_) ?_
  · show Steps p.tables e below (T1.setTop (mkF m 3 #[sR o0, sI (0 : Int32), sI (2 : Int32), sU, sU, sU] [(.ref b1)])) _
    refine XS.astoreN X1.here hx rfl (hb hby d17_3) rfl rfl (l' := #[.val (.ref o0), .val (.int (0 : Int32)), .val (.int (2 : Int32)), .val (.ref b1), .unset, .unset]) rfl ?_
    refine XS.aloadN X1.here hx rfl (hb hby d17_4) rfl rfl ?_
    refine XS.iloadN X1.here hx rfl (hb hby d17_5) rfl ?_
    refine XS.aloadN X1.here hx rfl (hb hby d17_6) rfl rfl ?_
    refine XS.iconst X1.here hx rfl (hb hby d17_7) ?_
    refine XS.iloadN X1.here hx rfl (hb hby d17_8) rfl ?_
    exact kt
  have Y3 : Arv Z h1 o0 ka .char (2 : Int32) [(.int c0), (.int c1)] (.int (0 : Int32)) := (A_c.ext E1)
  obtain ⟨_, _, ⟨T2, L2, k2, n2⟩, -, X2, ⟨Lc2, hQ2, l2, y2, z2⟩, st2⟩ := Jvm.LawKit.callS X1 hx (y := (⟨"java/lang/StringUTF16", "compress", "([CI[BII)I"⟩ : MethodName)) hown (mvT hZ (ow hw 112 rfl)) (mvT hZ (ow hw 113 rfl)) (mvT hZ (ow hw 110 rfl)) (mvT hZ (ow hw 114 rfl)) (by decide) (backOf (W := 0) (rm18c l Z a0 hw [] o0 b1 ka c0 c1 k1 h1 n0 (by omega) Y3 V1 (neN (by omega)) (by omega) hle0 hle1) hZ (ow hw 114 rfl) (ow hw 110 rfl) (by decide) (by decide)) (g := (mkF m 9 #[sR o0, sI (0 : Int32), sI (2 : Int32), sR b1, sU, sU] [(.int (2 : Int32)), (.int (0 : Int32)), (.ref b1), (.int (0 : Int32)), (.ref o0)])) rfl (by rw [hml]; rfl) (argsL := [(.ref o0), (.int (0 : Int32)), (.ref b1), (.int (0 : Int32)), (.int (2 : Int32))]) (rest := []) (lenOf pd17c_0 rfl) rfl (by show 2 * 0 + _ ≤ _; exact Nat.le_of_eq rfl) (hb hby d17_9) (fun vm₁ hvm => ⟨rfl, e1, (by decide : 1 + 0 ≤ _), (by decide : 2 + 0 ≤ _)⟩)
  dsimp only [Pt.U, Pt.locs, Pt.cells, Pt.slots] at X2 l2 y2 z2 st2 hQ2
  subst l2 y2 z2
  obtain ⟨rfl, N2q, K2, KF2, Y2_0⟩ := hQ2
  have sz2 : h1.size ≤ T2.heap.size := K2.1
  have N2 := Fr.app N0 N2q
  refine Go.pre st2 ?_
  show Go p e below s _ _ _ (T2.setTop (mkF m 12 #[sR o0, sI (0 : Int32), sI (2 : Int32), sR b1, sU, sU] [(.int (2 : Int32))]))
  refine Go.pre (st' := T2.setTop (mkF m 58 #[sR o0, sI (0 : Int32), sI (2 : Int32), sR b1, sI (2 : Int32), sU] [(.ref b1)])) (fun target kt => ?_) ?_
  · show Steps p.tables e below (T2.setTop (mkF m 12 #[sR o0, sI (0 : Int32), sI (2 : Int32), sR b1, sU, sU] [(.int (2 : Int32))])) _
    refine XS.istore X2.here hx rfl (hb hby d17_12) rfl (l' := #[.val (.ref o0), .val (.int (0 : Int32)), .val (.int (2 : Int32)), .val (.ref b1), .val (.int (2 : Int32)), .unset]) rfl ?_
    refine XS.iload X2.here hx rfl (hb hby d17_14) rfl ?_
    refine XS.iloadN X2.here hx rfl (hb hby d17_16) rfl ?_
    refine XS.icmpYes X2.here hx rfl (pc0 := 17) (pc' := 57) rfl (hb hby d17_17) rfl (teq (by decide)).1 (by decide) (by decide) ?_
    refine XS.aloadN X2.here hx rfl (hb hby d17_57) rfl rfl ?_
    exact kt
  exact Go.retV X2 hx hlk hrt rfl (Or.inr (Or.inr (Or.inr (Or.inr ⟨rfl, rfl, rfl⟩)))) (hb hby d17_58) (by decide) (by decide) (by exact ⟨b1, k1, rfl, N2, (((Keep.refl h0 []).ext E1).trans K2 (allS (Or.inr (by omega)) all0)), (((KF.refl Z h0 []).ext E1).trans KF2 (pallS (Or.inr (by show _ ≤ b1; omega)) (pallS (Or.inr (by show _ ≤ b1; omega)) pall0))), by omega, by omega, Y2_0⟩)
/-! StringUTF16.coderFromArrayLen (19c) -/
theorem d19_0 : decode jdk_52_method_15_code 0 = .ok (.iload_n 1, 1) := by decide +kernel
theorem d19_1 : decode jdk_52_method_15_code 1 = .ok (.aload_n 0, 1) := by decide +kernel
theorem d19_2 : decode jdk_52_method_15_code 2 = .ok (.arraylength, 1) := by decide +kernel
theorem d19_3 : decode jdk_52_method_15_code 3 = .ok (.isub, 1) := by decide +kernel
theorem d19_4 : decode jdk_52_method_15_code 4 = .ok (.bipush 31, 2) := by decide +kernel
theorem d19_6 : decode jdk_52_method_15_code 6 = .ok (.iushr, 1) := by decide +kernel
theorem d19_7 : decode jdk_52_method_15_code 7 = .ok (.i2b, 1) := by decide +kernel
theorem d19_8 : decode jdk_52_method_15_code 8 = .ok (.ireturn, 1) := by decide +kernel
theorem pn_19 : plainName "java/lang/StringUTF16" = true := by first | (simp [plainName, overriddenIn]; done) | decide +kernel
theorem ef_19c (m : MethodId) (o0 : Addr) : entryFrame m #[(.ref o0), (.int (2 : Int32))] 2 = (mkF m 0 #[.val (.ref o0), .val (.int (2 : Int32))] []) := by first | (simp [entryFrame, mkF, argsToLocals, Value.category]; done) | rfl
def Q19c (Z : State) (o0 : Addr) (ka : ClassId) (c0 : Int32) (c1 : Int32) (h0 : Heap) (n0 : Nat) (v : Option Value) (h : Heap) (L : List Loc) : Prop := v = some (.int (nar .byte (0 : Int32))) ∧ Fr n0 L ∧ h = h0
set_option maxRecDepth 65536 in
set_option maxHeartbeats 40000000 in
theorem rm19c (l : Launch) (Z : State) (a0 : Array Value) (hw : ∀ d ∈ tables_1, d.before a0 Z = true) (ws : List Jvm.Cond) (o0 : Addr) (ka : ClassId) (c0 : Int32) (c1 : Int32) (h0 : Heap) (n0 : Nat) (Z0 : n0 ≤ h0.size) (A_c : Arv Z h0 o0 ka .byte (2 : Int32) [(.int c0), (.int c1)] (.int (0 : Int32))) :
    MetFree l (⟨"java/lang/StringUTF16", "coderFromArrayLen", "([BI)B"⟩ : MethodName) (head1 (Jvm.Cond.code (⟨"java/lang/StringUTF16", "coderFromArrayLen", "([BI)B"⟩ : MethodName) jdk_52_method_15_code 2 (some .byte) :: ws) ({ frames := 0, cells := 0, slots := 0, locals := 0 } : Room)) (fun a U => a = #[(.ref o0), (.int (2 : Int32))] ∧ Z.Warmed39 U.vm ∧ U.heap = h0) (fun _ _ _ _ _ => True) (fun _ U o U' => ∃ v L, o = .returned v ∧ Q19c Z o0 ka c0 c1 h0 n0 v U'.heap L ∧ FrameEnd U o U' L ({ frames := 0, cells := 0, slots := 0, locals := 0 } : Room).cells ({ frames := 0, cells := 0, slots := 0, locals := 0 } : Room).slots) := by
  refine MetFree.of_bodySF (plainFor_of_name pn_19) hisR ?_
  intro p e s m args below meth c s₁ Bd hml0 hP hK
  obtain ⟨rfl, hZ, hh⟩ := hP
  have hx := Bd.exec
  have hby := Bd.bytes
  have hml : c.maxLocals = 2 := hml0
  have hown : s.vm.findClass "java/lang/StringUTF16" = some m.cls := findClass_of_methodNamed Bd.named
  have hnm := (name_of_methodNamed Bd.named Bd.method).1
  have hrt := Bd.returns
  have hlk := Bd.notSynchronized
  have X0 : Stand p l e ({ frames := 0, cells := 0, slots := 0, locals := 0 } : Room) s m #[(.ref o0), (.int (2 : Int32))] below meth c s₁ [] 0 0 := Stand.of_body Bd
  have e0 : s₁.heap = h0 := by rw [← hh, Bd.state]; rfl
  have N0 := Fr.nil n0
  have lt_A_c : LT.lt (α := Nat) o0 h0.size := A_c.lt
  show Go p e below s 0 0 (Q19c Z o0 ka c0 c1 h0 n0) (s₁.setTop (entryFrame m #[(.ref o0), (.int (2 : Int32))] 2))
  rw [ef_19c m o0]
  refine Go.pre (st' := s₁.setTop (mkF m 2 #[sR o0, sI (2 : Int32)] [(.ref o0), (.int (2 : Int32))])) (fun target kt => ?_) ?_
  · show Steps p.tables e below (s₁.setTop (mkF m 0 #[sR o0, sI (2 : Int32)] [])) _
    refine XS.iloadN X0.here hx rfl (hb hby d19_0) rfl ?_
    refine XS.aloadN X0.here hx rfl (hb hby d19_1) rfl rfl ?_
    exact kt
  obtain ⟨cl1, Ar1, -, Sz1, Nn1, -, -⟩ := id A_c
  have st1 := X0.arraylength hx (by rw [e0]; exact Ar1.1) (State.isArrayOf_alike hZ.alike Ar1.2.1) (g := (mkF m 2 #[sR o0, sI (2 : Int32)] [(.ref o0), (.int (2 : Int32))])) rfl rfl (hb hby d19_2)
  rw [len_of Sz1 Nn1] at st1
  refine Go.pre st1 ?_
  show Go p e below s _ _ _ (s₁.setTop (mkF m 3 #[sR o0, sI (2 : Int32)] [(.int (2 : Int32)), (.int (2 : Int32))]))
  refine Go.pre (st' := s₁.setTop (mkF m 8 #[sR o0, sI (2 : Int32)] [(.int (0 : Int32))])) (fun target kt => ?_) ?_
  · show Steps p.tables e below (s₁.setTop (mkF m 3 #[sR o0, sI (2 : Int32)] [(.int (2 : Int32)), (.int (2 : Int32))])) _
    refine XS.isub X0.here hx rfl (hb hby d19_3) rfl ?_
    refine XS.bipush X0.here hx rfl (hb hby d19_4) ?_
    refine XS.iushr X0.here hx rfl (hb hby d19_6) rfl ?_
    refine XS.i2b X0.here hx rfl (hb hby d19_7) rfl ?_
    exact kt
  exact Go.retN X0 hx hlk hrt (z' := (nar .byte (0 : Int32))) (by simp) (hb hby d19_8) rfl (by decide) (by decide) (by rw [e0]; exact ⟨rfl, N0, rfl⟩)
/-! String.<init> (16c) -/
theorem d16_27 : decode jdk_42_method_149_code 27 = .ok (.getstatic 38, 3) := by decide +kernel
theorem d16_30 : decode jdk_42_method_149_code 30 = .ok (.ifCond .eq 28, 3) := by decide +kernel
theorem d16_33 : decode jdk_42_method_149_code 33 = .ok (.aload_n 1, 1) := by decide +kernel
theorem d16_34 : decode jdk_42_method_149_code 34 = .ok (.iload_n 2, 1) := by decide +kernel
theorem d16_35 : decode jdk_42_method_149_code 35 = .ok (.iload_n 3, 1) := by decide +kernel
theorem d16_36 : decode jdk_42_method_149_code 36 = .ok (.invokestatic 177, 3) := by decide +kernel
theorem d16_39 : decode jdk_42_method_149_code 39 = .ok (.astore 5, 2) := by decide +kernel
theorem d16_41 : decode jdk_42_method_149_code 41 = .ok (.aload_n 0, 1) := by decide +kernel
theorem d16_42 : decode jdk_42_method_149_code 42 = .ok (.aload 5, 2) := by decide +kernel
theorem d16_44 : decode jdk_42_method_149_code 44 = .ok (.iload_n 3, 1) := by decide +kernel
theorem d16_45 : decode jdk_42_method_149_code 45 = .ok (.invokestatic 47, 3) := by decide +kernel
theorem d16_48 : decode jdk_42_method_149_code 48 = .ok (.putfield 15, 3) := by decide +kernel
theorem d16_51 : decode jdk_42_method_149_code 51 = .ok (.aload_n 0, 1) := by decide +kernel
theorem d16_52 : decode jdk_42_method_149_code 52 = .ok (.aload 5, 2) := by decide +kernel
theorem d16_54 : decode jdk_42_method_149_code 54 = .ok (.putfield 9, 3) := by decide +kernel
theorem d16_57 : decode jdk_42_method_149_code 57 = .ok (.return_, 1) := by decide +kernel
theorem pd16c_0 : parseMethodDescriptor "([CII)[B" = some ⟨[(.array .char), .int, .int], some (.array .byte)⟩ := by decide +kernel
theorem pd16c_1 : parseMethodDescriptor "([BI)B" = some ⟨[(.array .byte), .int], some .byte⟩ := by decide +kernel
theorem ef_16c (m : MethodId) (o0 : Addr) (o1 : Addr) : entryFrame m #[(.ref o0), (.ref o1), (.int (0 : Int32)), (.int (2 : Int32)), .null] 6 = (mkF m 0 #[.val (.ref o0), .val (.ref o1), .val (.int (0 : Int32)), .val (.int (2 : Int32)), .val .null, .unset] []) := by first | (simp [entryFrame, mkF, argsToLocals, Value.category]; done) | rfl
def Q16c (Z : State) (o0 : Addr) (o1 : Addr) (ka : ClassId) (c0 : Int32) (c1 : Int32) (zc : Int32) (u5 : Value) (u10 : Value) (h0 : Heap) (n0 : Nat) (v : Option Value) (h : Heap) (L : List Loc) : Prop := ∃ b3_0 : Addr, ∃ k3_0 : ClassId, v = none ∧ Fr n0 L ∧ Keep h0 h [o0] ∧ KF Z h0 h [(o0, Jvm.RoadKit.slotOf Z "java/lang/String" "coder" "B"), (o0, Jvm.RoadKit.slotOf Z "java/lang/String" "value" "[B")] ∧ LE.le (α := Nat) h0.size b3_0 ∧ LT.lt (α := Nat) b3_0 h.size ∧ Fld Z h o0 "java/lang/String" "coder" "B" (.int (nar .byte (nar .byte (0 : Int32)))) ∧ Fld Z h o0 "java/lang/String" "value" "[B" (.ref b3_0) ∧ Arv Z h b3_0 k3_0 .byte (2 : Int32) [(.int (nar .byte (c0.toInt8.toInt32))), (.int (nar .byte (c1.toInt8.toInt32)))] (.int (0 : Int32))
set_option maxRecDepth 65536 in
set_option maxHeartbeats 40000000 in
theorem rm16c (l : Launch) (Z : State) (a0 : Array Value) (hw : ∀ d ∈ tables_1, d.before a0 Z = true) (ws : List Jvm.Cond) (o0 : Addr) (o1 : Addr) (ka : ClassId) (c0 : Int32) (c1 : Int32) (zc : Int32) (u5 : Value) (u10 : Value) (h0 : Heap) (n0 : Nat) (Z0 : n0 ≤ h0.size) (A_c : Arv Z h0 o1 ka .char (2 : Int32) [(.int c0), (.int c1)] (.int (0 : Int32))) (S_COMPACT : Sta Z Z.heap "java/lang/String" "COMPACT_STRINGS" "Z" (.int zc)) (Ol : Old Z n0 h0) (F_coder_o0 : Fld Z h0 o0 "java/lang/String" "coder" "B" u5) (E_o0 : Exa Z h0 o0 "java/lang/String") (g_o0 : n0 ≤ o0) (F_value_o0 : Fld Z h0 o0 "java/lang/String" "value" "[B" u10) (hle0 : ¬ ((255 : Int32) < c0)) (hle1 : ¬ ((255 : Int32) < c1)) (hc30 : ¬ (zc = (0 : Int32))) :
    MetFree l (⟨"java/lang/String", "<init>", "([CIILjava/lang/Void;)V"⟩ : MethodName) (head1 (Jvm.Cond.code (⟨"java/lang/String", "<init>", "([CIILjava/lang/Void;)V"⟩ : MethodName) jdk_42_method_149_code 6 none :: ws) ({ frames := 2, cells := 1, slots := 2, locals := 35 } : Room)) (fun a U => a = #[(.ref o0), (.ref o1), (.int (0 : Int32)), (.int (2 : Int32)), .null] ∧ Z.Warmed39 U.vm ∧ U.heap = h0) (fun _ _ _ _ _ => True) (fun _ U o U' => ∃ v L, o = .returned v ∧ Q16c Z o0 o1 ka c0 c1 zc u5 u10 h0 n0 v U'.heap L ∧ FrameEnd U o U' L ({ frames := 2, cells := 1, slots := 2, locals := 35 } : Room).cells ({ frames := 2, cells := 1, slots := 2, locals := 35 } : Room).slots) := by
  refine MetFree.of_bodySF (plainFor_of_name pn_16) hisR ?_
  intro p e s m args below meth c s₁ Bd hml0 hP hK
  obtain ⟨rfl, hZ, hh⟩ := hP
  have hx := Bd.exec
  have hby := Bd.bytes
  have hml : c.maxLocals = 6 := hml0
  have hown : s.vm.findClass "java/lang/String" = some m.cls := findClass_of_methodNamed Bd.named
  have hnm := (name_of_methodNamed Bd.named Bd.method).1
  have hrt := Bd.returns
  have hlk := Bd.notSynchronized
  have X0 : Stand p l e ({ frames := 2, cells := 1, slots := 2, locals := 35 } : Room) s m #[(.ref o0), (.ref o1), (.int (0 : Int32)), (.int (2 : Int32)), .null] below meth c s₁ [] 0 0 := Stand.of_body Bd
  have e0 : s₁.heap = h0 := by rw [← hh, Bd.state]; rfl
  have N0 := Fr.nil n0
  have lt_A_c : LT.lt (α := Nat) o1 h0.size := A_c.lt
  have lt_F_coder_o0 : LT.lt (α := Nat) o0 h0.size := F_coder_o0.lt
  have lt_E_o0 : LT.lt (α := Nat) o0 h0.size := E_o0.lt
  have lt_F_value_o0 : LT.lt (α := Nat) o0 h0.size := F_value_o0.lt
  show Go p e below s 1 2 (Q16c Z o0 o1 ka c0 c1 zc u5 u10 h0 n0) (s₁.setTop (entryFrame m #[(.ref o0), (.ref o1), (.int (0 : Int32)), (.int (2 : Int32)), .null] 6))
  rw [ef_16c m o0 o1]
  refine Go.pre (st' := s₁.setTop (mkF m 1 #[sR o0, sR o1, sI (0 : Int32), sI (2 : Int32), sN, sU] [(.ref o0)])) (fun target kt => ?_) ?_
  · show Steps p.tables e below (s₁.setTop (mkF m 0 #[sR o0, sR o1, sI (0 : Int32), sI (2 : Int32), sN, sU] [])) _
    refine XS.aloadN X0.here hx rfl (hb hby d16_0) rfl rfl ?_
    exact kt
  obtain ⟨T1, X1, e1, st1⟩ := initO X0 hx hZ hown (ow hw 103 rfl) (ow hw 20 rfl) (ow hw 21 rfl) e0 (g := (mkF m 1 #[sR o0, sR o1, sI (0 : Int32), sI (2 : Int32), sN, sU] [(.ref o0)])) rfl (by rw [hml]; rfl) rfl (hb hby d16_1) (by decide) (W := 0) (by show 2 * 0 + _ ≤ _; exact Nat.le_of_eq rfl) (by decide)
  refine Go.pre st1 ?_
  show Go p e below s _ _ _ (T1.setTop (mkF m 4 #[sR o0, sR o1, sI (0 : Int32), sI (2 : Int32), sN, sU] []))
  refine Go.pre (st' := T1.setTop (mkF m 27 #[sR o0, sR o1, sI (0 : Int32), sI (2 : Int32), sN, sU] [])) (fun target kt => ?_) ?_
  · show Steps p.tables e below (T1.setTop (mkF m 4 #[sR o0, sR o1, sI (0 : Int32), sI (2 : Int32), sN, sU] [])) _
    refine XS.iloadN X1.here hx rfl (hb hby d16_4) rfl ?_
    refine XS.ifYes X1.here hx rfl (pc0 := 5) (pc' := 27) rfl (hb hby d16_5) rfl ((if0 _ _).trans (feq (by decide)).2) (by decide) (by decide) ?_
    exact kt
  obtain ⟨T2, X2, e2, st2⟩ := getS2 X1 hx hZ hown (host := "") (Or.inl (ow hw 107 rfl)) Via.refl e1 (S_COMPACT.ext Ol.2) (g := (mkF m 27 #[sR o0, sR o1, sI (0 : Int32), sI (2 : Int32), sN, sU] [])) rfl (hb hby d16_27)
  refine Go.pre st2 ?_
  show Go p e below s _ _ _ (T2.setTop (mkF m 30 #[sR o0, sR o1, sI (0 : Int32), sI (2 : Int32), sN, sU] [(.int zc)]))
  refine Go.pre (st' := T2.setTop (mkF m 36 #[sR o0, sR o1, sI (0 : Int32), sI (2 : Int32), sN, sU] [(.int (2 : Int32)), (.int (0 : Int32)), (.ref o1)])) (fun target kt => ?_) ?_
  · show Steps p.tables e below (T2.setTop (mkF m 30 #[sR o0, sR o1, sI (0 : Int32), sI (2 : Int32), sN, sU] [(.int zc)])) _
    refine XS.ifNo X2.here hx rfl (hb hby d16_30) rfl ((if0 _ _).trans (feq hc30).1) ?_
    refine XS.aloadN X2.here hx rfl (hb hby d16_33) rfl rfl ?_
    refine XS.iloadN X2.here hx rfl (hb hby d16_34) rfl ?_
    refine XS.iloadN X2.here hx rfl (hb hby d16_35) rfl ?_
    exact kt
  obtain ⟨_, _, ⟨T3, L3, k3, n3⟩, -, X3, ⟨Lc3, hQ3, l3, y3, z3⟩, st3⟩ := Jvm.LawKit.callS X2 hx (y := (⟨"java/lang/StringUTF16", "compress", "([CII)[B"⟩ : MethodName)) hown (mvT hZ (ow hw 108 rfl)) (mvT hZ (ow hw 109 rfl)) (mvT hZ (ow hw 110 rfl)) (mvT hZ (ow hw 111 rfl)) (by decide) (backOf (W := 0) (rm17c l Z a0 hw [] o1 ka c0 c1 h0 n0 (by omega) A_c hle0 hle1) hZ (ow hw 111 rfl) (ow hw 110 rfl) (by decide) (by decide)) (g := (mkF m 36 #[sR o0, sR o1, sI (0 : Int32), sI (2 : Int32), sN, sU] [(.int (2 : Int32)), (.int (0 : Int32)), (.ref o1)])) rfl (by rw [hml]; rfl) (argsL := [(.ref o1), (.int (0 : Int32)), (.int (2 : Int32))]) (rest := []) (lenOf pd16c_0 rfl) rfl (by show 2 * 0 + _ ≤ _; exact Nat.le_of_eq rfl) (hb hby d16_36) (fun vm₁ hvm => ⟨rfl, e2, (by decide : 0 + 1 ≤ _), (by decide : 0 + 2 ≤ _)⟩)
  dsimp only [Pt.U, Pt.locs, Pt.cells, Pt.slots] at X3 l3 y3 z3 st3 hQ3
  subst l3 y3 z3
  obtain ⟨b3_0, k3_0, rfl, N3q, K3, KF3, gb3_0, ltb3_0, Y3_0⟩ := hQ3
  have sz3 : h0.size ≤ T3.heap.size := K3.1
  have N3 := Fr.app N0 N3q
  refine Go.pre st3 ?_
  show Go p e below s _ _ _ (T3.setTop (mkF m 39 #[sR o0, sR o1, sI (0 : Int32), sI (2 : Int32), sN, sU] [(.ref b3_0)]))
  refine Go.pre (st' := T3.setTop (mkF m 45 #[sR o0, sR o1, sI (0 : Int32), sI (2 : Int32), sN, sR b3_0] [(.int (2 : Int32)), (.ref b3_0), (.ref o0)])) (fun target kt => ?_) ?_
  · show Steps p.tables e below (T3.setTop (mkF m 39 #[sR o0, sR o1, sI (0 : Int32), sI (2 : Int32), sN, sU] [(.ref b3_0)])) _
    refine XS.astore X3.here hx rfl (hb hby d16_39) rfl rfl (l' := #[.val (.ref o0), .val (.ref o1), .val (.int (0 : Int32)), .val (.int (2 : Int32)), .val .null, .val (.ref b3_0)]) rfl ?_
    refine XS.aloadN X3.here hx rfl (hb hby d16_41) rfl rfl ?_
    refine XS.aload X3.here hx rfl (hb hby d16_42) rfl rfl ?_
    refine XS.iloadN X3.here hx rfl (hb hby d16_44) rfl ?_
    exact kt
  obtain ⟨_, _, ⟨T4, L4, k4, n4⟩, -, X4, ⟨Lc4, hQ4, l4, y4, z4⟩, st4⟩ := Jvm.LawKit.callS X3 hx (y := (⟨"java/lang/StringUTF16", "coderFromArrayLen", "([BI)B"⟩ : MethodName)) hown (mvT hZ (ow hw 115 rfl)) (mvT hZ (ow hw 116 rfl)) (mvT hZ (ow hw 110 rfl)) (mvT hZ (ow hw 117 rfl)) (by decide) (backOf (W := 1) (rm19c l Z a0 hw [] b3_0 k3_0 (nar .byte (c0.toInt8.toInt32)) (nar .byte (c1.toInt8.toInt32)) T3.heap n0 (by omega) Y3_0) hZ (ow hw 117 rfl) (ow hw 110 rfl) (by decide) (by decide)) (g := (mkF m 45 #[sR o0, sR o1, sI (0 : Int32), sI (2 : Int32), sN, sR b3_0] [(.int (2 : Int32)), (.ref b3_0), (.ref o0)])) rfl (by rw [hml]; rfl) (argsL := [(.ref b3_0), (.int (2 : Int32))]) (rest := [(.ref o0)]) (lenOf pd16c_1 rfl) rfl (by show 2 * 0 + _ ≤ _; exact Nat.le_of_eq rfl) (hb hby d16_45) (fun vm₁ hvm => ⟨rfl, rfl, (by decide : 1 + 0 ≤ _), (by decide : 2 + 0 ≤ _)⟩)
  dsimp only [Pt.U, Pt.locs, Pt.cells, Pt.slots] at X4 l4 y4 z4 st4 hQ4
  subst l4 y4 z4
  obtain ⟨rfl, N4q, e4⟩ := hQ4
  have N4 := Fr.app N3 N4q
  refine Go.pre st4 ?_
  show Go p e below s _ _ _ (T4.setTop (mkF m 48 #[sR o0, sR o1, sI (0 : Int32), sI (2 : Int32), sN, sR b3_0] [(.int (nar .byte (0 : Int32))), (.ref o0)]))
  have Y6 : Fld Z T3.heap o0 "java/lang/String" "coder" "B" u5 := (F_coder_o0.keep K3 nin0)
  have Y7 : Exa Z T3.heap o0 "java/lang/String" := (E_o0.keep K3)
  obtain ⟨T8, h8, X8, e8, W8, st8⟩ := putFN X4 hx hZ hown (ow hw 106 rfl) Via.refl e4 Y6 Y7 (Or.inr ⟨(ow hw 5 rfl), rfl, hnm⟩) (ow hw 2 rfl) (ty := .byte) (v' := (.int (nar .byte (nar .byte (0 : Int32))))) (by decide) rfl (fits_nar_byte _) (g := (mkF m 48 #[sR o0, sR o1, sI (0 : Int32), sI (2 : Int32), sN, sR b3_0] [(.int (nar .byte (0 : Int32))), (.ref o0)])) rfl rfl (hb hby d16_48)
  have sz8 : T3.heap.size ≤ h8.size := (Keep.of_wr W8).1
  have Y9 : Fld Z h8 o0 "java/lang/String" "coder" "B" (.int (nar .byte (nar .byte (0 : Int32)))) := Y6.same W8
  have N8 := Fr.snoc X8 N4 (by omega)
  refine Go.pre st8 ?_
  show Go p e below s _ _ _ (T8.setTop (mkF m 51 #[sR o0, sR o1, sI (0 : Int32), sI (2 : Int32), sN, sR b3_0] []))
  refine Go.pre (st' := T8.setTop (mkF m 54 #[sR o0, sR o1, sI (0 : Int32), sI (2 : Int32), sN, sR b3_0] [(.ref b3_0), (.ref o0)])) (fun target kt => ?_) ?_
  · show Steps p.tables e below (T8.setTop (mkF m 51 #[sR o0, sR o1, sI (0 : Int32), sI (2 : Int32), sN, sR b3_0] [])) _
    refine XS.aloadN X8.here hx rfl (hb hby d16_51) rfl rfl ?_
    refine XS.aload X8.here hx rfl (hb hby d16_52) rfl rfl ?_
    exact kt
  have Y11 : Fld Z h8 o0 "java/lang/String" "value" "[B" u10 := ((F_value_o0.keep K3 nin0).other W8 (Or.inr (slot_ne (Or.inr (ow hw 4 rfl)) (Or.inr (ow hw 5 rfl)) (by decide) (t := (.array .byte)) (t' := .byte) (by decide) (by decide))))
  have Y12 : Exa Z h8 o0 "java/lang/String" := (Y7.wr W8)
  obtain ⟨T13, h13, X13, e13, W13, st13⟩ := putF X8 hx hZ hown (host := "") (Or.inl (ow hw 105 rfl)) Via.refl e8 Y11 Y12 (Or.inr ⟨(ow hw 4 rfl), rfl, hnm⟩) (ow hw 2 rfl) (ty := (.array .byte)) (by decide) rfl rfl (g := (mkF m 54 #[sR o0, sR o1, sI (0 : Int32), sI (2 : Int32), sN, sR b3_0] [(.ref b3_0), (.ref o0)])) rfl rfl (hb hby d16_54)
  have sz13 : h8.size ≤ h13.size := (Keep.of_wr W13).1
  have Y14 : Fld Z h13 o0 "java/lang/String" "value" "[B" (.ref b3_0) := Y11.same W13
  have N13 := Fr.snoc X13 N8 (by omega)
  refine Go.pre st13 ?_
  show Go p e below s _ _ _ (T13.setTop (mkF m 57 #[sR o0, sR o1, sI (0 : Int32), sI (2 : Int32), sN, sR b3_0] []))
  have Y15 : Fld Z h13 o0 "java/lang/String" "coder" "B" (.int (nar .byte (nar .byte (0 : Int32)))) := (Y9.other W13 (Or.inr (slot_ne (Or.inr (ow hw 5 rfl)) (Or.inr (ow hw 4 rfl)) (by decide) (t := .byte) (t' := (.array .byte)) (by decide) (by decide))))
  have Y16 : Arv Z h13 b3_0 k3_0 .byte (2 : Int32) [(.int (nar .byte (c0.toInt8.toInt32))), (.int (nar .byte (c1.toInt8.toInt32)))] (.int (0 : Int32)) := ((Y3_0.other W8 (neN (by omega))).other W13 (neN (by omega)))
  exact Go.ret0 X13 hx hlk hrt (hb hby d16_57) (by decide) (by decide) (by rw [e13]; exact ⟨b3_0, k3_0, rfl, N13, ((((Keep.refl h0 [o0]).trans K3 all0).wr W8 (Or.inl (List.mem_of_getElem? (i := 0) rfl))).wr W13 (Or.inl (List.mem_of_getElem? (i := 0) rfl))), ((((KF.refl Z h0 [(o0, Jvm.RoadKit.slotOf Z "java/lang/String" "coder" "B"), (o0, Jvm.RoadKit.slotOf Z "java/lang/String" "value" "[B")]).trans KF3 pall0).wr W8 (Or.inl (List.mem_of_getElem? (i := 0) rfl))).wr W13 (Or.inl (List.mem_of_getElem? (i := 1) rfl))), by omega, by omega, Y15, Y14, Y16⟩)
/-! String.<init> (15c) -/
theorem pd15c_0 : parseMethodDescriptor "([CIILjava/lang/Void;)V" = some ⟨[(.array .char), .int, .int, (.object "java/lang/Void")], none⟩ := by decide +kernel
theorem ef_15c (m : MethodId) (o0 : Addr) (o1 : Addr) : entryFrame m #[(.ref o0), (.ref o1)] 2 = (mkF m 0 #[.val (.ref o0), .val (.ref o1)] []) := by first | (simp [entryFrame, mkF, argsToLocals, Value.category]; done) | rfl
def Q15c (Z : State) (o0 : Addr) (o1 : Addr) (ka : ClassId) (c0 : Int32) (c1 : Int32) (zc : Int32) (u3 : Value) (u4 : Value) (h0 : Heap) (n0 : Nat) (v : Option Value) (h : Heap) (L : List Loc) : Prop := ∃ b2_0 : Addr, ∃ k2_0 : ClassId, v = none ∧ Fr n0 L ∧ Keep h0 h [o0] ∧ KF Z h0 h [(o0, Jvm.RoadKit.slotOf Z "java/lang/String" "coder" "B"), (o0, Jvm.RoadKit.slotOf Z "java/lang/String" "value" "[B")] ∧ LE.le (α := Nat) h0.size b2_0 ∧ LT.lt (α := Nat) b2_0 h.size ∧ Fld Z h o0 "java/lang/String" "coder" "B" (.int (nar .byte (nar .byte (0 : Int32)))) ∧ Fld Z h o0 "java/lang/String" "value" "[B" (.ref b2_0) ∧ Arv Z h b2_0 k2_0 .byte (2 : Int32) [(.int (nar .byte (c0.toInt8.toInt32))), (.int (nar .byte (c1.toInt8.toInt32)))] (.int (0 : Int32))
set_option maxRecDepth 65536 in
set_option maxHeartbeats 40000000 in
theorem rm15c (l : Launch) (Z : State) (a0 : Array Value) (hw : ∀ d ∈ tables_1, d.before a0 Z = true) (ws : List Jvm.Cond) (o0 : Addr) (o1 : Addr) (ka : ClassId) (c0 : Int32) (c1 : Int32) (zc : Int32) (u3 : Value) (u4 : Value) (h0 : Heap) (n0 : Nat) (Z0 : n0 ≤ h0.size) (A_c : Arv Z h0 o1 ka .char (2 : Int32) [(.int c0), (.int c1)] (.int (0 : Int32))) (S_COMPACT : Sta Z Z.heap "java/lang/String" "COMPACT_STRINGS" "Z" (.int zc)) (Ol : Old Z n0 h0) (F_coder_o0 : Fld Z h0 o0 "java/lang/String" "coder" "B" u3) (E_o0 : Exa Z h0 o0 "java/lang/String") (g_o0 : n0 ≤ o0) (F_value_o0 : Fld Z h0 o0 "java/lang/String" "value" "[B" u4) (hle0 : ¬ ((255 : Int32) < c0)) (hle1 : ¬ ((255 : Int32) < c1)) (hcs : ¬ (zc = (0 : Int32))) :
    MetFree l (⟨"java/lang/String", "<init>", "([C)V"⟩ : MethodName) (head1 (Jvm.Cond.code (⟨"java/lang/String", "<init>", "([C)V"⟩ : MethodName) jdk_42_method_3_code 2 none :: ws) ({ frames := 3, cells := 1, slots := 2, locals := 52 } : Room)) (fun a U => a = #[(.ref o0), (.ref o1)] ∧ Z.Warmed39 U.vm ∧ U.heap = h0) (fun _ _ _ _ _ => True) (fun _ U o U' => ∃ v L, o = .returned v ∧ Q15c Z o0 o1 ka c0 c1 zc u3 u4 h0 n0 v U'.heap L ∧ FrameEnd U o U' L ({ frames := 3, cells := 1, slots := 2, locals := 52 } : Room).cells ({ frames := 3, cells := 1, slots := 2, locals := 52 } : Room).slots) := by
  refine MetFree.of_bodySF (plainFor_of_name pn_15) hisR ?_
  intro p e s m args below meth c s₁ Bd hml0 hP hK
  obtain ⟨rfl, hZ, hh⟩ := hP
  have hx := Bd.exec
  have hby := Bd.bytes
  have hml : c.maxLocals = 2 := hml0
  have hown : s.vm.findClass "java/lang/String" = some m.cls := findClass_of_methodNamed Bd.named
  have hnm := (name_of_methodNamed Bd.named Bd.method).1
  have hrt := Bd.returns
  have hlk := Bd.notSynchronized
  have X0 : Stand p l e ({ frames := 3, cells := 1, slots := 2, locals := 52 } : Room) s m #[(.ref o0), (.ref o1)] below meth c s₁ [] 0 0 := Stand.of_body Bd
  have e0 : s₁.heap = h0 := by rw [← hh, Bd.state]; rfl
  have N0 := Fr.nil n0
  have lt_A_c : LT.lt (α := Nat) o1 h0.size := A_c.lt
  have lt_F_coder_o0 : LT.lt (α := Nat) o0 h0.size := F_coder_o0.lt
  have lt_E_o0 : LT.lt (α := Nat) o0 h0.size := E_o0.lt
  have lt_F_value_o0 : LT.lt (α := Nat) o0 h0.size := F_value_o0.lt
  show Go p e below s 1 2 (Q15c Z o0 o1 ka c0 c1 zc u3 u4 h0 n0) (s₁.setTop (entryFrame m #[(.ref o0), (.ref o1)] 2))
  rw [ef_15c m o0 o1]
  refine Go.pre (st' := s₁.setTop (mkF m 4 #[sR o0, sR o1] [(.ref o1), (.int (0 : Int32)), (.ref o1), (.ref o0)])) (fun target kt => ?_) ?_
  · show Steps p.tables e below (s₁.setTop (mkF m 0 #[sR o0, sR o1] [])) _
    refine XS.aloadN X0.here hx rfl (hb hby d15_0) rfl rfl ?_
    refine XS.aloadN X0.here hx rfl (hb hby d15_1) rfl rfl ?_
    refine XS.iconst X0.here hx rfl (hb hby d15_2) ?_
    refine XS.aloadN X0.here hx rfl (hb hby d15_3) rfl rfl ?_
    exact kt
  obtain ⟨cl1, Ar1, -, Sz1, Nn1, -, -⟩ := id A_c
  have st1 := X0.arraylength hx (by rw [e0]; exact Ar1.1) (State.isArrayOf_alike hZ.alike Ar1.2.1) (g := (mkF m 4 #[sR o0, sR o1] [(.ref o1), (.int (0 : Int32)), (.ref o1), (.ref o0)])) rfl rfl (hb hby d15_4)
  rw [len_of Sz1 Nn1] at st1
  refine Go.pre st1 ?_
  show Go p e below s _ _ _ (s₁.setTop (mkF m 5 #[sR o0, sR o1] [(.int (2 : Int32)), (.int (0 : Int32)), (.ref o1), (.ref o0)]))
  refine Go.pre (st' := s₁.setTop (mkF m 6 #[sR o0, sR o1] [.null, (.int (2 : Int32)), (.int (0 : Int32)), (.ref o1), (.ref o0)])) (fun target kt => ?_) ?_
  · show Steps p.tables e below (s₁.setTop (mkF m 5 #[sR o0, sR o1] [(.int (2 : Int32)), (.int (0 : Int32)), (.ref o1), (.ref o0)])) _
    refine XS.aconstNull X0.here hx rfl (hb hby d15_5) ?_
    exact kt
  obtain ⟨_, _, ⟨T2, L2, k2, n2⟩, -, X2, ⟨Lc2, hQ2, l2, y2, z2⟩, st2⟩ := X0.specialBack hx (y := (⟨"java/lang/String", "<init>", "([CIILjava/lang/Void;)V"⟩ : MethodName)) rfl hown (mvT hZ (ow hw 100 rfl)) (mvT hZ (ow hw 101 rfl)) (mvT hZ (ow hw 102 rfl)) (by decide) (backOf (W := 0) (rm16c l Z a0 hw [] o0 o1 ka c0 c1 zc u3 u4 h0 n0 (by omega) A_c S_COMPACT Ol F_coder_o0 E_o0 (by omega) F_value_o0 hle0 hle1 hcs) hZ (ow hw 102 rfl) (ow hw 1 rfl) (by decide) (by decide)) (g := (mkF m 6 #[sR o0, sR o1] [.null, (.int (2 : Int32)), (.int (0 : Int32)), (.ref o1), (.ref o0)])) rfl (by rw [hml]; rfl) (Steps.refl _) (a := o0) (argsL := [(.ref o1), (.int (0 : Int32)), (.int (2 : Int32)), .null]) (rest := []) (lenOf pd15c_0 rfl) rfl (by show 2 * 0 + _ ≤ _; exact Nat.le_of_eq rfl) (hb hby d15_6) (fun vm₁ hvm => ⟨rfl, e0, (by decide : 0 + 1 ≤ _), (by decide : 0 + 2 ≤ _)⟩)
  dsimp only [Pt.U, Pt.locs, Pt.cells, Pt.slots] at X2 l2 y2 z2 st2 hQ2
  subst l2 y2 z2
  obtain ⟨b2_0, k2_0, rfl, N2q, K2, KF2, gb2_0, ltb2_0, Y2_0, Y2_1, Y2_2⟩ := hQ2
  have sz2 : h0.size ≤ T2.heap.size := K2.1
  have N2 := Fr.app N0 N2q
  refine Go.trans st2 ?_
  show Go p e below s _ _ _ (T2.setTop (mkF m 9 #[sR o0, sR o1] []))
  exact Go.ret0 X2 hx hlk hrt (hb hby d15_9) (by decide) (by decide) (by exact ⟨b2_0, k2_0, rfl, N2, ((Keep.refl h0 [o0]).trans K2 (allS (Or.inl (List.mem_of_getElem? (i := 0) rfl)) all0)), ((KF.refl Z h0 [(o0, Jvm.RoadKit.slotOf Z "java/lang/String" "coder" "B"), (o0, Jvm.RoadKit.slotOf Z "java/lang/String" "value" "[B")]).trans KF2 (pallS (Or.inl (List.mem_of_getElem? (i := 0) rfl)) (pallS (Or.inl (List.mem_of_getElem? (i := 1) rfl)) pall0))), by omega, by omega, Y2_0, Y2_1, Y2_2⟩)
/-! Math.max (1) -/
theorem d1_0 : decode jdk_29_method_66_code 0 = .ok (.lload_n 0, 1) := by decide +kernel
theorem d1_1 : decode jdk_29_method_66_code 1 = .ok (.lload_n 2, 1) := by decide +kernel
theorem d1_2 : decode jdk_29_method_66_code 2 = .ok (.lcmp, 1) := by decide +kernel
theorem d1_3 : decode jdk_29_method_66_code 3 = .ok (.ifCond .lt 7, 3) := by decide +kernel
theorem d1_6 : decode jdk_29_method_66_code 6 = .ok (.lload_n 0, 1) := by decide +kernel
theorem d1_7 : decode jdk_29_method_66_code 7 = .ok (.goto 4, 3) := by decide +kernel
theorem d1_10 : decode jdk_29_method_66_code 10 = .ok (.lload_n 2, 1) := by decide +kernel
theorem d1_11 : decode jdk_29_method_66_code 11 = .ok (.lreturn, 1) := by decide +kernel
theorem pn_1 : plainFor (⟨"java/lang/Math", "max", "(JJ)J"⟩ : MethodName) = true := Jvm.Free.JP.mathPlain rfl (by decide +kernel)
theorem ef_1 (m : MethodId) (q0 : Int64) (q1 : Int64) : entryFrame m #[(.long q0), (.long q1)] 4 = (mkF m 0 #[.val (.long q0), .second, .val (.long q1), .second] []) := by first | (simp [entryFrame, mkF, argsToLocals, Value.category]; done) | rfl
def Q1 (Z : State) (q0 : Int64) (q1 : Int64) (h0 : Heap) (n0 : Nat) (v : Option Value) (h : Heap) (L : List Loc) : Prop := v = some (.long (own_maxL q0 q1)) ∧ Fr n0 L ∧ h = h0
set_option maxRecDepth 65536 in
set_option maxHeartbeats 40000000 in
theorem rm1 (l : Launch) (Z : State) (a0 : Array Value) (hw : ∀ d ∈ tables_1, d.before a0 Z = true) (ws : List Jvm.Cond) (q0 : Int64) (q1 : Int64) (h0 : Heap) (n0 : Nat) (Z0 : n0 ≤ h0.size) :
    MetFree l (⟨"java/lang/Math", "max", "(JJ)J"⟩ : MethodName) (head1 (Jvm.Cond.code (⟨"java/lang/Math", "max", "(JJ)J"⟩ : MethodName) jdk_29_method_66_code 4 (some .long) :: ws) ({ frames := 0, cells := 0, slots := 0, locals := 0 } : Room)) (fun a U => a = #[(.long q0), (.long q1)] ∧ Z.Warmed39 U.vm ∧ U.heap = h0) (fun _ _ _ _ _ => True) (fun _ U o U' => ∃ v L, o = .returned v ∧ Q1 Z q0 q1 h0 n0 v U'.heap L ∧ FrameEnd U o U' L ({ frames := 0, cells := 0, slots := 0, locals := 0 } : Room).cells ({ frames := 0, cells := 0, slots := 0, locals := 0 } : Room).slots) := by
  refine MetFree.of_bodySF pn_1 hisR ?_
  intro p e s m args below meth c s₁ Bd hml0 hP hK
  obtain ⟨rfl, hZ, hh⟩ := hP
  have hx := Bd.exec
  have hby := Bd.bytes
  have hml : c.maxLocals = 4 := hml0
  have hown : s.vm.findClass "java/lang/Math" = some m.cls := findClass_of_methodNamed Bd.named
  have hnm := (name_of_methodNamed Bd.named Bd.method).1
  have hrt := Bd.returns
  have hlk := Bd.notSynchronized
  have X0 : Stand p l e ({ frames := 0, cells := 0, slots := 0, locals := 0 } : Room) s m #[(.long q0), (.long q1)] below meth c s₁ [] 0 0 := Stand.of_body Bd
  have e0 : s₁.heap = h0 := by rw [← hh, Bd.state]; rfl
  have N0 := Fr.nil n0
  show Go p e below s 0 0 (Q1 Z q0 q1 h0 n0) (s₁.setTop (entryFrame m #[(.long q0), (.long q1)] 4))
  rw [ef_1 m q0 q1]
  refine Go.pre (st' := s₁.setTop (mkF m 3 #[sL q0, sS, sL q1, sS] [(.int (lcmpW q0 q1))])) (fun target kt => ?_) ?_
  · show Steps p.tables e below (s₁.setTop (mkF m 0 #[sL q0, sS, sL q1, sS] [])) _
    refine XS.lloadN X0.here hx rfl (hb hby d1_0) rfl ?_
    refine XS.lloadN X0.here hx rfl (hb hby d1_1) rfl ?_
    refine XS.lcmp X0.here hx rfl (hb hby d1_2) rfl ?_
    exact kt
  by_cases h3_1 : q0 < q1
  · refine Go.pre (st' := s₁.setTop (mkF m 10 #[sL q0, sS, sL q1, sS] [])) (fun target kt => ?_) ?_
    · show Steps p.tables e below (s₁.setTop (mkF m 3 #[sL q0, sS, sL q1, sS] [(.int (lcmpW q0 q1))])) _
      refine XS.ifYes X0.here hx rfl (pc0 := 3) (pc' := 10) rfl (hb hby d1_3) rfl ((if0 _ _).trans (tlt ((lw_lt _ _).mpr h3_1)).1) (by decide) (by decide) ?_
      exact kt
    refine Go.pre (st' := s₁.setTop (mkF m 11 #[sL q0, sS, sL q1, sS] [(.long q1)])) (fun target kt => ?_) ?_
    · show Steps p.tables e below (s₁.setTop (mkF m 10 #[sL q0, sS, sL q1, sS] [])) _
      refine XS.lloadN X0.here hx rfl (hb hby d1_10) rfl ?_
      exact kt
    exact Go.retV X0 hx hlk hrt rfl (Or.inr (Or.inl ⟨rfl, rfl, _, rfl⟩)) (hb hby d1_11) (by decide) (by decide) (by first | exact ⟨congrArg (fun z => some (Value.long z)) (if_pos h3_1).symm, N0, e0⟩ | (rw [e0]; exact ⟨congrArg (fun z => some (Value.long z)) (if_pos h3_1).symm, N0, e0⟩))
  · refine Go.pre (st' := s₁.setTop (mkF m 6 #[sL q0, sS, sL q1, sS] [])) (fun target kt => ?_) ?_
    · show Steps p.tables e below (s₁.setTop (mkF m 3 #[sL q0, sS, sL q1, sS] [(.int (lcmpW q0 q1))])) _
      refine XS.ifNo X0.here hx rfl (hb hby d1_3) rfl ((if0 _ _).trans (flt (fun q => h3_1 ((lw_lt _ _).mp q))).1) ?_
      exact kt
    refine Go.pre (st' := s₁.setTop (mkF m 11 #[sL q0, sS, sL q1, sS] [(.long q0)])) (fun target kt => ?_) ?_
    · show Steps p.tables e below (s₁.setTop (mkF m 6 #[sL q0, sS, sL q1, sS] [])) _
      refine XS.lloadN X0.here hx rfl (hb hby d1_6) rfl ?_
      refine XS.goto X0.here hx rfl (pc0 := 7) (pc' := 11) rfl (hb hby d1_7) (by decide) (by decide) ?_
      exact kt
    exact Go.retV X0 hx hlk hrt rfl (Or.inr (Or.inl ⟨rfl, rfl, _, rfl⟩)) (hb hby d1_11) (by decide) (by decide) (by first | exact ⟨congrArg (fun z => some (Value.long z)) (if_neg h3_1).symm, N0, e0⟩ | (rw [e0]; exact ⟨congrArg (fun z => some (Value.long z)) (if_neg h3_1).symm, N0, e0⟩))
/-! Math.min (14) -/
theorem d14_0 : decode jdk_29_method_69_code 0 = .ok (.iload_n 0, 1) := by decide +kernel
theorem d14_1 : decode jdk_29_method_69_code 1 = .ok (.iload_n 1, 1) := by decide +kernel
theorem d14_2 : decode jdk_29_method_69_code 2 = .ok (.if_icmp .gt 7, 3) := by decide +kernel
theorem d14_5 : decode jdk_29_method_69_code 5 = .ok (.iload_n 0, 1) := by decide +kernel
theorem d14_6 : decode jdk_29_method_69_code 6 = .ok (.goto 4, 3) := by decide +kernel
theorem d14_9 : decode jdk_29_method_69_code 9 = .ok (.iload_n 1, 1) := by decide +kernel
theorem d14_10 : decode jdk_29_method_69_code 10 = .ok (.ireturn, 1) := by decide +kernel
theorem pn_14 : plainFor (⟨"java/lang/Math", "min", "(II)I"⟩ : MethodName) = true := Jvm.Free.JP.mathPlain rfl (by decide +kernel)
theorem ef_14 (m : MethodId) (p0 : Int32) (p1 : Int32) : entryFrame m #[(.int p0), (.int p1)] 2 = (mkF m 0 #[.val (.int p0), .val (.int p1)] []) := by first | (simp [entryFrame, mkF, argsToLocals, Value.category]; done) | rfl
def Q14 (Z : State) (p0 : Int32) (p1 : Int32) (h0 : Heap) (n0 : Nat) (v : Option Value) (h : Heap) (L : List Loc) : Prop := v = some (.int (own_minI p0 p1)) ∧ Fr n0 L ∧ h = h0
set_option maxRecDepth 65536 in
set_option maxHeartbeats 40000000 in
theorem rm14 (l : Launch) (Z : State) (a0 : Array Value) (hw : ∀ d ∈ tables_1, d.before a0 Z = true) (ws : List Jvm.Cond) (p0 : Int32) (p1 : Int32) (h0 : Heap) (n0 : Nat) (Z0 : n0 ≤ h0.size) :
    MetFree l (⟨"java/lang/Math", "min", "(II)I"⟩ : MethodName) (head1 (Jvm.Cond.code (⟨"java/lang/Math", "min", "(II)I"⟩ : MethodName) jdk_29_method_69_code 2 (some .int) :: ws) ({ frames := 0, cells := 0, slots := 0, locals := 0 } : Room)) (fun a U => a = #[(.int p0), (.int p1)] ∧ Z.Warmed39 U.vm ∧ U.heap = h0) (fun _ _ _ _ _ => True) (fun _ U o U' => ∃ v L, o = .returned v ∧ Q14 Z p0 p1 h0 n0 v U'.heap L ∧ FrameEnd U o U' L ({ frames := 0, cells := 0, slots := 0, locals := 0 } : Room).cells ({ frames := 0, cells := 0, slots := 0, locals := 0 } : Room).slots) := by
  refine MetFree.of_bodySF pn_14 hisR ?_
  intro p e s m args below meth c s₁ Bd hml0 hP hK
  obtain ⟨rfl, hZ, hh⟩ := hP
  have hx := Bd.exec
  have hby := Bd.bytes
  have hml : c.maxLocals = 2 := hml0
  have hown : s.vm.findClass "java/lang/Math" = some m.cls := findClass_of_methodNamed Bd.named
  have hnm := (name_of_methodNamed Bd.named Bd.method).1
  have hrt := Bd.returns
  have hlk := Bd.notSynchronized
  have X0 : Stand p l e ({ frames := 0, cells := 0, slots := 0, locals := 0 } : Room) s m #[(.int p0), (.int p1)] below meth c s₁ [] 0 0 := Stand.of_body Bd
  have e0 : s₁.heap = h0 := by rw [← hh, Bd.state]; rfl
  have N0 := Fr.nil n0
  show Go p e below s 0 0 (Q14 Z p0 p1 h0 n0) (s₁.setTop (entryFrame m #[(.int p0), (.int p1)] 2))
  rw [ef_14 m p0 p1]
  refine Go.pre (st' := s₁.setTop (mkF m 2 #[sI p0, sI p1] [(.int p1), (.int p0)])) (fun target kt => ?_) ?_
  · show Steps p.tables e below (s₁.setTop (mkF m 0 #[sI p0, sI p1] [])) _
    refine XS.iloadN X0.here hx rfl (hb hby d14_0) rfl ?_
    refine XS.iloadN X0.here hx rfl (hb hby d14_1) rfl ?_
    exact kt
  by_cases h2_1 : p1 < p0
  · refine Go.pre (st' := s₁.setTop (mkF m 9 #[sI p0, sI p1] [])) (fun target kt => ?_) ?_
    · show Steps p.tables e below (s₁.setTop (mkF m 2 #[sI p0, sI p1] [(.int p1), (.int p0)])) _
      refine XS.icmpYes X0.here hx rfl (pc0 := 2) (pc' := 9) rfl (hb hby d14_2) rfl (tlt h2_1).2.2.1 (by decide) (by decide) ?_
      exact kt
    refine Go.pre (st' := s₁.setTop (mkF m 10 #[sI p0, sI p1] [(.int p1)])) (fun target kt => ?_) ?_
    · show Steps p.tables e below (s₁.setTop (mkF m 9 #[sI p0, sI p1] [])) _
      refine XS.iloadN X0.here hx rfl (hb hby d14_9) rfl ?_
      exact kt
    exact Go.retV X0 hx hlk hrt rfl (Or.inl ⟨rfl, Or.inl rfl, _, rfl⟩) (hb hby d14_10) (by decide) (by decide) (by first | exact ⟨congrArg (fun z => some (Value.int z)) (if_pos h2_1).symm, N0, e0⟩ | (rw [e0]; exact ⟨congrArg (fun z => some (Value.int z)) (if_pos h2_1).symm, N0, e0⟩))
  · refine Go.pre (st' := s₁.setTop (mkF m 5 #[sI p0, sI p1] [])) (fun target kt => ?_) ?_
    · show Steps p.tables e below (s₁.setTop (mkF m 2 #[sI p0, sI p1] [(.int p1), (.int p0)])) _
      refine XS.icmpNo X0.here hx rfl (hb hby d14_2) rfl (flt h2_1).2.2.1 ?_
      exact kt
    refine Go.pre (st' := s₁.setTop (mkF m 10 #[sI p0, sI p1] [(.int p0)])) (fun target kt => ?_) ?_
    · show Steps p.tables e below (s₁.setTop (mkF m 5 #[sI p0, sI p1] [])) _
      refine XS.iloadN X0.here hx rfl (hb hby d14_5) rfl ?_
      refine XS.goto X0.here hx rfl (pc0 := 6) (pc' := 10) rfl (hb hby d14_6) (by decide) (by decide) ?_
      exact kt
    exact Go.retV X0 hx hlk hrt rfl (Or.inl ⟨rfl, Or.inl rfl, _, rfl⟩) (hb hby d14_10) (by decide) (by decide) (by first | exact ⟨congrArg (fun z => some (Value.int z)) (if_neg h2_1).symm, N0, e0⟩ | (rw [e0]; exact ⟨congrArg (fun z => some (Value.int z)) (if_neg h2_1).symm, N0, e0⟩))
/-! PlacePageSetPinLaw.entityOf (13) -/
theorem d13_0 : decode method_2_code 0 = .ok (.iload_n 0, 1) := by decide +kernel
theorem d13_1 : decode method_2_code 1 = .ok (.bipush 8, 2) := by decide +kernel
theorem d13_3 : decode method_2_code 3 = .ok (.iushr, 1) := by decide +kernel
theorem d13_4 : decode method_2_code 4 = .ok (.sipush 255, 3) := by decide +kernel
theorem d13_7 : decode method_2_code 7 = .ok (.iand, 1) := by decide +kernel
theorem d13_8 : decode method_2_code 8 = .ok (.i2c, 1) := by decide +kernel
theorem d13_9 : decode method_2_code 9 = .ok (.istore_n 1, 1) := by decide +kernel
theorem d13_10 : decode method_2_code 10 = .ok (.iload_n 0, 1) := by decide +kernel
theorem d13_11 : decode method_2_code 11 = .ok (.bipush 16, 2) := by decide +kernel
theorem d13_13 : decode method_2_code 13 = .ok (.iushr, 1) := by decide +kernel
theorem d13_14 : decode method_2_code 14 = .ok (.sipush 255, 3) := by decide +kernel
theorem d13_17 : decode method_2_code 17 = .ok (.iand, 1) := by decide +kernel
theorem d13_18 : decode method_2_code 18 = .ok (.i2c, 1) := by decide +kernel
theorem d13_19 : decode method_2_code 19 = .ok (.istore_n 2, 1) := by decide +kernel
theorem d13_20 : decode method_2_code 20 = .ok (.iconst 2, 1) := by decide +kernel
theorem d13_21 : decode method_2_code 21 = .ok (.iload_n 0, 1) := by decide +kernel
theorem d13_22 : decode method_2_code 22 = .ok (.iconst 2, 1) := by decide +kernel
theorem d13_23 : decode method_2_code 23 = .ok (.iushr, 1) := by decide +kernel
theorem d13_24 : decode method_2_code 24 = .ok (.iconst 3, 1) := by decide +kernel
theorem d13_25 : decode method_2_code 25 = .ok (.iand, 1) := by decide +kernel
theorem d13_26 : decode method_2_code 26 = .ok (.invokestatic 7, 3) := by decide +kernel
theorem d13_29 : decode method_2_code 29 = .ok (.istore_n 3, 1) := by decide +kernel
theorem d13_30 : decode method_2_code 30 = .ok (.iload_n 3, 1) := by decide +kernel
theorem d13_31 : decode method_2_code 31 = .ok (.ifCond .ne 14, 3) := by decide +kernel
theorem d13_34 : decode method_2_code 34 = .ok (.new 13, 3) := by decide +kernel
theorem d13_37 : decode method_2_code 37 = .ok (.dup, 1) := by decide +kernel
theorem d13_38 : decode method_2_code 38 = .ok (.iconst 0, 1) := by decide +kernel
theorem d13_39 : decode method_2_code 39 = .ok (.newarray .char, 2) := by decide +kernel
theorem d13_41 : decode method_2_code 41 = .ok (.invokespecial 15, 3) := by decide +kernel
theorem d13_44 : decode method_2_code 44 = .ok (.areturn, 1) := by decide +kernel
theorem d13_45 : decode method_2_code 45 = .ok (.iload_n 3, 1) := by decide +kernel
theorem d13_46 : decode method_2_code 46 = .ok (.iconst 1, 1) := by decide +kernel
theorem d13_47 : decode method_2_code 47 = .ok (.if_icmp .ne 8, 3) := by decide +kernel
theorem d13_50 : decode method_2_code 50 = .ok (.iload_n 1, 1) := by decide +kernel
theorem d13_51 : decode method_2_code 51 = .ok (.invokestatic 18, 3) := by decide +kernel
theorem d13_54 : decode method_2_code 54 = .ok (.areturn, 1) := by decide +kernel
theorem d13_55 : decode method_2_code 55 = .ok (.new 13, 3) := by decide +kernel
theorem d13_58 : decode method_2_code 58 = .ok (.dup, 1) := by decide +kernel
theorem d13_59 : decode method_2_code 59 = .ok (.iconst 2, 1) := by decide +kernel
theorem d13_60 : decode method_2_code 60 = .ok (.newarray .char, 2) := by decide +kernel
theorem d13_62 : decode method_2_code 62 = .ok (.dup, 1) := by decide +kernel
theorem d13_63 : decode method_2_code 63 = .ok (.iconst 0, 1) := by decide +kernel
theorem d13_64 : decode method_2_code 64 = .ok (.iload_n 1, 1) := by decide +kernel
theorem d13_65 : decode method_2_code 65 = .ok (.castore, 1) := by decide +kernel
theorem d13_66 : decode method_2_code 66 = .ok (.dup, 1) := by decide +kernel
theorem d13_67 : decode method_2_code 67 = .ok (.iconst 1, 1) := by decide +kernel
theorem d13_68 : decode method_2_code 68 = .ok (.iload_n 2, 1) := by decide +kernel
theorem d13_69 : decode method_2_code 69 = .ok (.castore, 1) := by decide +kernel
theorem d13_70 : decode method_2_code 70 = .ok (.invokespecial 15, 3) := by decide +kernel
theorem d13_73 : decode method_2_code 73 = .ok (.areturn, 1) := by decide +kernel
theorem pn_13 : plainName "com/example/satzung/satzung/validate/PlacePageSetPinLaw" = true := by first | (simp [plainName, overriddenIn]; done) | decide +kernel
theorem pd13_0 : parseMethodDescriptor "(II)I" = some ⟨[.int, .int], some .int⟩ := by decide +kernel
theorem pd13_1 : parseMethodDescriptor "([C)V" = some ⟨[(.array .char)], none⟩ := by decide +kernel
theorem pd13_2 : parseMethodDescriptor "(C)Ljava/lang/String;" = some ⟨[.char], some (.object "java/lang/String")⟩ := by decide +kernel
theorem ef_13 (m : MethodId) (p0 : Int32) : entryFrame m #[(.int p0)] 4 = (mkF m 0 #[.val (.int p0), .unset, .unset, .unset] []) := by first | (simp [entryFrame, mkF, argsToLocals, Value.category]; done) | rfl
def Q13 (Z : State) (p0 : Int32) (zc : Int32) (h0 : Heap) (n0 : Nat) (v : Option Value) (vm : Vm) (h : Heap) (L : List Loc) : Prop := ∃ bz : Addr, v = some (.ref bz) ∧ Fr n0 L ∧ Keep h0 h [] ∧ KF Z h0 h [] ∧ LE.le (α := Nat) h0.size bz ∧ LT.lt (α := Nat) bz h.size ∧ Exa Z h bz "java/lang/String" ∧ IB Z vm [""]
set_option maxRecDepth 65536 in
set_option maxHeartbeats 40000000 in
theorem rm13 (l : Launch) (Z : State) (a0 : Array Value) (hw : ∀ d ∈ tables_1, d.before a0 Z = true) (ws : List Jvm.Cond) (p0 : Int32) (zc : Int32) (h0 : Heap) (n0 : Nat) (Z0 : n0 ≤ h0.size) (S_COMPACT : Sta Z Z.heap "java/lang/String" "COMPACT_STRINGS" "Z" (.int zc)) (hcs : ¬ (zc = (0 : Int32))) (hcw : Jvm.Lit.compactW.before a0 Z = true) (hheld : ∀ q ∈ consts_1, Jvm.Lit.constHeld Z q.1 q.2) (Ol : Old Z n0 h0) :
    MetFree l (⟨"com/example/satzung/satzung/validate/PlacePageSetPinLaw", "entityOf", "(I)Ljava/lang/String;"⟩ : MethodName) (head1 (Jvm.Cond.code (⟨"com/example/satzung/satzung/validate/PlacePageSetPinLaw", "entityOf", "(I)Ljava/lang/String;"⟩ : MethodName) method_2_code 4 (some (.object "java/lang/String")) :: ws) ({ frames := 4, cells := 4, slots := 8, locals := 66 } : Room)) (fun a U => a = #[(.int p0)] ∧ Z.Warmed39 U.vm ∧ U.heap = h0 ∧ IB Z U.vm []) (fun _ _ _ _ _ => True) (fun _ U o U' => ∃ v L, o = .returned v ∧ Q13 Z p0 zc h0 n0 v U'.vm U'.heap L ∧ ReturnedEndW U o U' L ({ frames := 4, cells := 4, slots := 8, locals := 66 } : Room).cells ({ frames := 4, cells := 4, slots := 8, locals := 66 } : Room).slots) := by
  refine MetFree.of_bodySF (plainFor_of_name pn_13) hisR ?_
  intro p e s m args below meth c s₁ Bd hml0 hP hK
  obtain ⟨rfl, hZ, hh, hI⟩ := hP
  have hx := Bd.exec
  have hby := Bd.bytes
  have hml : c.maxLocals = 4 := hml0
  have hown : s.vm.findClass "com/example/satzung/satzung/validate/PlacePageSetPinLaw" = some m.cls := findClass_of_methodNamed Bd.named
  have hnm := (name_of_methodNamed Bd.named Bd.method).1
  have hrt := Bd.returns
  have hlk := Bd.notSynchronized
  have X0 : Stand p l e ({ frames := 4, cells := 4, slots := 8, locals := 66 } : Room) (s.setVm s.vm) m #[(.int p0)] below meth c s₁ [] 0 0 := Stand.of_body Bd
  have hS : s.Since s.vm 0 := (State.WarmedH.refl s).since 0
  have hk := Nat.zero_le h0.size
  have hkp : ∀ (b : Addr) (cl : Cell), Z.heap[b]? = some cl → s.heap[b]? = some cl := fun b cl q => by rw [show (s.heap : Heap) = h0 from hh]; exact Ol.2.2 b cl q
  have e0 : s₁.heap = h0 := by rw [← hh, Bd.state]; rfl
  have N0 := Fr.nil n0
  show GoW p e below s 4 8 (Q13 Z p0 zc h0 n0) (s₁.setTop (entryFrame m #[(.int p0)] 4))
  rw [ef_13 m p0]
  refine GoW.pre (st' := s₁.setTop (mkF m 26 #[sI p0, .val (.int ((((p0.toUInt32 >>> ((8 : Int32) &&& 31).toUInt32).toInt32) &&& (255 : Int32)).toUInt32.toUInt16.toUInt32.toInt32)), .val (.int ((((p0.toUInt32 >>> ((16 : Int32) &&& 31).toUInt32).toInt32) &&& (255 : Int32)).toUInt32.toUInt16.toUInt32.toInt32)), sU] [(.int (((p0.toUInt32 >>> ((2 : Int32) &&& 31).toUInt32).toInt32) &&& (3 : Int32))), (.int (2 : Int32))])) (fun target kt => ?_) ?_
  · show Steps p.tables e below (s₁.setTop (mkF m 0 #[sI p0, sU, sU, sU] [])) _
    refine XS.iloadN X0.here hx rfl (hb hby d13_0) rfl ?_
    refine XS.bipush X0.here hx rfl (hb hby d13_1) ?_
    refine XS.iushr X0.here hx rfl (hb hby d13_3) rfl ?_
    refine XS.sipush X0.here hx rfl (hb hby d13_4) ?_
    refine XS.iand X0.here hx rfl (hb hby d13_7) rfl ?_
    refine XS.i2c X0.here hx rfl (hb hby d13_8) rfl ?_
    refine XS.istoreN X0.here hx rfl (hb hby d13_9) rfl (l' := #[.val (.int p0), .val (.int ((((p0.toUInt32 >>> ((8 : Int32) &&& 31).toUInt32).toInt32) &&& (255 : Int32)).toUInt32.toUInt16.toUInt32.toInt32)), .unset, .unset]) rfl ?_
    refine XS.iloadN X0.here hx rfl (hb hby d13_10) rfl ?_
    refine XS.bipush X0.here hx rfl (hb hby d13_11) ?_
    refine XS.iushr X0.here hx rfl (hb hby d13_13) rfl ?_
    refine XS.sipush X0.here hx rfl (hb hby d13_14) ?_
    refine XS.iand X0.here hx rfl (hb hby d13_17) rfl ?_
    refine XS.i2c X0.here hx rfl (hb hby d13_18) rfl ?_
    refine XS.istoreN X0.here hx rfl (hb hby d13_19) rfl (l' := #[.val (.int p0), .val (.int ((((p0.toUInt32 >>> ((8 : Int32) &&& 31).toUInt32).toInt32) &&& (255 : Int32)).toUInt32.toUInt16.toUInt32.toInt32)), .val (.int ((((p0.toUInt32 >>> ((16 : Int32) &&& 31).toUInt32).toInt32) &&& (255 : Int32)).toUInt32.toUInt16.toUInt32.toInt32)), .unset]) rfl ?_
    refine XS.iconst X0.here hx rfl (hb hby d13_20) ?_
    refine XS.iloadN X0.here hx rfl (hb hby d13_21) rfl ?_
    refine XS.iconst X0.here hx rfl (hb hby d13_22) ?_
    refine XS.iushr X0.here hx rfl (hb hby d13_23) rfl ?_
    refine XS.iconst X0.here hx rfl (hb hby d13_24) ?_
    refine XS.iand X0.here hx rfl (hb hby d13_25) rfl ?_
    exact kt
  obtain ⟨_, _, ⟨T1, L1, k1, n1⟩, -, X1, ⟨Lc1, hQ1, l1, y1, z1⟩, st1⟩ := Jvm.LawKit.callS X0 hx (y := (⟨"java/lang/Math", "min", "(II)I"⟩ : MethodName)) hown (mvT hZ (ow hw 92 rfl)) (mvT hZ (ow hw 93 rfl)) (mvT hZ (ow hw 11 rfl)) (mvT hZ (ow hw 94 rfl)) (by decide) (backOf (W := 0) (rm14 l Z a0 hw [] (2 : Int32) (((p0.toUInt32 >>> ((2 : Int32) &&& 31).toUInt32).toInt32) &&& (3 : Int32)) h0 n0 (by omega) ) hZ (ow hw 94 rfl) (ow hw 11 rfl) (by decide) (by decide)) (g := (mkF m 26 #[sI p0, .val (.int ((((p0.toUInt32 >>> ((8 : Int32) &&& 31).toUInt32).toInt32) &&& (255 : Int32)).toUInt32.toUInt16.toUInt32.toInt32)), .val (.int ((((p0.toUInt32 >>> ((16 : Int32) &&& 31).toUInt32).toInt32) &&& (255 : Int32)).toUInt32.toUInt16.toUInt32.toInt32)), sU] [(.int (((p0.toUInt32 >>> ((2 : Int32) &&& 31).toUInt32).toInt32) &&& (3 : Int32))), (.int (2 : Int32))])) rfl (by rw [hml]; rfl) (argsL := [(.int (2 : Int32)), (.int (((p0.toUInt32 >>> ((2 : Int32) &&& 31).toUInt32).toInt32) &&& (3 : Int32)))]) (rest := []) (lenOf pd13_0 rfl) rfl (by show 2 * 0 + _ ≤ _; exact Nat.le_of_eq rfl) (hb hby d13_26) (fun vm₁ hvm => ⟨rfl, e0, (by decide : 0 + 0 ≤ _), (by decide : 0 + 0 ≤ _)⟩)
  dsimp only [Pt.U, Pt.locs, Pt.cells, Pt.slots] at X1 l1 y1 z1 st1 hQ1
  subst l1 y1 z1
  obtain ⟨rfl, N1q, e1⟩ := hQ1
  have N1 := Fr.app N0 N1q
  refine GoW.pre st1 ?_
  show GoW p e below s _ _ _ (T1.setTop (mkF m 29 #[sI p0, .val (.int ((((p0.toUInt32 >>> ((8 : Int32) &&& 31).toUInt32).toInt32) &&& (255 : Int32)).toUInt32.toUInt16.toUInt32.toInt32)), .val (.int ((((p0.toUInt32 >>> ((16 : Int32) &&& 31).toUInt32).toInt32) &&& (255 : Int32)).toUInt32.toUInt16.toUInt32.toInt32)), sU] [(.int (own_minI (2 : Int32) (((p0.toUInt32 >>> ((2 : Int32) &&& 31).toUInt32).toInt32) &&& (3 : Int32))))]))
  refine GoW.pre (st' := T1.setTop (mkF m 31 #[sI p0, .val (.int ((((p0.toUInt32 >>> ((8 : Int32) &&& 31).toUInt32).toInt32) &&& (255 : Int32)).toUInt32.toUInt16.toUInt32.toInt32)), .val (.int ((((p0.toUInt32 >>> ((16 : Int32) &&& 31).toUInt32).toInt32) &&& (255 : Int32)).toUInt32.toUInt16.toUInt32.toInt32)), .val (.int (own_minI (2 : Int32) (((p0.toUInt32 >>> ((2 : Int32) &&& 31).toUInt32).toInt32) &&& (3 : Int32))))] [(.int (own_minI (2 : Int32) (((p0.toUInt32 >>> ((2 : Int32) &&& 31).toUInt32).toInt32) &&& (3 : Int32))))])) (fun target kt => ?_) ?_
  · show Steps p.tables e below (T1.setTop (mkF m 29 #[sI p0, .val (.int ((((p0.toUInt32 >>> ((8 : Int32) &&& 31).toUInt32).toInt32) &&& (255 : Int32)).toUInt32.toUInt16.toUInt32.toInt32)), .val (.int ((((p0.toUInt32 >>> ((16 : Int32) &&& 31).toUInt32).toInt32) &&& (255 : Int32)).toUInt32.toUInt16.toUInt32.toInt32)), sU] [(.int (own_minI (2 : Int32) (((p0.toUInt32 >>> ((2 : Int32) &&& 31).toUInt32).toInt32) &&& (3 : Int32))))])) _
    refine XS.istoreN X1.here hx rfl (hb hby d13_29) rfl (l' := #[.val (.int p0), .val (.int ((((p0.toUInt32 >>> ((8 : Int32) &&& 31).toUInt32).toInt32) &&& (255 : Int32)).toUInt32.toUInt16.toUInt32.toInt32)), .val (.int ((((p0.toUInt32 >>> ((16 : Int32) &&& 31).toUInt32).toInt32) &&& (255 : Int32)).toUInt32.toUInt16.toUInt32.toInt32)), .val (.int (own_minI (2 : Int32) (((p0.toUInt32 >>> ((2 : Int32) &&& 31).toUInt32).toInt32) &&& (3 : Int32))))]) rfl ?_
    refine XS.iloadN X1.here hx rfl (hb hby d13_30) rfl ?_
    exact kt
  by_cases h31_2 : (own_minI (2 : Int32) (((p0.toUInt32 >>> ((2 : Int32) &&& 31).toUInt32).toInt32) &&& (3 : Int32))) = (0 : Int32)
  · refine GoW.pre (st' := T1.setTop (mkF m 34 #[sI p0, .val (.int ((((p0.toUInt32 >>> ((8 : Int32) &&& 31).toUInt32).toInt32) &&& (255 : Int32)).toUInt32.toUInt16.toUInt32.toInt32)), .val (.int ((((p0.toUInt32 >>> ((16 : Int32) &&& 31).toUInt32).toInt32) &&& (255 : Int32)).toUInt32.toUInt16.toUInt32.toInt32)), .val (.int (own_minI (2 : Int32) (((p0.toUInt32 >>> ((2 : Int32) &&& 31).toUInt32).toInt32) &&& (3 : Int32))))] [])) (fun target kt => ?_) ?_
    · show Steps p.tables e below (T1.setTop (mkF m 31 #[sI p0, .val (.int ((((p0.toUInt32 >>> ((8 : Int32) &&& 31).toUInt32).toInt32) &&& (255 : Int32)).toUInt32.toUInt16.toUInt32.toInt32)), .val (.int ((((p0.toUInt32 >>> ((16 : Int32) &&& 31).toUInt32).toInt32) &&& (255 : Int32)).toUInt32.toUInt16.toUInt32.toInt32)), .val (.int (own_minI (2 : Int32) (((p0.toUInt32 >>> ((2 : Int32) &&& 31).toUInt32).toInt32) &&& (3 : Int32))))] [(.int (own_minI (2 : Int32) (((p0.toUInt32 >>> ((2 : Int32) &&& 31).toUInt32).toInt32) &&& (3 : Int32))))])) _
      refine XS.ifNo X1.here hx rfl (hb hby d13_31) rfl ((if0 _ _).trans (teq h31_2).2) ?_
      exact kt
    obtain ⟨T3, h3, X3, e3, E3, A3, D3, -, st3⟩ := newO X1 hx hZ hown (ow hw 95 rfl) (ow hw 2 rfl) (ow hw 1 rfl) e1 (g := (mkF m 34 #[sI p0, .val (.int ((((p0.toUInt32 >>> ((8 : Int32) &&& 31).toUInt32).toInt32) &&& (255 : Int32)).toUInt32.toUInt16.toUInt32.toInt32)), .val (.int ((((p0.toUInt32 >>> ((16 : Int32) &&& 31).toUInt32).toInt32) &&& (255 : Int32)).toUInt32.toUInt16.toUInt32.toInt32)), .val (.int (own_minI (2 : Int32) (((p0.toUInt32 >>> ((2 : Int32) &&& 31).toUInt32).toInt32) &&& (3 : Int32))))] [])) rfl (hb hby d13_34) (by decide) (by decide)
    obtain ⟨b3, g3⟩ : ∃ z, z = h0.size := ⟨_, rfl⟩
    rw [← g3] at A3 D3 st3
    have sz3 : h0.size ≤ h3.size := E3.1
    have lt3 : b3 < h3.size := A3.lt
    have F3_value : Fld Z h3 b3 "java/lang/String" "value" "[B" .null := D3 (Or.inr (ow hw 4 rfl)) (ty := (.array .byte)) (by decide)
    have F3_coder : Fld Z h3 b3 "java/lang/String" "coder" "B" (.int (0 : Int32)) := D3 (Or.inr (ow hw 5 rfl)) (ty := .byte) (by decide)
    refine GoW.pre st3 ?_
    show GoW p e below s _ _ _ (T3.setTop (mkF m 37 #[sI p0, .val (.int ((((p0.toUInt32 >>> ((8 : Int32) &&& 31).toUInt32).toInt32) &&& (255 : Int32)).toUInt32.toUInt16.toUInt32.toInt32)), .val (.int ((((p0.toUInt32 >>> ((16 : Int32) &&& 31).toUInt32).toInt32) &&& (255 : Int32)).toUInt32.toUInt16.toUInt32.toInt32)), .val (.int (own_minI (2 : Int32) (((p0.toUInt32 >>> ((2 : Int32) &&& 31).toUInt32).toInt32) &&& (3 : Int32))))] [(.ref b3)]))
    refine GoW.pre (st' := T3.setTop (mkF m 39 #[sI p0, .val (.int ((((p0.toUInt32 >>> ((8 : Int32) &&& 31).toUInt32).toInt32) &&& (255 : Int32)).toUInt32.toUInt16.toUInt32.toInt32)), .val (.int ((((p0.toUInt32 >>> ((16 : Int32) &&& 31).toUInt32).toInt32) &&& (255 : Int32)).toUInt32.toUInt16.toUInt32.toInt32)), .val (.int (own_minI (2 : Int32) (((p0.toUInt32 >>> ((2 : Int32) &&& 31).toUInt32).toInt32) &&& (3 : Int32))))] [(.int (0 : Int32)), (.ref b3), (.ref b3)])) (fun target kt => ?_) ?_
    · show Steps p.tables e below (T3.setTop (mkF m 37 #[sI p0, .val (.int ((((p0.toUInt32 >>> ((8 : Int32) &&& 31).toUInt32).toInt32) &&& (255 : Int32)).toUInt32.toUInt16.toUInt32.toInt32)), .val (.int ((((p0.toUInt32 >>> ((16 : Int32) &&& 31).toUInt32).toInt32) &&& (255 : Int32)).toUInt32.toUInt16.toUInt32.toInt32)), .val (.int (own_minI (2 : Int32) (((p0.toUInt32 >>> ((2 : Int32) &&& 31).toUInt32).toInt32) &&& (3 : Int32))))] [(.ref b3)])) _
      refine XS.dup X3.here hx rfl (hb hby d13_37) rfl rfl ?_
      refine XS.iconst X3.here hx rfl (hb hby d13_38) ?_
      exact kt
    obtain ⟨T4, h4, k4, X4, e4, E4, A4, st4⟩ := newP X3 hx hZ (ow hw 96 rfl) e3 (g := (mkF m 39 #[sI p0, .val (.int ((((p0.toUInt32 >>> ((8 : Int32) &&& 31).toUInt32).toInt32) &&& (255 : Int32)).toUInt32.toUInt16.toUInt32.toInt32)), .val (.int ((((p0.toUInt32 >>> ((16 : Int32) &&& 31).toUInt32).toInt32) &&& (255 : Int32)).toUInt32.toUInt16.toUInt32.toInt32)), .val (.int (own_minI (2 : Int32) (((p0.toUInt32 >>> ((2 : Int32) &&& 31).toUInt32).toInt32) &&& (3 : Int32))))] [(.int (0 : Int32)), (.ref b3), (.ref b3)])) rfl (hb hby d13_39) rfl (by decide) (cap := 0) (by decide) (by decide) (by decide) (by decide)
    obtain ⟨b4, g4⟩ : ∃ z, z = h3.size := ⟨_, rfl⟩
    rw [← g4] at A4 st4
    have sz4 : h3.size ≤ h4.size := E4.1
    have V4 : Arv Z h4 b4 k4 .char (0 : Int32) [] (.int (0 : Int32)) := Arv.new A4 (by decide)
    have lt4 : b4 < h4.size := V4.lt
    refine GoW.pre st4 ?_
    show GoW p e below s _ _ _ (T4.setTop (mkF m 41 #[sI p0, .val (.int ((((p0.toUInt32 >>> ((8 : Int32) &&& 31).toUInt32).toInt32) &&& (255 : Int32)).toUInt32.toUInt16.toUInt32.toInt32)), .val (.int ((((p0.toUInt32 >>> ((16 : Int32) &&& 31).toUInt32).toInt32) &&& (255 : Int32)).toUInt32.toUInt16.toUInt32.toInt32)), .val (.int (own_minI (2 : Int32) (((p0.toUInt32 >>> ((2 : Int32) &&& 31).toUInt32).toInt32) &&& (3 : Int32))))] [(.ref b4), (.ref b3), (.ref b3)]))
    have Y6 : Old Z n0 h4 := ((Ol.ext E3).ext E4)
    have Y7 : Fld Z h4 b3 "java/lang/String" "value" "[B" .null := (F3_value.ext E4)
    have Y8 : Exa Z h4 b3 "java/lang/String" := (A3.ext E4)
    have Y9 : Fld Z h4 b3 "java/lang/String" "coder" "B" (.int (0 : Int32)) := (F3_coder.ext E4)
    obtain ⟨_, _, ⟨T5, L5, k5, n5⟩, -, X5', hS5, hgr5, ⟨Lc5, hQ5, l5, y5, z5⟩, st5⟩ := X4.specialBackS hx (y := (⟨"java/lang/String", "<init>", "([C)V"⟩ : MethodName)) rfl hown (mvT hZ (ow hw 97 rfl)) (mvT hZ (ow hw 98 rfl)) (mvT hZ (ow hw 99 rfl)) (by decide) (backOfSI (W := 1) (rm15e l Z a0 hw [] b3 b4 k4 .null (.int (0 : Int32)) h4 n0 (by omega) hcw hheld Y6 V4 Y7 Y8 (by omega) Y9) hZ (ow hw 99 rfl) (ow hw 1 rfl) (by decide) (by decide)) (g := (mkF m 41 #[sI p0, .val (.int ((((p0.toUInt32 >>> ((8 : Int32) &&& 31).toUInt32).toInt32) &&& (255 : Int32)).toUInt32.toUInt16.toUInt32.toInt32)), .val (.int ((((p0.toUInt32 >>> ((16 : Int32) &&& 31).toUInt32).toInt32) &&& (255 : Int32)).toUInt32.toUInt16.toUInt32.toInt32)), .val (.int (own_minI (2 : Int32) (((p0.toUInt32 >>> ((2 : Int32) &&& 31).toUInt32).toInt32) &&& (3 : Int32))))] [(.ref b4), (.ref b3), (.ref b3)])) rfl (by rw [hml]; rfl) (Steps.refl _) (a := b3) (argsL := [(.ref b4)]) (rest := [(.ref b3)]) (lenOf pd13_1 rfl) rfl (by show 2 * 0 + _ ≤ _; exact Nat.le_of_eq rfl) (hb hby d13_41) (fun vm₁ hvm => ⟨rfl, e4, (by decide : 2 + 2 ≤ _), (by decide : 4 + 4 ≤ _), IB.mv hI hvm⟩)
    dsimp only [Pt.U, Pt.locs, Pt.cells, Pt.slots] at X5' l5 y5 z5 st5 hQ5 hS5 hgr5
    subst l5 y5 z5
    obtain ⟨X5, hS, hZ, hown⟩ := rebS hS (leH e4 (by omega)) X5' hS5 hgr5 hZ hown
    have hk := Nat.le_refl T5.heap.size
    obtain ⟨rfl, N5q, K5, KF5, Y5_0, hI⟩ := hQ5
    have sz5 : h4.size ≤ T5.heap.size := K5.1
    have N5 := Fr.app N1 N5q
    refine GoW.trans st5 ?_
    show GoW p e below s _ _ _ (T5.setTop (mkF m 44 #[sI p0, .val (.int ((((p0.toUInt32 >>> ((8 : Int32) &&& 31).toUInt32).toInt32) &&& (255 : Int32)).toUInt32.toUInt16.toUInt32.toInt32)), .val (.int ((((p0.toUInt32 >>> ((16 : Int32) &&& 31).toUInt32).toInt32) &&& (255 : Int32)).toUInt32.toUInt16.toUInt32.toInt32)), .val (.int (own_minI (2 : Int32) (((p0.toUInt32 >>> ((2 : Int32) &&& 31).toUInt32).toInt32) &&& (3 : Int32))))] [(.ref b3)]))
    have Y10 : Exa Z T5.heap b3 "java/lang/String" := (Y8.keep K5)
    exact GoW.retV X5 hS (leH rfl (by omega)) hx hlk hrt rfl (Or.inr (Or.inr (Or.inr (Or.inr ⟨rfl, rfl, rfl⟩)))) (hb hby d13_44) (by decide) (by decide) (by exact ⟨b3, rfl, N5, ((((Keep.refl h0 []).ext E3).ext E4).trans K5 (allS (Or.inr (by omega)) all0)), ((((KF.refl Z h0 []).ext E3).ext E4).trans KF5 (pallS (Or.inr (by show _ ≤ b3; omega)) (pallS (Or.inr (by show _ ≤ b3; omega)) pall0))), by omega, by omega, Y10, IB.sup (IB.at X5 hI) (by simp)⟩)
  · refine GoW.pre (st' := T1.setTop (mkF m 45 #[sI p0, .val (.int ((((p0.toUInt32 >>> ((8 : Int32) &&& 31).toUInt32).toInt32) &&& (255 : Int32)).toUInt32.toUInt16.toUInt32.toInt32)), .val (.int ((((p0.toUInt32 >>> ((16 : Int32) &&& 31).toUInt32).toInt32) &&& (255 : Int32)).toUInt32.toUInt16.toUInt32.toInt32)), .val (.int (own_minI (2 : Int32) (((p0.toUInt32 >>> ((2 : Int32) &&& 31).toUInt32).toInt32) &&& (3 : Int32))))] [])) (fun target kt => ?_) ?_
    · show Steps p.tables e below (T1.setTop (mkF m 31 #[sI p0, .val (.int ((((p0.toUInt32 >>> ((8 : Int32) &&& 31).toUInt32).toInt32) &&& (255 : Int32)).toUInt32.toUInt16.toUInt32.toInt32)), .val (.int ((((p0.toUInt32 >>> ((16 : Int32) &&& 31).toUInt32).toInt32) &&& (255 : Int32)).toUInt32.toUInt16.toUInt32.toInt32)), .val (.int (own_minI (2 : Int32) (((p0.toUInt32 >>> ((2 : Int32) &&& 31).toUInt32).toInt32) &&& (3 : Int32))))] [(.int (own_minI (2 : Int32) (((p0.toUInt32 >>> ((2 : Int32) &&& 31).toUInt32).toInt32) &&& (3 : Int32))))])) _
      refine XS.ifYes X1.here hx rfl (pc0 := 31) (pc' := 45) rfl (hb hby d13_31) rfl ((if0 _ _).trans (feq h31_2).2) (by decide) (by decide) ?_
      exact kt
    refine GoW.pre (st' := T1.setTop (mkF m 47 #[sI p0, .val (.int ((((p0.toUInt32 >>> ((8 : Int32) &&& 31).toUInt32).toInt32) &&& (255 : Int32)).toUInt32.toUInt16.toUInt32.toInt32)), .val (.int ((((p0.toUInt32 >>> ((16 : Int32) &&& 31).toUInt32).toInt32) &&& (255 : Int32)).toUInt32.toUInt16.toUInt32.toInt32)), .val (.int (own_minI (2 : Int32) (((p0.toUInt32 >>> ((2 : Int32) &&& 31).toUInt32).toInt32) &&& (3 : Int32))))] [(.int (1 : Int32)), (.int (own_minI (2 : Int32) (((p0.toUInt32 >>> ((2 : Int32) &&& 31).toUInt32).toInt32) &&& (3 : Int32))))])) (fun target kt => ?_) ?_
    · show Steps p.tables e below (T1.setTop (mkF m 45 #[sI p0, .val (.int ((((p0.toUInt32 >>> ((8 : Int32) &&& 31).toUInt32).toInt32) &&& (255 : Int32)).toUInt32.toUInt16.toUInt32.toInt32)), .val (.int ((((p0.toUInt32 >>> ((16 : Int32) &&& 31).toUInt32).toInt32) &&& (255 : Int32)).toUInt32.toUInt16.toUInt32.toInt32)), .val (.int (own_minI (2 : Int32) (((p0.toUInt32 >>> ((2 : Int32) &&& 31).toUInt32).toInt32) &&& (3 : Int32))))] [])) _
      refine XS.iloadN X1.here hx rfl (hb hby d13_45) rfl ?_
      refine XS.iconst X1.here hx rfl (hb hby d13_46) ?_
      exact kt
    by_cases h47_11 : (own_minI (2 : Int32) (((p0.toUInt32 >>> ((2 : Int32) &&& 31).toUInt32).toInt32) &&& (3 : Int32))) = (1 : Int32)
    · refine GoW.pre (st' := T1.setTop (mkF m 50 #[sI p0, .val (.int ((((p0.toUInt32 >>> ((8 : Int32) &&& 31).toUInt32).toInt32) &&& (255 : Int32)).toUInt32.toUInt16.toUInt32.toInt32)), .val (.int ((((p0.toUInt32 >>> ((16 : Int32) &&& 31).toUInt32).toInt32) &&& (255 : Int32)).toUInt32.toUInt16.toUInt32.toInt32)), .val (.int (own_minI (2 : Int32) (((p0.toUInt32 >>> ((2 : Int32) &&& 31).toUInt32).toInt32) &&& (3 : Int32))))] [])) (fun target kt => ?_) ?_
      · show Steps p.tables e below (T1.setTop (mkF m 47 #[sI p0, .val (.int ((((p0.toUInt32 >>> ((8 : Int32) &&& 31).toUInt32).toInt32) &&& (255 : Int32)).toUInt32.toUInt16.toUInt32.toInt32)), .val (.int ((((p0.toUInt32 >>> ((16 : Int32) &&& 31).toUInt32).toInt32) &&& (255 : Int32)).toUInt32.toUInt16.toUInt32.toInt32)), .val (.int (own_minI (2 : Int32) (((p0.toUInt32 >>> ((2 : Int32) &&& 31).toUInt32).toInt32) &&& (3 : Int32))))] [(.int (1 : Int32)), (.int (own_minI (2 : Int32) (((p0.toUInt32 >>> ((2 : Int32) &&& 31).toUInt32).toInt32) &&& (3 : Int32))))])) _
        refine XS.icmpNo X1.here hx rfl (hb hby d13_47) rfl (teq h47_11).2 ?_
        exact kt
      refine GoW.pre (st' := T1.setTop (mkF m 51 #[sI p0, .val (.int ((((p0.toUInt32 >>> ((8 : Int32) &&& 31).toUInt32).toInt32) &&& (255 : Int32)).toUInt32.toUInt16.toUInt32.toInt32)), .val (.int ((((p0.toUInt32 >>> ((16 : Int32) &&& 31).toUInt32).toInt32) &&& (255 : Int32)).toUInt32.toUInt16.toUInt32.toInt32)), .val (.int (own_minI (2 : Int32) (((p0.toUInt32 >>> ((2 : Int32) &&& 31).toUInt32).toInt32) &&& (3 : Int32))))] [(.int ((((p0.toUInt32 >>> ((8 : Int32) &&& 31).toUInt32).toInt32) &&& (255 : Int32)).toUInt32.toUInt16.toUInt32.toInt32))])) (fun target kt => ?_) ?_
      · show Steps p.tables e below (T1.setTop (mkF m 50 #[sI p0, .val (.int ((((p0.toUInt32 >>> ((8 : Int32) &&& 31).toUInt32).toInt32) &&& (255 : Int32)).toUInt32.toUInt16.toUInt32.toInt32)), .val (.int ((((p0.toUInt32 >>> ((16 : Int32) &&& 31).toUInt32).toInt32) &&& (255 : Int32)).toUInt32.toUInt16.toUInt32.toInt32)), .val (.int (own_minI (2 : Int32) (((p0.toUInt32 >>> ((2 : Int32) &&& 31).toUInt32).toInt32) &&& (3 : Int32))))] [])) _
        refine XS.iloadN X1.here hx rfl (hb hby d13_50) rfl ?_
        exact kt
      obtain ⟨_, _, ⟨T12, L12, k12, n12⟩, -, X12, ⟨Lc12, hQ12, l12, y12, z12⟩, st12⟩ := Jvm.LawKit.callS X1 hx (y := (⟨"java/lang/String", "valueOf", "(C)Ljava/lang/String;"⟩ : MethodName)) hown (mvT hZ (ow hw 118 rfl)) (mvT hZ (ow hw 119 rfl)) (mvT hZ (ow hw 1 rfl)) (mvT hZ (ow hw 120 rfl)) (by decide) (backOf (W := 0) (rm20 l Z a0 hw [] ((((p0.toUInt32 >>> ((8 : Int32) &&& 31).toUInt32).toInt32) &&& (255 : Int32)).toUInt32.toUInt16.toUInt32.toInt32) zc h0 n0 (by omega) S_COMPACT Ol (own_c255 _) hcs) hZ (ow hw 120 rfl) (ow hw 1 rfl) (by decide) (by decide)) (g := (mkF m 51 #[sI p0, .val (.int ((((p0.toUInt32 >>> ((8 : Int32) &&& 31).toUInt32).toInt32) &&& (255 : Int32)).toUInt32.toUInt16.toUInt32.toInt32)), .val (.int ((((p0.toUInt32 >>> ((16 : Int32) &&& 31).toUInt32).toInt32) &&& (255 : Int32)).toUInt32.toUInt16.toUInt32.toInt32)), .val (.int (own_minI (2 : Int32) (((p0.toUInt32 >>> ((2 : Int32) &&& 31).toUInt32).toInt32) &&& (3 : Int32))))] [(.int ((((p0.toUInt32 >>> ((8 : Int32) &&& 31).toUInt32).toInt32) &&& (255 : Int32)).toUInt32.toUInt16.toUInt32.toInt32))])) rfl (by rw [hml]; rfl) (argsL := [(.int ((((p0.toUInt32 >>> ((8 : Int32) &&& 31).toUInt32).toInt32) &&& (255 : Int32)).toUInt32.toUInt16.toUInt32.toInt32))]) (rest := []) (lenOf pd13_2 rfl) rfl (by show 2 * 0 + _ ≤ _; exact Nat.le_of_eq rfl) (hb hby d13_51) (fun vm₁ hvm => ⟨rfl, e1, (by decide : 0 + 2 ≤ _), (by decide : 0 + 5 ≤ _)⟩)
      dsimp only [Pt.U, Pt.locs, Pt.cells, Pt.slots] at X12 l12 y12 z12 st12 hQ12
      subst l12 y12 z12
      obtain ⟨b12_0, b12_1, k12_0, rfl, N12q, K12, KF12, gb12_0, ltb12_0, gb12_1, ltb12_1, lob12_1, Y12_0, Y12_1, Y12_2, Y12_3⟩ := hQ12
      have sz12 : h0.size ≤ T12.heap.size := K12.1
      have N12 := Fr.app N1 N12q
      refine GoW.pre st12 ?_
      show GoW p e below s _ _ _ (T12.setTop (mkF m 54 #[sI p0, .val (.int ((((p0.toUInt32 >>> ((8 : Int32) &&& 31).toUInt32).toInt32) &&& (255 : Int32)).toUInt32.toUInt16.toUInt32.toInt32)), .val (.int ((((p0.toUInt32 >>> ((16 : Int32) &&& 31).toUInt32).toInt32) &&& (255 : Int32)).toUInt32.toUInt16.toUInt32.toInt32)), .val (.int (own_minI (2 : Int32) (((p0.toUInt32 >>> ((2 : Int32) &&& 31).toUInt32).toInt32) &&& (3 : Int32))))] [(.ref b12_0)]))
      exact GoW.retV X12 hS (leH rfl (by omega)) hx hlk hrt rfl (Or.inr (Or.inr (Or.inr (Or.inr ⟨rfl, rfl, rfl⟩)))) (hb hby d13_54) (by decide) (by decide) (by exact ⟨b12_0, rfl, N12, ((Keep.refl h0 []).trans K12 all0), ((KF.refl Z h0 []).trans KF12 pall0), by omega, by omega, Y12_0, IB.sup (IB.at X12 hI) (by simp)⟩)
    · refine GoW.pre (st' := T1.setTop (mkF m 55 #[sI p0, .val (.int ((((p0.toUInt32 >>> ((8 : Int32) &&& 31).toUInt32).toInt32) &&& (255 : Int32)).toUInt32.toUInt16.toUInt32.toInt32)), .val (.int ((((p0.toUInt32 >>> ((16 : Int32) &&& 31).toUInt32).toInt32) &&& (255 : Int32)).toUInt32.toUInt16.toUInt32.toInt32)), .val (.int (own_minI (2 : Int32) (((p0.toUInt32 >>> ((2 : Int32) &&& 31).toUInt32).toInt32) &&& (3 : Int32))))] [])) (fun target kt => ?_) ?_
      · show Steps p.tables e below (T1.setTop (mkF m 47 #[sI p0, .val (.int ((((p0.toUInt32 >>> ((8 : Int32) &&& 31).toUInt32).toInt32) &&& (255 : Int32)).toUInt32.toUInt16.toUInt32.toInt32)), .val (.int ((((p0.toUInt32 >>> ((16 : Int32) &&& 31).toUInt32).toInt32) &&& (255 : Int32)).toUInt32.toUInt16.toUInt32.toInt32)), .val (.int (own_minI (2 : Int32) (((p0.toUInt32 >>> ((2 : Int32) &&& 31).toUInt32).toInt32) &&& (3 : Int32))))] [(.int (1 : Int32)), (.int (own_minI (2 : Int32) (((p0.toUInt32 >>> ((2 : Int32) &&& 31).toUInt32).toInt32) &&& (3 : Int32))))])) _
        refine XS.icmpYes X1.here hx rfl (pc0 := 47) (pc' := 55) rfl (hb hby d13_47) rfl (feq h47_11).2 (by decide) (by decide) ?_
        exact kt
      obtain ⟨T13, h13, X13, e13, E13, A13, D13, -, st13⟩ := newO X1 hx hZ hown (ow hw 95 rfl) (ow hw 2 rfl) (ow hw 1 rfl) e1 (g := (mkF m 55 #[sI p0, .val (.int ((((p0.toUInt32 >>> ((8 : Int32) &&& 31).toUInt32).toInt32) &&& (255 : Int32)).toUInt32.toUInt16.toUInt32.toInt32)), .val (.int ((((p0.toUInt32 >>> ((16 : Int32) &&& 31).toUInt32).toInt32) &&& (255 : Int32)).toUInt32.toUInt16.toUInt32.toInt32)), .val (.int (own_minI (2 : Int32) (((p0.toUInt32 >>> ((2 : Int32) &&& 31).toUInt32).toInt32) &&& (3 : Int32))))] [])) rfl (hb hby d13_55) (by decide) (by decide)
      obtain ⟨b13, g13⟩ : ∃ z, z = h0.size := ⟨_, rfl⟩
      rw [← g13] at A13 D13 st13
      have sz13 : h0.size ≤ h13.size := E13.1
      have lt13 : b13 < h13.size := A13.lt
      have F13_value : Fld Z h13 b13 "java/lang/String" "value" "[B" .null := D13 (Or.inr (ow hw 4 rfl)) (ty := (.array .byte)) (by decide)
      have F13_coder : Fld Z h13 b13 "java/lang/String" "coder" "B" (.int (0 : Int32)) := D13 (Or.inr (ow hw 5 rfl)) (ty := .byte) (by decide)
      refine GoW.pre st13 ?_
      show GoW p e below s _ _ _ (T13.setTop (mkF m 58 #[sI p0, .val (.int ((((p0.toUInt32 >>> ((8 : Int32) &&& 31).toUInt32).toInt32) &&& (255 : Int32)).toUInt32.toUInt16.toUInt32.toInt32)), .val (.int ((((p0.toUInt32 >>> ((16 : Int32) &&& 31).toUInt32).toInt32) &&& (255 : Int32)).toUInt32.toUInt16.toUInt32.toInt32)), .val (.int (own_minI (2 : Int32) (((p0.toUInt32 >>> ((2 : Int32) &&& 31).toUInt32).toInt32) &&& (3 : Int32))))] [(.ref b13)]))
      refine GoW.pre (st' := T13.setTop (mkF m 60 #[sI p0, .val (.int ((((p0.toUInt32 >>> ((8 : Int32) &&& 31).toUInt32).toInt32) &&& (255 : Int32)).toUInt32.toUInt16.toUInt32.toInt32)), .val (.int ((((p0.toUInt32 >>> ((16 : Int32) &&& 31).toUInt32).toInt32) &&& (255 : Int32)).toUInt32.toUInt16.toUInt32.toInt32)), .val (.int (own_minI (2 : Int32) (((p0.toUInt32 >>> ((2 : Int32) &&& 31).toUInt32).toInt32) &&& (3 : Int32))))] [(.int (2 : Int32)), (.ref b13), (.ref b13)])) (fun target kt => ?_) ?_
      · show Steps p.tables e below (T13.setTop (mkF m 58 #[sI p0, .val (.int ((((p0.toUInt32 >>> ((8 : Int32) &&& 31).toUInt32).toInt32) &&& (255 : Int32)).toUInt32.toUInt16.toUInt32.toInt32)), .val (.int ((((p0.toUInt32 >>> ((16 : Int32) &&& 31).toUInt32).toInt32) &&& (255 : Int32)).toUInt32.toUInt16.toUInt32.toInt32)), .val (.int (own_minI (2 : Int32) (((p0.toUInt32 >>> ((2 : Int32) &&& 31).toUInt32).toInt32) &&& (3 : Int32))))] [(.ref b13)])) _
        refine XS.dup X13.here hx rfl (hb hby d13_58) rfl rfl ?_
        refine XS.iconst X13.here hx rfl (hb hby d13_59) ?_
        exact kt
      obtain ⟨T14, h14, k14, X14, e14, E14, A14, st14⟩ := newP X13 hx hZ (ow hw 96 rfl) e13 (g := (mkF m 60 #[sI p0, .val (.int ((((p0.toUInt32 >>> ((8 : Int32) &&& 31).toUInt32).toInt32) &&& (255 : Int32)).toUInt32.toUInt16.toUInt32.toInt32)), .val (.int ((((p0.toUInt32 >>> ((16 : Int32) &&& 31).toUInt32).toInt32) &&& (255 : Int32)).toUInt32.toUInt16.toUInt32.toInt32)), .val (.int (own_minI (2 : Int32) (((p0.toUInt32 >>> ((2 : Int32) &&& 31).toUInt32).toInt32) &&& (3 : Int32))))] [(.int (2 : Int32)), (.ref b13), (.ref b13)])) rfl (hb hby d13_60) rfl (by decide) (cap := 2) (by decide) (by decide) (by decide) (by decide)
      obtain ⟨b14, g14⟩ : ∃ z, z = h13.size := ⟨_, rfl⟩
      rw [← g14] at A14 st14
      have sz14 : h13.size ≤ h14.size := E14.1
      have V14 : Arv Z h14 b14 k14 .char (2 : Int32) [(.int (0 : Int32)), (.int (0 : Int32))] (.int (0 : Int32)) := (Arv.new A14 (by decide)).pad (pad_rep [] (.int (0 : Int32)) 2)
      have lt14 : b14 < h14.size := V14.lt
      refine GoW.pre st14 ?_
      show GoW p e below s _ _ _ (T14.setTop (mkF m 62 #[sI p0, .val (.int ((((p0.toUInt32 >>> ((8 : Int32) &&& 31).toUInt32).toInt32) &&& (255 : Int32)).toUInt32.toUInt16.toUInt32.toInt32)), .val (.int ((((p0.toUInt32 >>> ((16 : Int32) &&& 31).toUInt32).toInt32) &&& (255 : Int32)).toUInt32.toUInt16.toUInt32.toInt32)), .val (.int (own_minI (2 : Int32) (((p0.toUInt32 >>> ((2 : Int32) &&& 31).toUInt32).toInt32) &&& (3 : Int32))))] [(.ref b14), (.ref b13), (.ref b13)]))
      refine GoW.pre (st' := T14.setTop (mkF m 65 #[sI p0, .val (.int ((((p0.toUInt32 >>> ((8 : Int32) &&& 31).toUInt32).toInt32) &&& (255 : Int32)).toUInt32.toUInt16.toUInt32.toInt32)), .val (.int ((((p0.toUInt32 >>> ((16 : Int32) &&& 31).toUInt32).toInt32) &&& (255 : Int32)).toUInt32.toUInt16.toUInt32.toInt32)), .val (.int (own_minI (2 : Int32) (((p0.toUInt32 >>> ((2 : Int32) &&& 31).toUInt32).toInt32) &&& (3 : Int32))))] [(.int ((((p0.toUInt32 >>> ((8 : Int32) &&& 31).toUInt32).toInt32) &&& (255 : Int32)).toUInt32.toUInt16.toUInt32.toInt32)), (.int (0 : Int32)), (.ref b14), (.ref b14), (.ref b13), (.ref b13)])) (fun target kt => ?_) ?_
      · show Steps p.tables e below (T14.setTop (mkF m 62 #[sI p0, .val (.int ((((p0.toUInt32 >>> ((8 : Int32) &&& 31).toUInt32).toInt32) &&& (255 : Int32)).toUInt32.toUInt16.toUInt32.toInt32)), .val (.int ((((p0.toUInt32 >>> ((16 : Int32) &&& 31).toUInt32).toInt32) &&& (255 : Int32)).toUInt32.toUInt16.toUInt32.toInt32)), .val (.int (own_minI (2 : Int32) (((p0.toUInt32 >>> ((2 : Int32) &&& 31).toUInt32).toInt32) &&& (3 : Int32))))] [(.ref b14), (.ref b13), (.ref b13)])) _
        refine XS.dup X14.here hx rfl (hb hby d13_62) rfl rfl ?_
        refine XS.iconst X14.here hx rfl (hb hby d13_63) ?_
        refine XS.iloadN X14.here hx rfl (hb hby d13_64) rfl ?_
        exact kt
      obtain ⟨cl15, Ar15, q15, Sz15, Nn15, Hs15, Gs15⟩ := id V14
      have in15 := inb_of (j := (0 : Int32)) Sz15 ⟨by decide, by decide⟩
      obtain ⟨T15, h15, X15, e15, W15, st15⟩ := stC X14 hx hZ e14 Ar15 (j := (0 : Int32)) in15 (g := (mkF m 65 #[sI p0, .val (.int ((((p0.toUInt32 >>> ((8 : Int32) &&& 31).toUInt32).toInt32) &&& (255 : Int32)).toUInt32.toUInt16.toUInt32.toInt32)), .val (.int ((((p0.toUInt32 >>> ((16 : Int32) &&& 31).toUInt32).toInt32) &&& (255 : Int32)).toUInt32.toUInt16.toUInt32.toInt32)), .val (.int (own_minI (2 : Int32) (((p0.toUInt32 >>> ((2 : Int32) &&& 31).toUInt32).toInt32) &&& (3 : Int32))))] [(.int ((((p0.toUInt32 >>> ((8 : Int32) &&& 31).toUInt32).toInt32) &&& (255 : Int32)).toUInt32.toUInt16.toUInt32.toInt32)), (.int (0 : Int32)), (.ref b14), (.ref b14), (.ref b13), (.ref b13)])) rfl rfl (hb hby d13_65)
      have sz15 : h14.size ≤ h15.size := (Keep.of_wr W15).1
      have V15 : Arv Z h15 b14 k14 .char (2 : Int32) [(.int (nar .char ((((p0.toUInt32 >>> ((8 : Int32) &&& 31).toUInt32).toInt32) &&& (255 : Int32)).toUInt32.toUInt16.toUInt32.toInt32))), (.int (0 : Int32))] (.int (0 : Int32)) := Arv.set Ar15 q15 Sz15 Nn15 Hs15 Gs15 (fits_nar_char _) W15 0 rfl (Nat.le_of_ble_eq_true rfl)
      have N15 := Fr.snoc X15 N1 (by omega)
      refine GoW.pre st15 ?_
      show GoW p e below s _ _ _ (T15.setTop (mkF m 66 #[sI p0, .val (.int ((((p0.toUInt32 >>> ((8 : Int32) &&& 31).toUInt32).toInt32) &&& (255 : Int32)).toUInt32.toUInt16.toUInt32.toInt32)), .val (.int ((((p0.toUInt32 >>> ((16 : Int32) &&& 31).toUInt32).toInt32) &&& (255 : Int32)).toUInt32.toUInt16.toUInt32.toInt32)), .val (.int (own_minI (2 : Int32) (((p0.toUInt32 >>> ((2 : Int32) &&& 31).toUInt32).toInt32) &&& (3 : Int32))))] [(.ref b14), (.ref b13), (.ref b13)]))
      refine GoW.pre (st' := T15.setTop (mkF m 69 #[sI p0, .val (.int ((((p0.toUInt32 >>> ((8 : Int32) &&& 31).toUInt32).toInt32) &&& (255 : Int32)).toUInt32.toUInt16.toUInt32.toInt32)), .val (.int ((((p0.toUInt32 >>> ((16 : Int32) &&& 31).toUInt32).toInt32) &&& (255 : Int32)).toUInt32.toUInt16.toUInt32.toInt32)), .val (.int (own_minI (2 : Int32) (((p0.toUInt32 >>> ((2 : Int32) &&& 31).toUInt32).toInt32) &&& (3 : Int32))))] [(.int ((((p0.toUInt32 >>> ((16 : Int32) &&& 31).toUInt32).toInt32) &&& (255 : Int32)).toUInt32.toUInt16.toUInt32.toInt32)), (.int (1 : Int32)), (.ref b14), (.ref b14), (.ref b13), (.ref b13)])) (fun target kt => ?_) ?_
      · show Steps p.tables e below (T15.setTop (mkF m 66 #[sI p0, .val (.int ((((p0.toUInt32 >>> ((8 : Int32) &&& 31).toUInt32).toInt32) &&& (255 : Int32)).toUInt32.toUInt16.toUInt32.toInt32)), .val (.int ((((p0.toUInt32 >>> ((16 : Int32) &&& 31).toUInt32).toInt32) &&& (255 : Int32)).toUInt32.toUInt16.toUInt32.toInt32)), .val (.int (own_minI (2 : Int32) (((p0.toUInt32 >>> ((2 : Int32) &&& 31).toUInt32).toInt32) &&& (3 : Int32))))] [(.ref b14), (.ref b13), (.ref b13)])) _
        refine XS.dup X15.here hx rfl (hb hby d13_66) rfl rfl ?_
        refine XS.iconst X15.here hx rfl (hb hby d13_67) ?_
        refine XS.iloadN X15.here hx rfl (hb hby d13_68) rfl ?_
        exact kt
      obtain ⟨cl16, Ar16, q16, Sz16, Nn16, Hs16, Gs16⟩ := id V15
      have in16 := inb_of (j := (1 : Int32)) Sz16 ⟨by decide, by decide⟩
      obtain ⟨T16, h16, X16, e16, W16, st16⟩ := stC X15 hx hZ e15 Ar16 (j := (1 : Int32)) in16 (g := (mkF m 69 #[sI p0, .val (.int ((((p0.toUInt32 >>> ((8 : Int32) &&& 31).toUInt32).toInt32) &&& (255 : Int32)).toUInt32.toUInt16.toUInt32.toInt32)), .val (.int ((((p0.toUInt32 >>> ((16 : Int32) &&& 31).toUInt32).toInt32) &&& (255 : Int32)).toUInt32.toUInt16.toUInt32.toInt32)), .val (.int (own_minI (2 : Int32) (((p0.toUInt32 >>> ((2 : Int32) &&& 31).toUInt32).toInt32) &&& (3 : Int32))))] [(.int ((((p0.toUInt32 >>> ((16 : Int32) &&& 31).toUInt32).toInt32) &&& (255 : Int32)).toUInt32.toUInt16.toUInt32.toInt32)), (.int (1 : Int32)), (.ref b14), (.ref b14), (.ref b13), (.ref b13)])) rfl rfl (hb hby d13_69)
      have sz16 : h15.size ≤ h16.size := (Keep.of_wr W16).1
      have V16 : Arv Z h16 b14 k14 .char (2 : Int32) [(.int (nar .char ((((p0.toUInt32 >>> ((8 : Int32) &&& 31).toUInt32).toInt32) &&& (255 : Int32)).toUInt32.toUInt16.toUInt32.toInt32))), (.int (nar .char ((((p0.toUInt32 >>> ((16 : Int32) &&& 31).toUInt32).toInt32) &&& (255 : Int32)).toUInt32.toUInt16.toUInt32.toInt32)))] (.int (0 : Int32)) := Arv.set Ar16 q16 Sz16 Nn16 Hs16 Gs16 (fits_nar_char _) W16 1 rfl (Nat.le_of_ble_eq_true rfl)
      have N16 := Fr.snoc X16 N15 (by omega)
      refine GoW.pre st16 ?_
      show GoW p e below s _ _ _ (T16.setTop (mkF m 70 #[sI p0, .val (.int ((((p0.toUInt32 >>> ((8 : Int32) &&& 31).toUInt32).toInt32) &&& (255 : Int32)).toUInt32.toUInt16.toUInt32.toInt32)), .val (.int ((((p0.toUInt32 >>> ((16 : Int32) &&& 31).toUInt32).toInt32) &&& (255 : Int32)).toUInt32.toUInt16.toUInt32.toInt32)), .val (.int (own_minI (2 : Int32) (((p0.toUInt32 >>> ((2 : Int32) &&& 31).toUInt32).toInt32) &&& (3 : Int32))))] [(.ref b14), (.ref b13), (.ref b13)]))
      have Y18 : Old Z n0 h16 := ((((Ol.ext E13).ext E14).wr W15 (by omega)).wr W16 (by omega))
      have Y19 : Fld Z h16 b13 "java/lang/String" "coder" "B" (.int (0 : Int32)) := (((F13_coder.ext E14).other W15 (Or.inl (neN (by omega)))).other W16 (Or.inl (neN (by omega))))
      have Y20 : Exa Z h16 b13 "java/lang/String" := (((A13.ext E14).wr W15).wr W16)
      have Y21 : Fld Z h16 b13 "java/lang/String" "value" "[B" .null := (((F13_value.ext E14).other W15 (Or.inl (neN (by omega)))).other W16 (Or.inl (neN (by omega))))
      obtain ⟨_, _, ⟨T17, L17, k17, n17⟩, -, X17, ⟨Lc17, hQ17, l17, y17, z17⟩, st17⟩ := X16.specialBack hx (y := (⟨"java/lang/String", "<init>", "([C)V"⟩ : MethodName)) rfl hown (mvT hZ (ow hw 97 rfl)) (mvT hZ (ow hw 98 rfl)) (mvT hZ (ow hw 99 rfl)) (by decide) (backOf (W := 1) (rm15c l Z a0 hw [] b13 b14 k14 (nar .char ((((p0.toUInt32 >>> ((8 : Int32) &&& 31).toUInt32).toInt32) &&& (255 : Int32)).toUInt32.toUInt16.toUInt32.toInt32)) (nar .char ((((p0.toUInt32 >>> ((16 : Int32) &&& 31).toUInt32).toInt32) &&& (255 : Int32)).toUInt32.toUInt16.toUInt32.toInt32)) zc (.int (0 : Int32)) .null h16 n0 (by omega) V16 S_COMPACT Y18 Y19 Y20 (by omega) Y21 (own_c255n _) (own_c255n _) hcs) hZ (ow hw 99 rfl) (ow hw 1 rfl) (by decide) (by decide)) (g := (mkF m 70 #[sI p0, .val (.int ((((p0.toUInt32 >>> ((8 : Int32) &&& 31).toUInt32).toInt32) &&& (255 : Int32)).toUInt32.toUInt16.toUInt32.toInt32)), .val (.int ((((p0.toUInt32 >>> ((16 : Int32) &&& 31).toUInt32).toInt32) &&& (255 : Int32)).toUInt32.toUInt16.toUInt32.toInt32)), .val (.int (own_minI (2 : Int32) (((p0.toUInt32 >>> ((2 : Int32) &&& 31).toUInt32).toInt32) &&& (3 : Int32))))] [(.ref b14), (.ref b13), (.ref b13)])) rfl (by rw [hml]; rfl) (Steps.refl _) (a := b13) (argsL := [(.ref b14)]) (rest := [(.ref b13)]) (lenOf pd13_1 rfl) rfl (by show 2 * 0 + _ ≤ _; exact Nat.le_of_eq rfl) (hb hby d13_70) (fun vm₁ hvm => ⟨rfl, e16, (by decide : 2 + 1 ≤ _), (by decide : 6 + 2 ≤ _)⟩)
      dsimp only [Pt.U, Pt.locs, Pt.cells, Pt.slots] at X17 l17 y17 z17 st17 hQ17
      subst l17 y17 z17
      obtain ⟨b17_0, k17_0, rfl, N17q, K17, KF17, gb17_0, ltb17_0, Y17_0, Y17_1, Y17_2⟩ := hQ17
      have sz17 : h16.size ≤ T17.heap.size := K17.1
      have N17 := Fr.app N16 N17q
      refine GoW.trans st17 ?_
      show GoW p e below s _ _ _ (T17.setTop (mkF m 73 #[sI p0, .val (.int ((((p0.toUInt32 >>> ((8 : Int32) &&& 31).toUInt32).toInt32) &&& (255 : Int32)).toUInt32.toUInt16.toUInt32.toInt32)), .val (.int ((((p0.toUInt32 >>> ((16 : Int32) &&& 31).toUInt32).toInt32) &&& (255 : Int32)).toUInt32.toUInt16.toUInt32.toInt32)), .val (.int (own_minI (2 : Int32) (((p0.toUInt32 >>> ((2 : Int32) &&& 31).toUInt32).toInt32) &&& (3 : Int32))))] [(.ref b13)]))
      have Y22 : Exa Z T17.heap b13 "java/lang/String" := (Y20.keep K17)
      exact GoW.retV X17 hS (leH rfl (by omega)) hx hlk hrt rfl (Or.inr (Or.inr (Or.inr (Or.inr ⟨rfl, rfl, rfl⟩)))) (hb hby d13_73) (by decide) (by decide) (by exact ⟨b13, rfl, N17, ((((((Keep.refl h0 []).ext E13).ext E14).wr W15 (Or.inr (by omega))).wr W16 (Or.inr (by omega))).trans K17 (allS (Or.inr (by omega)) all0)), ((((((KF.refl Z h0 []).ext E13).ext E14).wr W15 (Or.inr (by show _ ≤ b14; omega))).wr W16 (Or.inr (by show _ ≤ b14; omega))).trans KF17 (pallS (Or.inr (by show _ ≤ b13; omega)) (pallS (Or.inr (by show _ ≤ b13; omega)) pall0))), by omega, by omega, Y22, IB.sup (IB.at X17 hI) (by simp)⟩)
/-! Location.<init> (2N) -/
theorem d2_0 : decode prog_39_method_2_code 0 = .ok (.aload_n 0, 1) := by decide +kernel
theorem d2_1 : decode prog_39_method_2_code 1 = .ok (.invokespecial 7, 3) := by decide +kernel
theorem d2_4 : decode prog_39_method_2_code 4 = .ok (.lload_n 2, 1) := by decide +kernel
theorem d2_5 : decode prog_39_method_2_code 5 = .ok (.lconst 1, 1) := by decide +kernel
theorem d2_6 : decode prog_39_method_2_code 6 = .ok (.lcmp, 1) := by decide +kernel
theorem d2_7 : decode prog_39_method_2_code 7 = .ok (.ifCond .lt 10, 3) := by decide +kernel
theorem d2_10 : decode prog_39_method_2_code 10 = .ok (.lload 4, 2) := by decide +kernel
theorem d2_12 : decode prog_39_method_2_code 12 = .ok (.lconst 1, 1) := by decide +kernel
theorem d2_13 : decode prog_39_method_2_code 13 = .ok (.lcmp, 1) := by decide +kernel
theorem d2_14 : decode prog_39_method_2_code 14 = .ok (.ifCond .ge 19, 3) := by decide +kernel
theorem d2_33 : decode prog_39_method_2_code 33 = .ok (.aload_n 0, 1) := by decide +kernel
theorem d2_34 : decode prog_39_method_2_code 34 = .ok (.aload_n 1, 1) := by decide +kernel
theorem d2_35 : decode prog_39_method_2_code 35 = .ok (.putfield 21, 3) := by decide +kernel
theorem d2_38 : decode prog_39_method_2_code 38 = .ok (.aload_n 0, 1) := by decide +kernel
theorem d2_39 : decode prog_39_method_2_code 39 = .ok (.lload_n 2, 1) := by decide +kernel
theorem d2_40 : decode prog_39_method_2_code 40 = .ok (.putfield 25, 3) := by decide +kernel
theorem d2_43 : decode prog_39_method_2_code 43 = .ok (.aload_n 0, 1) := by decide +kernel
theorem d2_44 : decode prog_39_method_2_code 44 = .ok (.lload 4, 2) := by decide +kernel
theorem d2_46 : decode prog_39_method_2_code 46 = .ok (.putfield 29, 3) := by decide +kernel
theorem d2_49 : decode prog_39_method_2_code 49 = .ok (.return_, 1) := by decide +kernel
theorem pn_2 : plainName "com/example/satzung/satzung/diagnostics/Location" = true := by first | (simp [plainName, overriddenIn]; done) | decide +kernel
theorem ef_2N (m : MethodId) (o0 : Addr) (q2 : Int64) (q3 : Int64) : entryFrame m #[(.ref o0), .null, (.long q2), (.long q3)] 6 = (mkF m 0 #[.val (.ref o0), .val .null, .val (.long q2), .second, .val (.long q3), .second] []) := by first | (simp [entryFrame, mkF, argsToLocals, Value.category]; done) | rfl
def Q2N (Z : State) (o0 : Addr) (q2 : Int64) (q3 : Int64) (u2 : Value) (u5 : Value) (u10 : Value) (h0 : Heap) (n0 : Nat) (v : Option Value) (h : Heap) (L : List Loc) : Prop := v = none ∧ Fr n0 L ∧ Keep h0 h [o0] ∧ KF Z h0 h [(o0, Jvm.RoadKit.slotOf Z "com/example/satzung/satzung/diagnostics/Location" "entity" "Ljava/lang/String;"), (o0, Jvm.RoadKit.slotOf Z "com/example/satzung/satzung/diagnostics/Location" "line" "J"), (o0, Jvm.RoadKit.slotOf Z "com/example/satzung/satzung/diagnostics/Location" "column" "J")] ∧ Fld Z h o0 "com/example/satzung/satzung/diagnostics/Location" "entity" "Ljava/lang/String;" .null ∧ Fld Z h o0 "com/example/satzung/satzung/diagnostics/Location" "line" "J" (.long q2) ∧ Fld Z h o0 "com/example/satzung/satzung/diagnostics/Location" "column" "J" (.long q3)
set_option maxRecDepth 65536 in
set_option maxHeartbeats 40000000 in
theorem rm2N (l : Launch) (Z : State) (a0 : Array Value) (hw : ∀ d ∈ tables_1, d.before a0 Z = true) (ws : List Jvm.Cond) (o0 : Addr) (q2 : Int64) (q3 : Int64) (u2 : Value) (u5 : Value) (u10 : Value) (h0 : Heap) (n0 : Nat) (Z0 : n0 ≤ h0.size) (E_o0 : Exa Z h0 o0 "com/example/satzung/satzung/diagnostics/Location") (F_entity_o0 : Fld Z h0 o0 "com/example/satzung/satzung/diagnostics/Location" "entity" "Ljava/lang/String;" u2) (g_o0 : n0 ≤ o0) (F_line_o0 : Fld Z h0 o0 "com/example/satzung/satzung/diagnostics/Location" "line" "J" u5) (F_column_o0 : Fld Z h0 o0 "com/example/satzung/satzung/diagnostics/Location" "column" "J" u10) (hc7 : ¬ (q2 < (1 : Int64))) (hc14 : ¬ (q3 < (1 : Int64))) :
    MetFree l (⟨"com/example/satzung/satzung/diagnostics/Location", "<init>", "(Ljava/lang/String;JJ)V"⟩ : MethodName) (head1 (Jvm.Cond.code (⟨"com/example/satzung/satzung/diagnostics/Location", "<init>", "(Ljava/lang/String;JJ)V"⟩ : MethodName) prog_39_method_2_code 6 none :: ws) ({ frames := 1, cells := 0, slots := 0, locals := 12 } : Room)) (fun a U => a = #[(.ref o0), .null, (.long q2), (.long q3)] ∧ Z.Warmed39 U.vm ∧ U.heap = h0) (fun _ _ _ _ _ => True) (fun _ U o U' => ∃ v L, o = .returned v ∧ Q2N Z o0 q2 q3 u2 u5 u10 h0 n0 v U'.heap L ∧ FrameEnd U o U' L ({ frames := 1, cells := 0, slots := 0, locals := 12 } : Room).cells ({ frames := 1, cells := 0, slots := 0, locals := 12 } : Room).slots) := by
  refine MetFree.of_bodySF (plainFor_of_name pn_2) hisR ?_
  intro p e s m args below meth c s₁ Bd hml0 hP hK
  obtain ⟨rfl, hZ, hh⟩ := hP
  have hx := Bd.exec
  have hby := Bd.bytes
  have hml : c.maxLocals = 6 := hml0
  have hown : s.vm.findClass "com/example/satzung/satzung/diagnostics/Location" = some m.cls := findClass_of_methodNamed Bd.named
  have hnm := (name_of_methodNamed Bd.named Bd.method).1
  have hrt := Bd.returns
  have hlk := Bd.notSynchronized
  have X0 : Stand p l e ({ frames := 1, cells := 0, slots := 0, locals := 12 } : Room) s m #[(.ref o0), .null, (.long q2), (.long q3)] below meth c s₁ [] 0 0 := Stand.of_body Bd
  have e0 : s₁.heap = h0 := by rw [← hh, Bd.state]; rfl
  have N0 := Fr.nil n0
  have lt_E_o0 : LT.lt (α := Nat) o0 h0.size := E_o0.lt
  have lt_F_entity_o0 : LT.lt (α := Nat) o0 h0.size := F_entity_o0.lt
  have lt_F_line_o0 : LT.lt (α := Nat) o0 h0.size := F_line_o0.lt
  have lt_F_column_o0 : LT.lt (α := Nat) o0 h0.size := F_column_o0.lt
  show Go p e below s 0 0 (Q2N Z o0 q2 q3 u2 u5 u10 h0 n0) (s₁.setTop (entryFrame m #[(.ref o0), .null, (.long q2), (.long q3)] 6))
  rw [ef_2N m o0 q2 q3]
  refine Go.pre (st' := s₁.setTop (mkF m 1 #[sR o0, sN, sL q2, sS, sL q3, sS] [(.ref o0)])) (fun target kt => ?_) ?_
  · show Steps p.tables e below (s₁.setTop (mkF m 0 #[sR o0, sN, sL q2, sS, sL q3, sS] [])) _
    refine XS.aloadN X0.here hx rfl (hb hby d2_0) rfl rfl ?_
    exact kt
  obtain ⟨T1, X1, e1, st1⟩ := initO X0 hx hZ hown (ow hw 19 rfl) (ow hw 20 rfl) (ow hw 21 rfl) e0 (g := (mkF m 1 #[sR o0, sN, sL q2, sS, sL q3, sS] [(.ref o0)])) rfl (by rw [hml]; rfl) rfl (hb hby d2_1) (by decide) (W := 0) (by show 2 * 0 + _ ≤ _; exact Nat.le_of_eq rfl) (by decide)
  refine Go.pre st1 ?_
  show Go p e below s _ _ _ (T1.setTop (mkF m 4 #[sR o0, sN, sL q2, sS, sL q3, sS] []))
  refine Go.pre (st' := T1.setTop (mkF m 35 #[sR o0, sN, sL q2, sS, sL q3, sS] [.null, (.ref o0)])) (fun target kt => ?_) ?_
  · show Steps p.tables e below (T1.setTop (mkF m 4 #[sR o0, sN, sL q2, sS, sL q3, sS] [])) _
    refine XS.lloadN X1.here hx rfl (hb hby d2_4) rfl ?_
    refine XS.lconst X1.here hx rfl (hb hby d2_5) ?_
    refine XS.lcmp X1.here hx rfl (hb hby d2_6) rfl ?_
    refine XS.ifNo X1.here hx rfl (hb hby d2_7) rfl ((if0 _ _).trans (flt (fun q => hc7 ((lw_lt _ _).mp q))).1) ?_
    refine XS.lload X1.here hx rfl (hb hby d2_10) rfl ?_
    refine XS.lconst X1.here hx rfl (hb hby d2_12) ?_
    refine XS.lcmp X1.here hx rfl (hb hby d2_13) rfl ?_
    refine XS.ifYes X1.here hx rfl (pc0 := 14) (pc' := 33) rfl (hb hby d2_14) rfl ((if0 _ _).trans (flt (fun q => hc14 ((lw_lt _ _).mp q))).2.1) (by decide) (by decide) ?_
    refine XS.aloadN X1.here hx rfl (hb hby d2_33) rfl rfl ?_
    refine XS.aloadN X1.here hx rfl (hb hby d2_34) rfl rfl ?_
    exact kt
  obtain ⟨T3, h3, X3, e3, W3, st3⟩ := putF X1 hx hZ hown (host := "") (Or.inl (ow hw 22 rfl)) Via.refl e1 F_entity_o0 E_o0 (Or.inr ⟨(ow hw 23 rfl), rfl, hnm⟩) (ow hw 14 rfl) (ty := (.object "java/lang/String")) (by decide) rfl rfl (g := (mkF m 35 #[sR o0, sN, sL q2, sS, sL q3, sS] [.null, (.ref o0)])) rfl rfl (hb hby d2_35)
  have sz3 : h0.size ≤ h3.size := (Keep.of_wr W3).1
  have Y4 : Fld Z h3 o0 "com/example/satzung/satzung/diagnostics/Location" "entity" "Ljava/lang/String;" .null := F_entity_o0.same W3
  have N3 := Fr.snoc X3 N0 (by omega)
  refine Go.pre st3 ?_
  show Go p e below s _ _ _ (T3.setTop (mkF m 38 #[sR o0, sN, sL q2, sS, sL q3, sS] []))
  refine Go.pre (st' := T3.setTop (mkF m 40 #[sR o0, sN, sL q2, sS, sL q3, sS] [(.long q2), (.ref o0)])) (fun target kt => ?_) ?_
  · show Steps p.tables e below (T3.setTop (mkF m 38 #[sR o0, sN, sL q2, sS, sL q3, sS] [])) _
    refine XS.aloadN X3.here hx rfl (hb hby d2_38) rfl rfl ?_
    refine XS.lloadN X3.here hx rfl (hb hby d2_39) rfl ?_
    exact kt
  have Y6 : Fld Z h3 o0 "com/example/satzung/satzung/diagnostics/Location" "line" "J" u5 := (F_line_o0.other W3 (Or.inr (slot_ne (Or.inr (ow hw 25 rfl)) (Or.inr (ow hw 23 rfl)) (by decide) (t := .long) (t' := (.object "java/lang/String")) (by decide) (by decide))))
  have Y7 : Exa Z h3 o0 "com/example/satzung/satzung/diagnostics/Location" := (E_o0.wr W3)
  obtain ⟨T8, h8, X8, e8, W8, st8⟩ := putF X3 hx hZ hown (host := "") (Or.inl (ow hw 24 rfl)) Via.refl e3 Y6 Y7 (Or.inr ⟨(ow hw 25 rfl), rfl, hnm⟩) (ow hw 14 rfl) (ty := .long) (by decide) rfl rfl (g := (mkF m 40 #[sR o0, sN, sL q2, sS, sL q3, sS] [(.long q2), (.ref o0)])) rfl rfl (hb hby d2_40)
  have sz8 : h3.size ≤ h8.size := (Keep.of_wr W8).1
  have Y9 : Fld Z h8 o0 "com/example/satzung/satzung/diagnostics/Location" "line" "J" (.long q2) := Y6.same W8
  have N8 := Fr.snoc X8 N3 (by omega)
  refine Go.pre st8 ?_
  show Go p e below s _ _ _ (T8.setTop (mkF m 43 #[sR o0, sN, sL q2, sS, sL q3, sS] []))
  refine Go.pre (st' := T8.setTop (mkF m 46 #[sR o0, sN, sL q2, sS, sL q3, sS] [(.long q3), (.ref o0)])) (fun target kt => ?_) ?_
  · show Steps p.tables e below (T8.setTop (mkF m 43 #[sR o0, sN, sL q2, sS, sL q3, sS] [])) _
    refine XS.aloadN X8.here hx rfl (hb hby d2_43) rfl rfl ?_
    refine XS.lload X8.here hx rfl (hb hby d2_44) rfl ?_
    exact kt
  have Y11 : Fld Z h8 o0 "com/example/satzung/satzung/diagnostics/Location" "column" "J" u10 := ((F_column_o0.other W3 (Or.inr (slot_ne (Or.inr (ow hw 27 rfl)) (Or.inr (ow hw 23 rfl)) (by decide) (t := .long) (t' := (.object "java/lang/String")) (by decide) (by decide)))).other W8 (Or.inr (slot_ne (Or.inr (ow hw 27 rfl)) (Or.inr (ow hw 25 rfl)) (by decide) (t := .long) (t' := .long) (by decide) (by decide))))
  have Y12 : Exa Z h8 o0 "com/example/satzung/satzung/diagnostics/Location" := (Y7.wr W8)
  obtain ⟨T13, h13, X13, e13, W13, st13⟩ := putF X8 hx hZ hown (host := "") (Or.inl (ow hw 26 rfl)) Via.refl e8 Y11 Y12 (Or.inr ⟨(ow hw 27 rfl), rfl, hnm⟩) (ow hw 14 rfl) (ty := .long) (by decide) rfl rfl (g := (mkF m 46 #[sR o0, sN, sL q2, sS, sL q3, sS] [(.long q3), (.ref o0)])) rfl rfl (hb hby d2_46)
  have sz13 : h8.size ≤ h13.size := (Keep.of_wr W13).1
  have Y14 : Fld Z h13 o0 "com/example/satzung/satzung/diagnostics/Location" "column" "J" (.long q3) := Y11.same W13
  have N13 := Fr.snoc X13 N8 (by omega)
  refine Go.pre st13 ?_
  show Go p e below s _ _ _ (T13.setTop (mkF m 49 #[sR o0, sN, sL q2, sS, sL q3, sS] []))
  have Y15 : Fld Z h13 o0 "com/example/satzung/satzung/diagnostics/Location" "entity" "Ljava/lang/String;" .null := ((Y4.other W8 (Or.inr (slot_ne (Or.inr (ow hw 23 rfl)) (Or.inr (ow hw 25 rfl)) (by decide) (t := (.object "java/lang/String")) (t' := .long) (by decide) (by decide)))).other W13 (Or.inr (slot_ne (Or.inr (ow hw 23 rfl)) (Or.inr (ow hw 27 rfl)) (by decide) (t := (.object "java/lang/String")) (t' := .long) (by decide) (by decide))))
  have Y16 : Fld Z h13 o0 "com/example/satzung/satzung/diagnostics/Location" "line" "J" (.long q2) := (Y9.other W13 (Or.inr (slot_ne (Or.inr (ow hw 25 rfl)) (Or.inr (ow hw 27 rfl)) (by decide) (t := .long) (t' := .long) (by decide) (by decide))))
  exact Go.ret0 X13 hx hlk hrt (hb hby d2_49) (by decide) (by decide) (by rw [e13]; exact ⟨rfl, N13, ((((Keep.refl h0 [o0]).wr W3 (Or.inl (List.mem_of_getElem? (i := 0) rfl))).wr W8 (Or.inl (List.mem_of_getElem? (i := 0) rfl))).wr W13 (Or.inl (List.mem_of_getElem? (i := 0) rfl))), ((((KF.refl Z h0 [(o0, Jvm.RoadKit.slotOf Z "com/example/satzung/satzung/diagnostics/Location" "entity" "Ljava/lang/String;"), (o0, Jvm.RoadKit.slotOf Z "com/example/satzung/satzung/diagnostics/Location" "line" "J"), (o0, Jvm.RoadKit.slotOf Z "com/example/satzung/satzung/diagnostics/Location" "column" "J")]).wr W3 (Or.inl (List.mem_of_getElem? (i := 0) rfl))).wr W8 (Or.inl (List.mem_of_getElem? (i := 1) rfl))).wr W13 (Or.inl (List.mem_of_getElem? (i := 2) rfl))), Y15, Y16, Y14⟩)
/-! Location.entity (6N) -/
theorem d6_0 : decode prog_39_method_3_code 0 = .ok (.aload_n 0, 1) := by decide +kernel
theorem d6_1 : decode prog_39_method_3_code 1 = .ok (.getfield 21, 3) := by decide +kernel
theorem d6_4 : decode prog_39_method_3_code 4 = .ok (.areturn, 1) := by decide +kernel
theorem pn_6 : plainName "com/example/satzung/satzung/diagnostics/Location" = true := by first | (simp [plainName, overriddenIn]; done) | decide +kernel
theorem ef_6N (m : MethodId) (o0 : Addr) : entryFrame m #[(.ref o0)] 1 = (mkF m 0 #[.val (.ref o0)] []) := by first | (simp [entryFrame, mkF, argsToLocals, Value.category]; done) | rfl
def Q6N (Z : State) (o0 : Addr) (h0 : Heap) (n0 : Nat) (v : Option Value) (h : Heap) (L : List Loc) : Prop := v = some .null ∧ Fr n0 L ∧ h = h0
set_option maxRecDepth 65536 in
set_option maxHeartbeats 40000000 in
theorem rm6N (l : Launch) (Z : State) (a0 : Array Value) (hw : ∀ d ∈ tables_1, d.before a0 Z = true) (ws : List Jvm.Cond) (o0 : Addr) (h0 : Heap) (n0 : Nat) (Z0 : n0 ≤ h0.size) (F_ent : Fld Z h0 o0 "com/example/satzung/satzung/diagnostics/Location" "entity" "Ljava/lang/String;" .null) :
    MetFree l (⟨"com/example/satzung/satzung/diagnostics/Location", "entity", "()Ljava/lang/String;"⟩ : MethodName) (head1 (Jvm.Cond.code (⟨"com/example/satzung/satzung/diagnostics/Location", "entity", "()Ljava/lang/String;"⟩ : MethodName) prog_39_method_3_code 1 (some (.object "java/lang/String")) :: ws) ({ frames := 0, cells := 0, slots := 0, locals := 0 } : Room)) (fun a U => a = #[(.ref o0)] ∧ Z.Warmed39 U.vm ∧ U.heap = h0) (fun _ _ _ _ _ => True) (fun _ U o U' => ∃ v L, o = .returned v ∧ Q6N Z o0 h0 n0 v U'.heap L ∧ FrameEnd U o U' L ({ frames := 0, cells := 0, slots := 0, locals := 0 } : Room).cells ({ frames := 0, cells := 0, slots := 0, locals := 0 } : Room).slots) := by
  refine MetFree.of_bodySF (plainFor_of_name pn_6) hisR ?_
  intro p e s m args below meth c s₁ Bd hml0 hP hK
  obtain ⟨rfl, hZ, hh⟩ := hP
  have hx := Bd.exec
  have hby := Bd.bytes
  have hml : c.maxLocals = 1 := hml0
  have hown : s.vm.findClass "com/example/satzung/satzung/diagnostics/Location" = some m.cls := findClass_of_methodNamed Bd.named
  have hnm := (name_of_methodNamed Bd.named Bd.method).1
  have hrt := Bd.returns
  have hlk := Bd.notSynchronized
  have X0 : Stand p l e ({ frames := 0, cells := 0, slots := 0, locals := 0 } : Room) s m #[(.ref o0)] below meth c s₁ [] 0 0 := Stand.of_body Bd
  have e0 : s₁.heap = h0 := by rw [← hh, Bd.state]; rfl
  have N0 := Fr.nil n0
  have lt_F_ent : LT.lt (α := Nat) o0 h0.size := F_ent.lt
  show Go p e below s 0 0 (Q6N Z o0 h0 n0) (s₁.setTop (entryFrame m #[(.ref o0)] 1))
  rw [ef_6N m o0]
  refine Go.pre (st' := s₁.setTop (mkF m 1 #[sR o0] [(.ref o0)])) (fun target kt => ?_) ?_
  · show Steps p.tables e below (s₁.setTop (mkF m 0 #[sR o0] [])) _
    refine XS.aloadN X0.here hx rfl (hb hby d6_0) rfl rfl ?_
    exact kt
  obtain ⟨T1, X1, e1, st1⟩ := getF X0 hx hZ hown (host := "") (Or.inl (ow hw 22 rfl)) Via.refl e0 F_ent (g := (mkF m 1 #[sR o0] [(.ref o0)])) rfl rfl (hb hby d6_1)
  refine Go.pre st1 ?_
  show Go p e below s _ _ _ (T1.setTop (mkF m 4 #[sR o0] [.null]))
  exact Go.retV X1 hx hlk hrt rfl (Or.inr (Or.inr (Or.inr (Or.inr ⟨rfl, rfl, rfl⟩)))) (hb hby d6_4) (by decide) (by decide) (by rw [e1]; exact ⟨rfl, N0, rfl⟩)
/-! Objects.equals (12N) -/
theorem d12_0 : decode jdk_31_method_2_code 0 = .ok (.aload_n 0, 1) := by decide +kernel
theorem d12_1 : decode jdk_31_method_2_code 1 = .ok (.aload_n 1, 1) := by decide +kernel
theorem d12_2 : decode jdk_31_method_2_code 2 = .ok (.if_acmp .eq 15, 3) := by decide +kernel
theorem d12_17 : decode jdk_31_method_2_code 17 = .ok (.iconst 1, 1) := by decide +kernel
theorem d12_18 : decode jdk_31_method_2_code 18 = .ok (.goto 4, 3) := by decide +kernel
theorem d12_22 : decode jdk_31_method_2_code 22 = .ok (.ireturn, 1) := by decide +kernel
theorem pn_12 : plainName "java/util/Objects" = true := by first | (simp [plainName, overriddenIn]; done) | decide +kernel
theorem ef_12N (m : MethodId)  : entryFrame m #[.null, .null] 2 = (mkF m 0 #[.val .null, .val .null] []) := by first | (simp [entryFrame, mkF, argsToLocals, Value.category]; done) | rfl
def Q12N (Z : State)  (h0 : Heap) (n0 : Nat) (v : Option Value) (h : Heap) (L : List Loc) : Prop := v = some (.int (1 : Int32)) ∧ Fr n0 L ∧ h = h0
set_option maxRecDepth 65536 in
set_option maxHeartbeats 40000000 in
theorem rm12N (l : Launch) (Z : State) (a0 : Array Value) (hw : ∀ d ∈ tables_1, d.before a0 Z = true) (ws : List Jvm.Cond)  (h0 : Heap) (n0 : Nat) (Z0 : n0 ≤ h0.size) :
    MetFree l (⟨"java/util/Objects", "equals", "(Ljava/lang/Object;Ljava/lang/Object;)Z"⟩ : MethodName) (head1 (Jvm.Cond.code (⟨"java/util/Objects", "equals", "(Ljava/lang/Object;Ljava/lang/Object;)Z"⟩ : MethodName) jdk_31_method_2_code 2 (some .boolean) :: ws) ({ frames := 0, cells := 0, slots := 0, locals := 0 } : Room)) (fun a U => a = #[.null, .null] ∧ Z.Warmed39 U.vm ∧ U.heap = h0) (fun _ _ _ _ _ => True) (fun _ U o U' => ∃ v L, o = .returned v ∧ Q12N Z  h0 n0 v U'.heap L ∧ FrameEnd U o U' L ({ frames := 0, cells := 0, slots := 0, locals := 0 } : Room).cells ({ frames := 0, cells := 0, slots := 0, locals := 0 } : Room).slots) := by
  refine MetFree.of_bodySF (plainFor_of_name pn_12) hisR ?_
  intro p e s m args below meth c s₁ Bd hml0 hP hK
  obtain ⟨rfl, hZ, hh⟩ := hP
  have hx := Bd.exec
  have hby := Bd.bytes
  have hml : c.maxLocals = 2 := hml0
  have hown : s.vm.findClass "java/util/Objects" = some m.cls := findClass_of_methodNamed Bd.named
  have hnm := (name_of_methodNamed Bd.named Bd.method).1
  have hrt := Bd.returns
  have hlk := Bd.notSynchronized
  have X0 : Stand p l e ({ frames := 0, cells := 0, slots := 0, locals := 0 } : Room) s m #[.null, .null] below meth c s₁ [] 0 0 := Stand.of_body Bd
  have e0 : s₁.heap = h0 := by rw [← hh, Bd.state]; rfl
  have N0 := Fr.nil n0
  show Go p e below s 0 0 (Q12N Z  h0 n0) (s₁.setTop (entryFrame m #[.null, .null] 2))
  rw [ef_12N m ]
  refine Go.pre (st' := s₁.setTop (mkF m 22 #[sN, sN] [(.int (1 : Int32))])) (fun target kt => ?_) ?_
  · show Steps p.tables e below (s₁.setTop (mkF m 0 #[sN, sN] [])) _
    refine XS.aloadN X0.here hx rfl (hb hby d12_0) rfl rfl ?_
    refine XS.aloadN X0.here hx rfl (hb hby d12_1) rfl rfl ?_
    refine Jvm.RoadKit.acmp (g := (mkF m 2 #[sN, sN] [.null, .null])) X0 hx rfl rfl rfl (pc0 := 2) (pc' := 17) (same := true) rfl (hb hby d12_2) rfl (decide_eq_true rfl) (by decide) (by decide) ?_
    refine XS.iconst X0.here hx rfl (hb hby d12_17) ?_
    refine XS.goto X0.here hx rfl (pc0 := 18) (pc' := 22) rfl (hb hby d12_18) (by decide) (by decide) ?_
    exact kt
  exact Go.retN X0 hx hlk hrt (z' := (1 : Int32)) (by simp) (hb hby d12_22) rfl (by decide) (by decide) (by rw [e0]; exact ⟨rfl, N0, rfl⟩)
/-! Location.<init> (2R) -/
theorem ef_2R (m : MethodId) (o0 : Addr) (o1 : Addr) (q2 : Int64) (q3 : Int64) : entryFrame m #[(.ref o0), (.ref o1), (.long q2), (.long q3)] 6 = (mkF m 0 #[.val (.ref o0), .val (.ref o1), .val (.long q2), .second, .val (.long q3), .second] []) := by first | (simp [entryFrame, mkF, argsToLocals, Value.category]; done) | rfl
def Q2R (Z : State) (o0 : Addr) (o1 : Addr) (q2 : Int64) (q3 : Int64) (u2 : Value) (u5 : Value) (u10 : Value) (h0 : Heap) (n0 : Nat) (v : Option Value) (h : Heap) (L : List Loc) : Prop := v = none ∧ Fr n0 L ∧ Keep h0 h [o0] ∧ KF Z h0 h [(o0, Jvm.RoadKit.slotOf Z "com/example/satzung/satzung/diagnostics/Location" "entity" "Ljava/lang/String;"), (o0, Jvm.RoadKit.slotOf Z "com/example/satzung/satzung/diagnostics/Location" "line" "J"), (o0, Jvm.RoadKit.slotOf Z "com/example/satzung/satzung/diagnostics/Location" "column" "J")] ∧ Fld Z h o0 "com/example/satzung/satzung/diagnostics/Location" "entity" "Ljava/lang/String;" (.ref o1) ∧ Fld Z h o0 "com/example/satzung/satzung/diagnostics/Location" "line" "J" (.long q2) ∧ Fld Z h o0 "com/example/satzung/satzung/diagnostics/Location" "column" "J" (.long q3)
set_option maxRecDepth 65536 in
set_option maxHeartbeats 40000000 in
theorem rm2R (l : Launch) (Z : State) (a0 : Array Value) (hw : ∀ d ∈ tables_1, d.before a0 Z = true) (ws : List Jvm.Cond) (o0 : Addr) (o1 : Addr) (q2 : Int64) (q3 : Int64) (u2 : Value) (u5 : Value) (u10 : Value) (h0 : Heap) (n0 : Nat) (Z0 : n0 ≤ h0.size) (E_o0 : Exa Z h0 o0 "com/example/satzung/satzung/diagnostics/Location") (F_entity_o0 : Fld Z h0 o0 "com/example/satzung/satzung/diagnostics/Location" "entity" "Ljava/lang/String;" u2) (g_o0 : n0 ≤ o0) (F_line_o0 : Fld Z h0 o0 "com/example/satzung/satzung/diagnostics/Location" "line" "J" u5) (F_column_o0 : Fld Z h0 o0 "com/example/satzung/satzung/diagnostics/Location" "column" "J" u10) (hc7 : ¬ (q2 < (1 : Int64))) (hc14 : ¬ (q3 < (1 : Int64))) :
    MetFree l (⟨"com/example/satzung/satzung/diagnostics/Location", "<init>", "(Ljava/lang/String;JJ)V"⟩ : MethodName) (head1 (Jvm.Cond.code (⟨"com/example/satzung/satzung/diagnostics/Location", "<init>", "(Ljava/lang/String;JJ)V"⟩ : MethodName) prog_39_method_2_code 6 none :: ws) ({ frames := 1, cells := 0, slots := 0, locals := 12 } : Room)) (fun a U => a = #[(.ref o0), (.ref o1), (.long q2), (.long q3)] ∧ Z.Warmed39 U.vm ∧ U.heap = h0) (fun _ _ _ _ _ => True) (fun _ U o U' => ∃ v L, o = .returned v ∧ Q2R Z o0 o1 q2 q3 u2 u5 u10 h0 n0 v U'.heap L ∧ FrameEnd U o U' L ({ frames := 1, cells := 0, slots := 0, locals := 12 } : Room).cells ({ frames := 1, cells := 0, slots := 0, locals := 12 } : Room).slots) := by
  refine MetFree.of_bodySF (plainFor_of_name pn_2) hisR ?_
  intro p e s m args below meth c s₁ Bd hml0 hP hK
  obtain ⟨rfl, hZ, hh⟩ := hP
  have hx := Bd.exec
  have hby := Bd.bytes
  have hml : c.maxLocals = 6 := hml0
  have hown : s.vm.findClass "com/example/satzung/satzung/diagnostics/Location" = some m.cls := findClass_of_methodNamed Bd.named
  have hnm := (name_of_methodNamed Bd.named Bd.method).1
  have hrt := Bd.returns
  have hlk := Bd.notSynchronized
  have X0 : Stand p l e ({ frames := 1, cells := 0, slots := 0, locals := 12 } : Room) s m #[(.ref o0), (.ref o1), (.long q2), (.long q3)] below meth c s₁ [] 0 0 := Stand.of_body Bd
  have e0 : s₁.heap = h0 := by rw [← hh, Bd.state]; rfl
  have N0 := Fr.nil n0
  have lt_E_o0 : LT.lt (α := Nat) o0 h0.size := E_o0.lt
  have lt_F_entity_o0 : LT.lt (α := Nat) o0 h0.size := F_entity_o0.lt
  have lt_F_line_o0 : LT.lt (α := Nat) o0 h0.size := F_line_o0.lt
  have lt_F_column_o0 : LT.lt (α := Nat) o0 h0.size := F_column_o0.lt
  show Go p e below s 0 0 (Q2R Z o0 o1 q2 q3 u2 u5 u10 h0 n0) (s₁.setTop (entryFrame m #[(.ref o0), (.ref o1), (.long q2), (.long q3)] 6))
  rw [ef_2R m o0 o1 q2 q3]
  refine Go.pre (st' := s₁.setTop (mkF m 1 #[sR o0, sR o1, sL q2, sS, sL q3, sS] [(.ref o0)])) (fun target kt => ?_) ?_
  · show Steps p.tables e below (s₁.setTop (mkF m 0 #[sR o0, sR o1, sL q2, sS, sL q3, sS] [])) _
    refine XS.aloadN X0.here hx rfl (hb hby d2_0) rfl rfl ?_
    exact kt
  obtain ⟨T1, X1, e1, st1⟩ := initO X0 hx hZ hown (ow hw 19 rfl) (ow hw 20 rfl) (ow hw 21 rfl) e0 (g := (mkF m 1 #[sR o0, sR o1, sL q2, sS, sL q3, sS] [(.ref o0)])) rfl (by rw [hml]; rfl) rfl (hb hby d2_1) (by decide) (W := 0) (by show 2 * 0 + _ ≤ _; exact Nat.le_of_eq rfl) (by decide)
  refine Go.pre st1 ?_
  show Go p e below s _ _ _ (T1.setTop (mkF m 4 #[sR o0, sR o1, sL q2, sS, sL q3, sS] []))
  refine Go.pre (st' := T1.setTop (mkF m 35 #[sR o0, sR o1, sL q2, sS, sL q3, sS] [(.ref o1), (.ref o0)])) (fun target kt => ?_) ?_
  · show Steps p.tables e below (T1.setTop (mkF m 4 #[sR o0, sR o1, sL q2, sS, sL q3, sS] [])) _
    refine XS.lloadN X1.here hx rfl (hb hby d2_4) rfl ?_
    refine XS.lconst X1.here hx rfl (hb hby d2_5) ?_
    refine XS.lcmp X1.here hx rfl (hb hby d2_6) rfl ?_
    refine XS.ifNo X1.here hx rfl (hb hby d2_7) rfl ((if0 _ _).trans (flt (fun q => hc7 ((lw_lt _ _).mp q))).1) ?_
    refine XS.lload X1.here hx rfl (hb hby d2_10) rfl ?_
    refine XS.lconst X1.here hx rfl (hb hby d2_12) ?_
    refine XS.lcmp X1.here hx rfl (hb hby d2_13) rfl ?_
    refine XS.ifYes X1.here hx rfl (pc0 := 14) (pc' := 33) rfl (hb hby d2_14) rfl ((if0 _ _).trans (flt (fun q => hc14 ((lw_lt _ _).mp q))).2.1) (by decide) (by decide) ?_
    refine XS.aloadN X1.here hx rfl (hb hby d2_33) rfl rfl ?_
    refine XS.aloadN X1.here hx rfl (hb hby d2_34) rfl rfl ?_
    exact kt
  obtain ⟨T3, h3, X3, e3, W3, st3⟩ := putF X1 hx hZ hown (host := "") (Or.inl (ow hw 22 rfl)) Via.refl e1 F_entity_o0 E_o0 (Or.inr ⟨(ow hw 23 rfl), rfl, hnm⟩) (ow hw 14 rfl) (ty := (.object "java/lang/String")) (by decide) rfl rfl (g := (mkF m 35 #[sR o0, sR o1, sL q2, sS, sL q3, sS] [(.ref o1), (.ref o0)])) rfl rfl (hb hby d2_35)
  have sz3 : h0.size ≤ h3.size := (Keep.of_wr W3).1
  have Y4 : Fld Z h3 o0 "com/example/satzung/satzung/diagnostics/Location" "entity" "Ljava/lang/String;" (.ref o1) := F_entity_o0.same W3
  have N3 := Fr.snoc X3 N0 (by omega)
  refine Go.pre st3 ?_
  show Go p e below s _ _ _ (T3.setTop (mkF m 38 #[sR o0, sR o1, sL q2, sS, sL q3, sS] []))
  refine Go.pre (st' := T3.setTop (mkF m 40 #[sR o0, sR o1, sL q2, sS, sL q3, sS] [(.long q2), (.ref o0)])) (fun target kt => ?_) ?_
  · show Steps p.tables e below (T3.setTop (mkF m 38 #[sR o0, sR o1, sL q2, sS, sL q3, sS] [])) _
    refine XS.aloadN X3.here hx rfl (hb hby d2_38) rfl rfl ?_
    refine XS.lloadN X3.here hx rfl (hb hby d2_39) rfl ?_
    exact kt
  have Y6 : Fld Z h3 o0 "com/example/satzung/satzung/diagnostics/Location" "line" "J" u5 := (F_line_o0.other W3 (Or.inr (slot_ne (Or.inr (ow hw 25 rfl)) (Or.inr (ow hw 23 rfl)) (by decide) (t := .long) (t' := (.object "java/lang/String")) (by decide) (by decide))))
  have Y7 : Exa Z h3 o0 "com/example/satzung/satzung/diagnostics/Location" := (E_o0.wr W3)
  obtain ⟨T8, h8, X8, e8, W8, st8⟩ := putF X3 hx hZ hown (host := "") (Or.inl (ow hw 24 rfl)) Via.refl e3 Y6 Y7 (Or.inr ⟨(ow hw 25 rfl), rfl, hnm⟩) (ow hw 14 rfl) (ty := .long) (by decide) rfl rfl (g := (mkF m 40 #[sR o0, sR o1, sL q2, sS, sL q3, sS] [(.long q2), (.ref o0)])) rfl rfl (hb hby d2_40)
  have sz8 : h3.size ≤ h8.size := (Keep.of_wr W8).1
  have Y9 : Fld Z h8 o0 "com/example/satzung/satzung/diagnostics/Location" "line" "J" (.long q2) := Y6.same W8
  have N8 := Fr.snoc X8 N3 (by omega)
  refine Go.pre st8 ?_
  show Go p e below s _ _ _ (T8.setTop (mkF m 43 #[sR o0, sR o1, sL q2, sS, sL q3, sS] []))
  refine Go.pre (st' := T8.setTop (mkF m 46 #[sR o0, sR o1, sL q2, sS, sL q3, sS] [(.long q3), (.ref o0)])) (fun target kt => ?_) ?_
  · show Steps p.tables e below (T8.setTop (mkF m 43 #[sR o0, sR o1, sL q2, sS, sL q3, sS] [])) _
    refine XS.aloadN X8.here hx rfl (hb hby d2_43) rfl rfl ?_
    refine XS.lload X8.here hx rfl (hb hby d2_44) rfl ?_
    exact kt
  have Y11 : Fld Z h8 o0 "com/example/satzung/satzung/diagnostics/Location" "column" "J" u10 := ((F_column_o0.other W3 (Or.inr (slot_ne (Or.inr (ow hw 27 rfl)) (Or.inr (ow hw 23 rfl)) (by decide) (t := .long) (t' := (.object "java/lang/String")) (by decide) (by decide)))).other W8 (Or.inr (slot_ne (Or.inr (ow hw 27 rfl)) (Or.inr (ow hw 25 rfl)) (by decide) (t := .long) (t' := .long) (by decide) (by decide))))
  have Y12 : Exa Z h8 o0 "com/example/satzung/satzung/diagnostics/Location" := (Y7.wr W8)
  obtain ⟨T13, h13, X13, e13, W13, st13⟩ := putF X8 hx hZ hown (host := "") (Or.inl (ow hw 26 rfl)) Via.refl e8 Y11 Y12 (Or.inr ⟨(ow hw 27 rfl), rfl, hnm⟩) (ow hw 14 rfl) (ty := .long) (by decide) rfl rfl (g := (mkF m 46 #[sR o0, sR o1, sL q2, sS, sL q3, sS] [(.long q3), (.ref o0)])) rfl rfl (hb hby d2_46)
  have sz13 : h8.size ≤ h13.size := (Keep.of_wr W13).1
  have Y14 : Fld Z h13 o0 "com/example/satzung/satzung/diagnostics/Location" "column" "J" (.long q3) := Y11.same W13
  have N13 := Fr.snoc X13 N8 (by omega)
  refine Go.pre st13 ?_
  show Go p e below s _ _ _ (T13.setTop (mkF m 49 #[sR o0, sR o1, sL q2, sS, sL q3, sS] []))
  have Y15 : Fld Z h13 o0 "com/example/satzung/satzung/diagnostics/Location" "entity" "Ljava/lang/String;" (.ref o1) := ((Y4.other W8 (Or.inr (slot_ne (Or.inr (ow hw 23 rfl)) (Or.inr (ow hw 25 rfl)) (by decide) (t := (.object "java/lang/String")) (t' := .long) (by decide) (by decide)))).other W13 (Or.inr (slot_ne (Or.inr (ow hw 23 rfl)) (Or.inr (ow hw 27 rfl)) (by decide) (t := (.object "java/lang/String")) (t' := .long) (by decide) (by decide))))
  have Y16 : Fld Z h13 o0 "com/example/satzung/satzung/diagnostics/Location" "line" "J" (.long q2) := (Y9.other W13 (Or.inr (slot_ne (Or.inr (ow hw 25 rfl)) (Or.inr (ow hw 27 rfl)) (by decide) (t := .long) (t' := .long) (by decide) (by decide))))
  exact Go.ret0 X13 hx hlk hrt (hb hby d2_49) (by decide) (by decide) (by rw [e13]; exact ⟨rfl, N13, ((((Keep.refl h0 [o0]).wr W3 (Or.inl (List.mem_of_getElem? (i := 0) rfl))).wr W8 (Or.inl (List.mem_of_getElem? (i := 0) rfl))).wr W13 (Or.inl (List.mem_of_getElem? (i := 0) rfl))), ((((KF.refl Z h0 [(o0, Jvm.RoadKit.slotOf Z "com/example/satzung/satzung/diagnostics/Location" "entity" "Ljava/lang/String;"), (o0, Jvm.RoadKit.slotOf Z "com/example/satzung/satzung/diagnostics/Location" "line" "J"), (o0, Jvm.RoadKit.slotOf Z "com/example/satzung/satzung/diagnostics/Location" "column" "J")]).wr W3 (Or.inl (List.mem_of_getElem? (i := 0) rfl))).wr W8 (Or.inl (List.mem_of_getElem? (i := 1) rfl))).wr W13 (Or.inl (List.mem_of_getElem? (i := 2) rfl))), Y15, Y16, Y14⟩)
/-! Location.entity (6R) -/
theorem ef_6R (m : MethodId) (o0 : Addr) : entryFrame m #[(.ref o0)] 1 = (mkF m 0 #[.val (.ref o0)] []) := by first | (simp [entryFrame, mkF, argsToLocals, Value.category]; done) | rfl
def Q6R (Z : State) (o0 : Addr) (w1 : Addr) (h0 : Heap) (n0 : Nat) (v : Option Value) (h : Heap) (L : List Loc) : Prop := v = some (.ref w1) ∧ Fr n0 L ∧ h = h0
set_option maxRecDepth 65536 in
set_option maxHeartbeats 40000000 in
theorem rm6R (l : Launch) (Z : State) (a0 : Array Value) (hw : ∀ d ∈ tables_1, d.before a0 Z = true) (ws : List Jvm.Cond) (o0 : Addr) (w1 : Addr) (h0 : Heap) (n0 : Nat) (Z0 : n0 ≤ h0.size) (F_entity_o0 : Fld Z h0 o0 "com/example/satzung/satzung/diagnostics/Location" "entity" "Ljava/lang/String;" (.ref w1)) :
    MetFree l (⟨"com/example/satzung/satzung/diagnostics/Location", "entity", "()Ljava/lang/String;"⟩ : MethodName) (head1 (Jvm.Cond.code (⟨"com/example/satzung/satzung/diagnostics/Location", "entity", "()Ljava/lang/String;"⟩ : MethodName) prog_39_method_3_code 1 (some (.object "java/lang/String")) :: ws) ({ frames := 0, cells := 0, slots := 0, locals := 0 } : Room)) (fun a U => a = #[(.ref o0)] ∧ Z.Warmed39 U.vm ∧ U.heap = h0) (fun _ _ _ _ _ => True) (fun _ U o U' => ∃ v L, o = .returned v ∧ Q6R Z o0 w1 h0 n0 v U'.heap L ∧ FrameEnd U o U' L ({ frames := 0, cells := 0, slots := 0, locals := 0 } : Room).cells ({ frames := 0, cells := 0, slots := 0, locals := 0 } : Room).slots) := by
  refine MetFree.of_bodySF (plainFor_of_name pn_6) hisR ?_
  intro p e s m args below meth c s₁ Bd hml0 hP hK
  obtain ⟨rfl, hZ, hh⟩ := hP
  have hx := Bd.exec
  have hby := Bd.bytes
  have hml : c.maxLocals = 1 := hml0
  have hown : s.vm.findClass "com/example/satzung/satzung/diagnostics/Location" = some m.cls := findClass_of_methodNamed Bd.named
  have hnm := (name_of_methodNamed Bd.named Bd.method).1
  have hrt := Bd.returns
  have hlk := Bd.notSynchronized
  have X0 : Stand p l e ({ frames := 0, cells := 0, slots := 0, locals := 0 } : Room) s m #[(.ref o0)] below meth c s₁ [] 0 0 := Stand.of_body Bd
  have e0 : s₁.heap = h0 := by rw [← hh, Bd.state]; rfl
  have N0 := Fr.nil n0
  have lt_F_entity_o0 : LT.lt (α := Nat) o0 h0.size := F_entity_o0.lt
  show Go p e below s 0 0 (Q6R Z o0 w1 h0 n0) (s₁.setTop (entryFrame m #[(.ref o0)] 1))
  rw [ef_6R m o0]
  refine Go.pre (st' := s₁.setTop (mkF m 1 #[sR o0] [(.ref o0)])) (fun target kt => ?_) ?_
  · show Steps p.tables e below (s₁.setTop (mkF m 0 #[sR o0] [])) _
    refine XS.aloadN X0.here hx rfl (hb hby d6_0) rfl rfl ?_
    exact kt
  obtain ⟨T2, X2, e2, st2⟩ := getF X0 hx hZ hown (host := "") (Or.inl (ow hw 22 rfl)) Via.refl e0 F_entity_o0 (g := (mkF m 1 #[sR o0] [(.ref o0)])) rfl rfl (hb hby d6_1)
  refine Go.pre st2 ?_
  show Go p e below s _ _ _ (T2.setTop (mkF m 4 #[sR o0] [(.ref w1)]))
  exact Go.retV X2 hx hlk hrt rfl (Or.inr (Or.inr (Or.inr (Or.inr ⟨rfl, rfl, rfl⟩)))) (hb hby d6_4) (by decide) (by decide) (by rw [e2]; exact ⟨rfl, N0, rfl⟩)
/-! Objects.equals (12R) -/
theorem ef_12R (m : MethodId) (o0 : Addr) (o0 : Addr) : entryFrame m #[(.ref o0), (.ref o0)] 2 = (mkF m 0 #[.val (.ref o0), .val (.ref o0)] []) := by first | (simp [entryFrame, mkF, argsToLocals, Value.category]; done) | rfl
def Q12R (Z : State) (o0 : Addr) (h0 : Heap) (n0 : Nat) (v : Option Value) (h : Heap) (L : List Loc) : Prop := v = some (.int (1 : Int32)) ∧ Fr n0 L ∧ h = h0
set_option maxRecDepth 65536 in
set_option maxHeartbeats 40000000 in
theorem rm12R (l : Launch) (Z : State) (a0 : Array Value) (hw : ∀ d ∈ tables_1, d.before a0 Z = true) (ws : List Jvm.Cond) (o0 : Addr) (h0 : Heap) (n0 : Nat) (Z0 : n0 ≤ h0.size) :
    MetFree l (⟨"java/util/Objects", "equals", "(Ljava/lang/Object;Ljava/lang/Object;)Z"⟩ : MethodName) (head1 (Jvm.Cond.code (⟨"java/util/Objects", "equals", "(Ljava/lang/Object;Ljava/lang/Object;)Z"⟩ : MethodName) jdk_31_method_2_code 2 (some .boolean) :: ws) ({ frames := 0, cells := 0, slots := 0, locals := 0 } : Room)) (fun a U => a = #[(.ref o0), (.ref o0)] ∧ Z.Warmed39 U.vm ∧ U.heap = h0) (fun _ _ _ _ _ => True) (fun _ U o U' => ∃ v L, o = .returned v ∧ Q12R Z o0 h0 n0 v U'.heap L ∧ FrameEnd U o U' L ({ frames := 0, cells := 0, slots := 0, locals := 0 } : Room).cells ({ frames := 0, cells := 0, slots := 0, locals := 0 } : Room).slots) := by
  refine MetFree.of_bodySF (plainFor_of_name pn_12) hisR ?_
  intro p e s m args below meth c s₁ Bd hml0 hP hK
  obtain ⟨rfl, hZ, hh⟩ := hP
  have hx := Bd.exec
  have hby := Bd.bytes
  have hml : c.maxLocals = 2 := hml0
  have hown : s.vm.findClass "java/util/Objects" = some m.cls := findClass_of_methodNamed Bd.named
  have hnm := (name_of_methodNamed Bd.named Bd.method).1
  have hrt := Bd.returns
  have hlk := Bd.notSynchronized
  have X0 : Stand p l e ({ frames := 0, cells := 0, slots := 0, locals := 0 } : Room) s m #[(.ref o0), (.ref o0)] below meth c s₁ [] 0 0 := Stand.of_body Bd
  have e0 : s₁.heap = h0 := by rw [← hh, Bd.state]; rfl
  have N0 := Fr.nil n0
  show Go p e below s 0 0 (Q12R Z o0 h0 n0) (s₁.setTop (entryFrame m #[(.ref o0), (.ref o0)] 2))
  rw [ef_12R m o0 o0]
  refine Go.pre (st' := s₁.setTop (mkF m 22 #[sR o0, sR o0] [(.int (1 : Int32))])) (fun target kt => ?_) ?_
  · show Steps p.tables e below (s₁.setTop (mkF m 0 #[sR o0, sR o0] [])) _
    refine XS.aloadN X0.here hx rfl (hb hby d12_0) rfl rfl ?_
    refine XS.aloadN X0.here hx rfl (hb hby d12_1) rfl rfl ?_
    refine Jvm.RoadKit.acmp (g := (mkF m 2 #[sR o0, sR o0] [(.ref o0), (.ref o0)])) X0 hx rfl rfl rfl (pc0 := 2) (pc' := 17) (same := true) rfl (hb hby d12_2) rfl (decide_eq_true rfl) (by decide) (by decide) ?_
    refine XS.iconst X0.here hx rfl (hb hby d12_17) ?_
    refine XS.goto X0.here hx rfl (pc0 := 18) (pc' := 22) rfl (hb hby d12_18) (by decide) (by decide) ?_
    exact kt
  exact Go.retN X0 hx hlk hrt (z' := (1 : Int32)) (by simp) (hb hby d12_22) rfl (by decide) (by decide) (by rw [e0]; exact ⟨rfl, N0, rfl⟩)
/-! Location.line (7) -/
theorem d7_0 : decode prog_39_method_5_code 0 = .ok (.aload_n 0, 1) := by decide +kernel
theorem d7_1 : decode prog_39_method_5_code 1 = .ok (.getfield 25, 3) := by decide +kernel
theorem d7_4 : decode prog_39_method_5_code 4 = .ok (.lreturn, 1) := by decide +kernel
theorem pn_7 : plainName "com/example/satzung/satzung/diagnostics/Location" = true := by first | (simp [plainName, overriddenIn]; done) | decide +kernel
theorem ef_7 (m : MethodId) (o0 : Addr) : entryFrame m #[(.ref o0)] 1 = (mkF m 0 #[.val (.ref o0)] []) := by first | (simp [entryFrame, mkF, argsToLocals, Value.category]; done) | rfl
def Q7 (Z : State) (o0 : Addr) (w1 : Int64) (h0 : Heap) (n0 : Nat) (v : Option Value) (h : Heap) (L : List Loc) : Prop := v = some (.long w1) ∧ Fr n0 L ∧ h = h0
set_option maxRecDepth 65536 in
set_option maxHeartbeats 40000000 in
theorem rm7 (l : Launch) (Z : State) (a0 : Array Value) (hw : ∀ d ∈ tables_1, d.before a0 Z = true) (ws : List Jvm.Cond) (o0 : Addr) (w1 : Int64) (h0 : Heap) (n0 : Nat) (Z0 : n0 ≤ h0.size) (F_line_o0 : Fld Z h0 o0 "com/example/satzung/satzung/diagnostics/Location" "line" "J" (.long w1)) :
    MetFree l (⟨"com/example/satzung/satzung/diagnostics/Location", "line", "()J"⟩ : MethodName) (head1 (Jvm.Cond.code (⟨"com/example/satzung/satzung/diagnostics/Location", "line", "()J"⟩ : MethodName) prog_39_method_5_code 1 (some .long) :: ws) ({ frames := 0, cells := 0, slots := 0, locals := 0 } : Room)) (fun a U => a = #[(.ref o0)] ∧ Z.Warmed39 U.vm ∧ U.heap = h0) (fun _ _ _ _ _ => True) (fun _ U o U' => ∃ v L, o = .returned v ∧ Q7 Z o0 w1 h0 n0 v U'.heap L ∧ FrameEnd U o U' L ({ frames := 0, cells := 0, slots := 0, locals := 0 } : Room).cells ({ frames := 0, cells := 0, slots := 0, locals := 0 } : Room).slots) := by
  refine MetFree.of_bodySF (plainFor_of_name pn_7) hisR ?_
  intro p e s m args below meth c s₁ Bd hml0 hP hK
  obtain ⟨rfl, hZ, hh⟩ := hP
  have hx := Bd.exec
  have hby := Bd.bytes
  have hml : c.maxLocals = 1 := hml0
  have hown : s.vm.findClass "com/example/satzung/satzung/diagnostics/Location" = some m.cls := findClass_of_methodNamed Bd.named
  have hnm := (name_of_methodNamed Bd.named Bd.method).1
  have hrt := Bd.returns
  have hlk := Bd.notSynchronized
  have X0 : Stand p l e ({ frames := 0, cells := 0, slots := 0, locals := 0 } : Room) s m #[(.ref o0)] below meth c s₁ [] 0 0 := Stand.of_body Bd
  have e0 : s₁.heap = h0 := by rw [← hh, Bd.state]; rfl
  have N0 := Fr.nil n0
  have lt_F_line_o0 : LT.lt (α := Nat) o0 h0.size := F_line_o0.lt
  show Go p e below s 0 0 (Q7 Z o0 w1 h0 n0) (s₁.setTop (entryFrame m #[(.ref o0)] 1))
  rw [ef_7 m o0]
  refine Go.pre (st' := s₁.setTop (mkF m 1 #[sR o0] [(.ref o0)])) (fun target kt => ?_) ?_
  · show Steps p.tables e below (s₁.setTop (mkF m 0 #[sR o0] [])) _
    refine XS.aloadN X0.here hx rfl (hb hby d7_0) rfl rfl ?_
    exact kt
  obtain ⟨T2, X2, e2, st2⟩ := getF X0 hx hZ hown (host := "") (Or.inl (ow hw 24 rfl)) Via.refl e0 F_line_o0 (g := (mkF m 1 #[sR o0] [(.ref o0)])) rfl rfl (hb hby d7_1)
  refine Go.pre st2 ?_
  show Go p e below s _ _ _ (T2.setTop (mkF m 4 #[sR o0] [(.long w1)]))
  exact Go.retV X2 hx hlk hrt rfl (Or.inr (Or.inl ⟨rfl, rfl, _, rfl⟩)) (hb hby d7_4) (by decide) (by decide) (by rw [e2]; exact ⟨rfl, N0, rfl⟩)
/-! Location.column (8) -/
theorem d8_0 : decode prog_39_method_6_code 0 = .ok (.aload_n 0, 1) := by decide +kernel
theorem d8_1 : decode prog_39_method_6_code 1 = .ok (.getfield 29, 3) := by decide +kernel
theorem d8_4 : decode prog_39_method_6_code 4 = .ok (.lreturn, 1) := by decide +kernel
theorem pn_8 : plainName "com/example/satzung/satzung/diagnostics/Location" = true := by first | (simp [plainName, overriddenIn]; done) | decide +kernel
theorem ef_8 (m : MethodId) (o0 : Addr) : entryFrame m #[(.ref o0)] 1 = (mkF m 0 #[.val (.ref o0)] []) := by first | (simp [entryFrame, mkF, argsToLocals, Value.category]; done) | rfl
def Q8 (Z : State) (o0 : Addr) (w1 : Int64) (h0 : Heap) (n0 : Nat) (v : Option Value) (h : Heap) (L : List Loc) : Prop := v = some (.long w1) ∧ Fr n0 L ∧ h = h0
set_option maxRecDepth 65536 in
set_option maxHeartbeats 40000000 in
theorem rm8 (l : Launch) (Z : State) (a0 : Array Value) (hw : ∀ d ∈ tables_1, d.before a0 Z = true) (ws : List Jvm.Cond) (o0 : Addr) (w1 : Int64) (h0 : Heap) (n0 : Nat) (Z0 : n0 ≤ h0.size) (F_column_o0 : Fld Z h0 o0 "com/example/satzung/satzung/diagnostics/Location" "column" "J" (.long w1)) :
    MetFree l (⟨"com/example/satzung/satzung/diagnostics/Location", "column", "()J"⟩ : MethodName) (head1 (Jvm.Cond.code (⟨"com/example/satzung/satzung/diagnostics/Location", "column", "()J"⟩ : MethodName) prog_39_method_6_code 1 (some .long) :: ws) ({ frames := 0, cells := 0, slots := 0, locals := 0 } : Room)) (fun a U => a = #[(.ref o0)] ∧ Z.Warmed39 U.vm ∧ U.heap = h0) (fun _ _ _ _ _ => True) (fun _ U o U' => ∃ v L, o = .returned v ∧ Q8 Z o0 w1 h0 n0 v U'.heap L ∧ FrameEnd U o U' L ({ frames := 0, cells := 0, slots := 0, locals := 0 } : Room).cells ({ frames := 0, cells := 0, slots := 0, locals := 0 } : Room).slots) := by
  refine MetFree.of_bodySF (plainFor_of_name pn_8) hisR ?_
  intro p e s m args below meth c s₁ Bd hml0 hP hK
  obtain ⟨rfl, hZ, hh⟩ := hP
  have hx := Bd.exec
  have hby := Bd.bytes
  have hml : c.maxLocals = 1 := hml0
  have hown : s.vm.findClass "com/example/satzung/satzung/diagnostics/Location" = some m.cls := findClass_of_methodNamed Bd.named
  have hnm := (name_of_methodNamed Bd.named Bd.method).1
  have hrt := Bd.returns
  have hlk := Bd.notSynchronized
  have X0 : Stand p l e ({ frames := 0, cells := 0, slots := 0, locals := 0 } : Room) s m #[(.ref o0)] below meth c s₁ [] 0 0 := Stand.of_body Bd
  have e0 : s₁.heap = h0 := by rw [← hh, Bd.state]; rfl
  have N0 := Fr.nil n0
  have lt_F_column_o0 : LT.lt (α := Nat) o0 h0.size := F_column_o0.lt
  show Go p e below s 0 0 (Q8 Z o0 w1 h0 n0) (s₁.setTop (entryFrame m #[(.ref o0)] 1))
  rw [ef_8 m o0]
  refine Go.pre (st' := s₁.setTop (mkF m 1 #[sR o0] [(.ref o0)])) (fun target kt => ?_) ?_
  · show Steps p.tables e below (s₁.setTop (mkF m 0 #[sR o0] [])) _
    refine XS.aloadN X0.here hx rfl (hb hby d8_0) rfl rfl ?_
    exact kt
  obtain ⟨T2, X2, e2, st2⟩ := getF X0 hx hZ hown (host := "") (Or.inl (ow hw 26 rfl)) Via.refl e0 F_column_o0 (g := (mkF m 1 #[sR o0] [(.ref o0)])) rfl rfl (hb hby d8_1)
  refine Go.pre st2 ?_
  show Go p e below s _ _ _ (T2.setTop (mkF m 4 #[sR o0] [(.long w1)]))
  exact Go.retV X2 hx hlk hrt rfl (Or.inr (Or.inl ⟨rfl, rfl, _, rfl⟩)) (hb hby d8_4) (by decide) (by decide) (by rw [e2]; exact ⟨rfl, N0, rfl⟩)
/-! PlacePage.<init> (4) -/
theorem d4_0 : decode prog_117_method_1_code 0 = .ok (.aload_n 0, 1) := by decide +kernel
theorem d4_1 : decode prog_117_method_1_code 1 = .ok (.invokespecial 3, 3) := by decide +kernel
theorem d4_4 : decode prog_117_method_1_code 4 = .ok (.aload_n 0, 1) := by decide +kernel
theorem d4_5 : decode prog_117_method_1_code 5 = .ok (.sipush 1024, 3) := by decide +kernel
theorem d4_8 : decode prog_117_method_1_code 8 = .ok (.anewarray 9, 3) := by decide +kernel
theorem d4_11 : decode prog_117_method_1_code 11 = .ok (.putfield 11, 3) := by decide +kernel
theorem d4_14 : decode prog_117_method_1_code 14 = .ok (.aload_n 0, 1) := by decide +kernel
theorem d4_15 : decode prog_117_method_1_code 15 = .ok (.sipush 1024, 3) := by decide +kernel
theorem d4_18 : decode prog_117_method_1_code 18 = .ok (.newarray .long, 2) := by decide +kernel
theorem d4_20 : decode prog_117_method_1_code 20 = .ok (.putfield 15, 3) := by decide +kernel
theorem d4_23 : decode prog_117_method_1_code 23 = .ok (.aload_n 0, 1) := by decide +kernel
theorem d4_24 : decode prog_117_method_1_code 24 = .ok (.sipush 1024, 3) := by decide +kernel
theorem d4_27 : decode prog_117_method_1_code 27 = .ok (.newarray .long, 2) := by decide +kernel
theorem d4_29 : decode prog_117_method_1_code 29 = .ok (.putfield 19, 3) := by decide +kernel
theorem d4_32 : decode prog_117_method_1_code 32 = .ok (.return_, 1) := by decide +kernel
theorem pn_4 : plainName "com/example/satzung/satzung/validate/PlacePage" = true := by first | (simp [plainName, overriddenIn]; done) | decide +kernel
theorem ef_4 (m : MethodId) (o0 : Addr) : entryFrame m #[(.ref o0)] 1 = (mkF m 0 #[.val (.ref o0)] []) := by first | (simp [entryFrame, mkF, argsToLocals, Value.category]; done) | rfl
def Q4 (Z : State) (o0 : Addr) (u3 : Value) (u9 : Value) (u15 : Value) (h0 : Heap) (n0 : Nat) (v : Option Value) (h : Heap) (L : List Loc) : Prop := ∃ b2 : Addr, ∃ b8 : Addr, ∃ b14 : Addr, ∃ k2 : ClassId, ∃ k8 : ClassId, ∃ k14 : ClassId, v = none ∧ Fr n0 L ∧ Keep h0 h [o0] ∧ KF Z h0 h [(o0, Jvm.RoadKit.slotOf Z "com/example/satzung/satzung/validate/PlacePage" "entities" "[Ljava/lang/String;"), (o0, Jvm.RoadKit.slotOf Z "com/example/satzung/satzung/validate/PlacePage" "lines" "[J"), (o0, Jvm.RoadKit.slotOf Z "com/example/satzung/satzung/validate/PlacePage" "columns" "[J")] ∧ LE.le (α := Nat) h0.size b2 ∧ LT.lt (α := Nat) b2 h.size ∧ LE.le (α := Nat) h0.size b8 ∧ LT.lt (α := Nat) b8 h.size ∧ LT.lt (α := Nat) b2 b8 ∧ LE.le (α := Nat) h0.size b14 ∧ LT.lt (α := Nat) b14 h.size ∧ LT.lt (α := Nat) b8 b14 ∧ Fld Z h o0 "com/example/satzung/satzung/validate/PlacePage" "entities" "[Ljava/lang/String;" (.ref b2) ∧ Fld Z h o0 "com/example/satzung/satzung/validate/PlacePage" "lines" "[J" (.ref b8) ∧ Fld Z h o0 "com/example/satzung/satzung/validate/PlacePage" "columns" "[J" (.ref b14) ∧ Arf Z h b2 k2 (.object "java/lang/String") (1024 : Int32) (fun _ => .null) ∧ Ovr Z k2 "java/lang/String" ∧ Arf Z h b8 k8 .long (1024 : Int32) (fun _ => (.long (0 : Int64))) ∧ Arf Z h b14 k14 .long (1024 : Int32) (fun _ => (.long (0 : Int64)))
set_option maxRecDepth 65536 in
set_option maxHeartbeats 40000000 in
theorem rm4 (l : Launch) (Z : State) (a0 : Array Value) (hw : ∀ d ∈ tables_1, d.before a0 Z = true) (ws : List Jvm.Cond) (o0 : Addr) (u3 : Value) (u9 : Value) (u15 : Value) (h0 : Heap) (n0 : Nat) (Z0 : n0 ≤ h0.size) (E_o0 : Exa Z h0 o0 "com/example/satzung/satzung/validate/PlacePage") (F_entities_o0 : Fld Z h0 o0 "com/example/satzung/satzung/validate/PlacePage" "entities" "[Ljava/lang/String;" u3) (g_o0 : n0 ≤ o0) (F_lines_o0 : Fld Z h0 o0 "com/example/satzung/satzung/validate/PlacePage" "lines" "[J" u9) (F_columns_o0 : Fld Z h0 o0 "com/example/satzung/satzung/validate/PlacePage" "columns" "[J" u15) :
    MetFree l (⟨"com/example/satzung/satzung/validate/PlacePage", "<init>", "()V"⟩ : MethodName) (head1 (Jvm.Cond.code (⟨"com/example/satzung/satzung/validate/PlacePage", "<init>", "()V"⟩ : MethodName) prog_117_method_1_code 1 none :: ws) ({ frames := 1, cells := 3, slots := 3072, locals := 12 } : Room)) (fun a U => a = #[(.ref o0)] ∧ Z.Warmed39 U.vm ∧ U.heap = h0) (fun _ _ _ _ _ => True) (fun _ U o U' => ∃ v L, o = .returned v ∧ Q4 Z o0 u3 u9 u15 h0 n0 v U'.heap L ∧ FrameEnd U o U' L ({ frames := 1, cells := 3, slots := 3072, locals := 12 } : Room).cells ({ frames := 1, cells := 3, slots := 3072, locals := 12 } : Room).slots) := by
  refine MetFree.of_bodySF (plainFor_of_name pn_4) hisR ?_
  intro p e s m args below meth c s₁ Bd hml0 hP hK
  obtain ⟨rfl, hZ, hh⟩ := hP
  have hx := Bd.exec
  have hby := Bd.bytes
  have hml : c.maxLocals = 1 := hml0
  have hown : s.vm.findClass "com/example/satzung/satzung/validate/PlacePage" = some m.cls := findClass_of_methodNamed Bd.named
  have hnm := (name_of_methodNamed Bd.named Bd.method).1
  have hrt := Bd.returns
  have hlk := Bd.notSynchronized
  have X0 : Stand p l e ({ frames := 1, cells := 3, slots := 3072, locals := 12 } : Room) s m #[(.ref o0)] below meth c s₁ [] 0 0 := Stand.of_body Bd
  have e0 : s₁.heap = h0 := by rw [← hh, Bd.state]; rfl
  have N0 := Fr.nil n0
  have lt_E_o0 : LT.lt (α := Nat) o0 h0.size := E_o0.lt
  have lt_F_entities_o0 : LT.lt (α := Nat) o0 h0.size := F_entities_o0.lt
  have lt_F_lines_o0 : LT.lt (α := Nat) o0 h0.size := F_lines_o0.lt
  have lt_F_columns_o0 : LT.lt (α := Nat) o0 h0.size := F_columns_o0.lt
  show Go p e below s 3 3072 (Q4 Z o0 u3 u9 u15 h0 n0) (s₁.setTop (entryFrame m #[(.ref o0)] 1))
  rw [ef_4 m o0]
  refine Go.pre (st' := s₁.setTop (mkF m 1 #[sR o0] [(.ref o0)])) (fun target kt => ?_) ?_
  · show Steps p.tables e below (s₁.setTop (mkF m 0 #[sR o0] [])) _
    refine XS.aloadN X0.here hx rfl (hb hby d4_0) rfl rfl ?_
    exact kt
  obtain ⟨T1, X1, e1, st1⟩ := initO X0 hx hZ hown (ow hw 34 rfl) (ow hw 20 rfl) (ow hw 21 rfl) e0 (g := (mkF m 1 #[sR o0] [(.ref o0)])) rfl (by rw [hml]; rfl) rfl (hb hby d4_1) (by decide) (W := 0) (by show 2 * 0 + _ ≤ _; exact Nat.le_of_eq rfl) (by decide)
  refine Go.pre st1 ?_
  show Go p e below s _ _ _ (T1.setTop (mkF m 4 #[sR o0] []))
  refine Go.pre (st' := T1.setTop (mkF m 8 #[sR o0] [(.int (1024 : Int32)), (.ref o0)])) (fun target kt => ?_) ?_
  · show Steps p.tables e below (T1.setTop (mkF m 4 #[sR o0] [])) _
    refine XS.aloadN X1.here hx rfl (hb hby d4_4) rfl rfl ?_
    refine XS.sipush X1.here hx rfl (hb hby d4_5) ?_
    exact kt
  obtain ⟨T2, h2, k2, X2, e2, E2, A2, O2, st2⟩ := newR X1 hx hZ hown (ow hw 35 rfl) (ow hw 36 rfl) e1 (g := (mkF m 8 #[sR o0] [(.int (1024 : Int32)), (.ref o0)])) rfl (hb hby d4_8) rfl (by decide) (cap := 1024) (by decide) (by decide) (by decide) (by decide)
  obtain ⟨b2, g2⟩ : ∃ z, z = h0.size := ⟨_, rfl⟩
  rw [← g2] at A2 st2
  have sz2 : h0.size ≤ h2.size := E2.1
  have V2 : Arv Z h2 b2 k2 (.object "java/lang/String") (1024 : Int32) [] .null := Arv.new A2 (by decide)
  have lt2 : b2 < h2.size := V2.lt
  have V2f : Arf Z h2 b2 k2 (.object "java/lang/String") (1024 : Int32) (fun _ => .null) := Arf.of_arv V2
  refine Go.pre st2 ?_
  show Go p e below s _ _ _ (T2.setTop (mkF m 11 #[sR o0] [(.ref b2), (.ref o0)]))
  have Y4 : Fld Z h2 o0 "com/example/satzung/satzung/validate/PlacePage" "entities" "[Ljava/lang/String;" u3 := (F_entities_o0.ext E2)
  have Y5 : Exa Z h2 o0 "com/example/satzung/satzung/validate/PlacePage" := (E_o0.ext E2)
  obtain ⟨T6, h6, X6, e6, W6, st6⟩ := putF X2 hx hZ hown (host := "") (Or.inl (ow hw 37 rfl)) Via.refl e2 Y4 Y5 (Or.inr ⟨(ow hw 38 rfl), rfl, hnm⟩) (ow hw 29 rfl) (ty := (.array (.object "java/lang/String"))) (by decide) rfl rfl (g := (mkF m 11 #[sR o0] [(.ref b2), (.ref o0)])) rfl rfl (hb hby d4_11)
  have sz6 : h2.size ≤ h6.size := (Keep.of_wr W6).1
  have Y7 : Fld Z h6 o0 "com/example/satzung/satzung/validate/PlacePage" "entities" "[Ljava/lang/String;" (.ref b2) := Y4.same W6
  have N6 := Fr.snoc X6 N0 (by omega)
  refine Go.pre st6 ?_
  show Go p e below s _ _ _ (T6.setTop (mkF m 14 #[sR o0] []))
  refine Go.pre (st' := T6.setTop (mkF m 18 #[sR o0] [(.int (1024 : Int32)), (.ref o0)])) (fun target kt => ?_) ?_
  · show Steps p.tables e below (T6.setTop (mkF m 14 #[sR o0] [])) _
    refine XS.aloadN X6.here hx rfl (hb hby d4_14) rfl rfl ?_
    refine XS.sipush X6.here hx rfl (hb hby d4_15) ?_
    exact kt
  obtain ⟨T8, h8, k8, X8, e8, E8, A8, st8⟩ := newP X6 hx hZ (ow hw 39 rfl) e6 (g := (mkF m 18 #[sR o0] [(.int (1024 : Int32)), (.ref o0)])) rfl (hb hby d4_18) rfl (by decide) (cap := 1024) (by decide) (by decide) (by decide) (by decide)
  obtain ⟨b8, g8⟩ : ∃ z, z = h6.size := ⟨_, rfl⟩
  rw [← g8] at A8 st8
  have sz8 : h6.size ≤ h8.size := E8.1
  have V8 : Arv Z h8 b8 k8 .long (1024 : Int32) [] (.long (0 : Int64)) := Arv.new A8 (by decide)
  have lt8 : b8 < h8.size := V8.lt
  have V8f : Arf Z h8 b8 k8 .long (1024 : Int32) (fun _ => (.long (0 : Int64))) := Arf.of_arv V8
  refine Go.pre st8 ?_
  show Go p e below s _ _ _ (T8.setTop (mkF m 20 #[sR o0] [(.ref b8), (.ref o0)]))
  have Y10 : Fld Z h8 o0 "com/example/satzung/satzung/validate/PlacePage" "lines" "[J" u9 := (((F_lines_o0.ext E2).other W6 (Or.inr (slot_ne (Or.inr (ow hw 41 rfl)) (Or.inr (ow hw 38 rfl)) (by decide) (t := (.array .long)) (t' := (.array (.object "java/lang/String"))) (by decide) (by decide)))).ext E8)
  have Y11 : Exa Z h8 o0 "com/example/satzung/satzung/validate/PlacePage" := ((Y5.wr W6).ext E8)
  obtain ⟨T12, h12, X12, e12, W12, st12⟩ := putF X8 hx hZ hown (host := "") (Or.inl (ow hw 40 rfl)) Via.refl e8 Y10 Y11 (Or.inr ⟨(ow hw 41 rfl), rfl, hnm⟩) (ow hw 29 rfl) (ty := (.array .long)) (by decide) rfl rfl (g := (mkF m 20 #[sR o0] [(.ref b8), (.ref o0)])) rfl rfl (hb hby d4_20)
  have sz12 : h8.size ≤ h12.size := (Keep.of_wr W12).1
  have Y13 : Fld Z h12 o0 "com/example/satzung/satzung/validate/PlacePage" "lines" "[J" (.ref b8) := Y10.same W12
  have N12 := Fr.snoc X12 N6 (by omega)
  refine Go.pre st12 ?_
  show Go p e below s _ _ _ (T12.setTop (mkF m 23 #[sR o0] []))
  refine Go.pre (st' := T12.setTop (mkF m 27 #[sR o0] [(.int (1024 : Int32)), (.ref o0)])) (fun target kt => ?_) ?_
  · show Steps p.tables e below (T12.setTop (mkF m 23 #[sR o0] [])) _
    refine XS.aloadN X12.here hx rfl (hb hby d4_23) rfl rfl ?_
    refine XS.sipush X12.here hx rfl (hb hby d4_24) ?_
    exact kt
  obtain ⟨T14, h14, k14, X14, e14, E14, A14, st14⟩ := newP X12 hx hZ (ow hw 39 rfl) e12 (g := (mkF m 27 #[sR o0] [(.int (1024 : Int32)), (.ref o0)])) rfl (hb hby d4_27) rfl (by decide) (cap := 1024) (by decide) (by decide) (by decide) (by decide)
  obtain ⟨b14, g14⟩ : ∃ z, z = h12.size := ⟨_, rfl⟩
  rw [← g14] at A14 st14
  have sz14 : h12.size ≤ h14.size := E14.1
  have V14 : Arv Z h14 b14 k14 .long (1024 : Int32) [] (.long (0 : Int64)) := Arv.new A14 (by decide)
  have lt14 : b14 < h14.size := V14.lt
  have V14f : Arf Z h14 b14 k14 .long (1024 : Int32) (fun _ => (.long (0 : Int64))) := Arf.of_arv V14
  refine Go.pre st14 ?_
  show Go p e below s _ _ _ (T14.setTop (mkF m 29 #[sR o0] [(.ref b14), (.ref o0)]))
  have Y16 : Fld Z h14 o0 "com/example/satzung/satzung/validate/PlacePage" "columns" "[J" u15 := (((((F_columns_o0.ext E2).other W6 (Or.inr (slot_ne (Or.inr (ow hw 43 rfl)) (Or.inr (ow hw 38 rfl)) (by decide) (t := (.array .long)) (t' := (.array (.object "java/lang/String"))) (by decide) (by decide)))).ext E8).other W12 (Or.inr (slot_ne (Or.inr (ow hw 43 rfl)) (Or.inr (ow hw 41 rfl)) (by decide) (t := (.array .long)) (t' := (.array .long)) (by decide) (by decide)))).ext E14)
  have Y17 : Exa Z h14 o0 "com/example/satzung/satzung/validate/PlacePage" := ((Y11.wr W12).ext E14)
  obtain ⟨T18, h18, X18, e18, W18, st18⟩ := putF X14 hx hZ hown (host := "") (Or.inl (ow hw 42 rfl)) Via.refl e14 Y16 Y17 (Or.inr ⟨(ow hw 43 rfl), rfl, hnm⟩) (ow hw 29 rfl) (ty := (.array .long)) (by decide) rfl rfl (g := (mkF m 29 #[sR o0] [(.ref b14), (.ref o0)])) rfl rfl (hb hby d4_29)
  have sz18 : h14.size ≤ h18.size := (Keep.of_wr W18).1
  have Y19 : Fld Z h18 o0 "com/example/satzung/satzung/validate/PlacePage" "columns" "[J" (.ref b14) := Y16.same W18
  have N18 := Fr.snoc X18 N12 (by omega)
  refine Go.pre st18 ?_
  show Go p e below s _ _ _ (T18.setTop (mkF m 32 #[sR o0] []))
  have Y20 : Fld Z h18 o0 "com/example/satzung/satzung/validate/PlacePage" "entities" "[Ljava/lang/String;" (.ref b2) := ((((Y7.ext E8).other W12 (Or.inr (slot_ne (Or.inr (ow hw 38 rfl)) (Or.inr (ow hw 41 rfl)) (by decide) (t := (.array (.object "java/lang/String"))) (t' := (.array .long)) (by decide) (by decide)))).ext E14).other W18 (Or.inr (slot_ne (Or.inr (ow hw 38 rfl)) (Or.inr (ow hw 43 rfl)) (by decide) (t := (.array (.object "java/lang/String"))) (t' := (.array .long)) (by decide) (by decide))))
  have Y21 : Fld Z h18 o0 "com/example/satzung/satzung/validate/PlacePage" "lines" "[J" (.ref b8) := ((Y13.ext E14).other W18 (Or.inr (slot_ne (Or.inr (ow hw 41 rfl)) (Or.inr (ow hw 43 rfl)) (by decide) (t := (.array .long)) (t' := (.array .long)) (by decide) (by decide))))
  have Y22 : Arf Z h18 b2 k2 (.object "java/lang/String") (1024 : Int32) (fun _ => .null) := (((((V2f.other W6 (neN (by omega))).ext E8).other W12 (neN (by omega))).ext E14).other W18 (neN (by omega)))
  have Y23 : Arf Z h18 b8 k8 .long (1024 : Int32) (fun _ => (.long (0 : Int64))) := (((V8f.other W12 (neN (by omega))).ext E14).other W18 (neN (by omega)))
  have Y24 : Arf Z h18 b14 k14 .long (1024 : Int32) (fun _ => (.long (0 : Int64))) := (V14f.other W18 (neN (by omega)))
  exact Go.ret0 X18 hx hlk hrt (hb hby d4_32) (by decide) (by decide) (by rw [e18]; exact ⟨b2, b8, b14, k2, k8, k14, rfl, N18, (((((((Keep.refl h0 [o0]).ext E2).wr W6 (Or.inl (List.mem_of_getElem? (i := 0) rfl))).ext E8).wr W12 (Or.inl (List.mem_of_getElem? (i := 0) rfl))).ext E14).wr W18 (Or.inl (List.mem_of_getElem? (i := 0) rfl))), (((((((KF.refl Z h0 [(o0, Jvm.RoadKit.slotOf Z "com/example/satzung/satzung/validate/PlacePage" "entities" "[Ljava/lang/String;"), (o0, Jvm.RoadKit.slotOf Z "com/example/satzung/satzung/validate/PlacePage" "lines" "[J"), (o0, Jvm.RoadKit.slotOf Z "com/example/satzung/satzung/validate/PlacePage" "columns" "[J")]).ext E2).wr W6 (Or.inl (List.mem_of_getElem? (i := 0) rfl))).ext E8).wr W12 (Or.inl (List.mem_of_getElem? (i := 1) rfl))).ext E14).wr W18 (Or.inl (List.mem_of_getElem? (i := 2) rfl))), by omega, by omega, by omega, by omega, by omega, by omega, by omega, by omega, Y20, Y21, Y19, Y22, O2, Y23, Y24⟩)
/-! PlacePage.set (5N) -/
theorem d5_0 : decode prog_117_method_2_code 0 = .ok (.aload_n 0, 1) := by decide +kernel
theorem d5_1 : decode prog_117_method_2_code 1 = .ok (.getfield 11, 3) := by decide +kernel
theorem d5_4 : decode prog_117_method_2_code 4 = .ok (.iload_n 1, 1) := by decide +kernel
theorem d5_5 : decode prog_117_method_2_code 5 = .ok (.aload_n 2, 1) := by decide +kernel
theorem d5_6 : decode prog_117_method_2_code 6 = .ok (.invokevirtual 22, 3) := by decide +kernel
theorem d5_9 : decode prog_117_method_2_code 9 = .ok (.aastore, 1) := by decide +kernel
theorem d5_10 : decode prog_117_method_2_code 10 = .ok (.aload_n 0, 1) := by decide +kernel
theorem d5_11 : decode prog_117_method_2_code 11 = .ok (.getfield 15, 3) := by decide +kernel
theorem d5_14 : decode prog_117_method_2_code 14 = .ok (.iload_n 1, 1) := by decide +kernel
theorem d5_15 : decode prog_117_method_2_code 15 = .ok (.aload_n 2, 1) := by decide +kernel
theorem d5_16 : decode prog_117_method_2_code 16 = .ok (.invokevirtual 28, 3) := by decide +kernel
theorem d5_19 : decode prog_117_method_2_code 19 = .ok (.lastore, 1) := by decide +kernel
theorem d5_20 : decode prog_117_method_2_code 20 = .ok (.aload_n 0, 1) := by decide +kernel
theorem d5_21 : decode prog_117_method_2_code 21 = .ok (.getfield 19, 3) := by decide +kernel
theorem d5_24 : decode prog_117_method_2_code 24 = .ok (.iload_n 1, 1) := by decide +kernel
theorem d5_25 : decode prog_117_method_2_code 25 = .ok (.aload_n 2, 1) := by decide +kernel
theorem d5_26 : decode prog_117_method_2_code 26 = .ok (.invokevirtual 32, 3) := by decide +kernel
theorem d5_29 : decode prog_117_method_2_code 29 = .ok (.lastore, 1) := by decide +kernel
theorem d5_30 : decode prog_117_method_2_code 30 = .ok (.return_, 1) := by decide +kernel
theorem pn_5 : plainName "com/example/satzung/satzung/validate/PlacePage" = true := by first | (simp [plainName, overriddenIn]; done) | decide +kernel
theorem pd5N_0 : parseMethodDescriptor "()Ljava/lang/String;" = some ⟨[], some (.object "java/lang/String")⟩ := by decide +kernel
theorem pd5N_1 : parseMethodDescriptor "()J" = some ⟨[], some .long⟩ := by decide +kernel
theorem ef_5N (m : MethodId) (o0 : Addr) (p1 : Int32) (o2 : Addr) : entryFrame m #[(.ref o0), (.int p1), (.ref o2)] 3 = (mkF m 0 #[.val (.ref o0), .val (.int p1), .val (.ref o2)] []) := by first | (simp [entryFrame, mkF, argsToLocals, Value.category]; done) | rfl
def Q5N (Z : State) (o0 : Addr) (p1 : Int32) (o2 : Addr) (x1 : Int64) (x2 : Int64) (a1 : Addr) (a2 : Addr) (a3 : Addr) (ka1 : ClassId) (ka2 : ClassId) (ka3 : ClassId) (fa1 : Int32 → Value) (fa2 : Int32 → Value) (fa3 : Int32 → Value) (h0 : Heap) (n0 : Nat) (v : Option Value) (h : Heap) (L : List Loc) : Prop := v = none ∧ Fr n0 L ∧ Keep h0 h [a1, a2, a3] ∧ KF Z h0 h [(a1, (p1).toNatClampNeg), (a2, (p1).toNatClampNeg), (a3, (p1).toNatClampNeg)] ∧ Arf Z h a1 ka1 (.object "java/lang/String") (1024 : Int32) (own_upd fa1 p1 .null) ∧ Arf Z h a2 ka2 .long (1024 : Int32) (own_upd fa2 p1 (.long x1)) ∧ Arf Z h a3 ka3 .long (1024 : Int32) (own_upd fa3 p1 (.long x2))
set_option maxRecDepth 65536 in
set_option maxHeartbeats 40000000 in
theorem rm5N (l : Launch) (Z : State) (a0 : Array Value) (hw : ∀ d ∈ tables_1, d.before a0 Z = true) (ws : List Jvm.Cond) (o0 : Addr) (p1 : Int32) (o2 : Addr) (x1 : Int64) (x2 : Int64) (a1 : Addr) (a2 : Addr) (a3 : Addr) (ka1 : ClassId) (ka2 : ClassId) (ka3 : ClassId) (fa1 : Int32 → Value) (fa2 : Int32 → Value) (fa3 : Int32 → Value) (h0 : Heap) (n0 : Nat) (Z0 : n0 ≤ h0.size) (E_o0 : Exa Z h0 o0 "com/example/satzung/satzung/validate/PlacePage") (F_entities_o0 : Fld Z h0 o0 "com/example/satzung/satzung/validate/PlacePage" "entities" "[Ljava/lang/String;" (.ref a1)) (B_a1 : Arf Z h0 a1 ka1 (.object "java/lang/String") (1024 : Int32) fa1) (F_lines_o0 : Fld Z h0 o0 "com/example/satzung/satzung/validate/PlacePage" "lines" "[J" (.ref a2)) (B_a2 : Arf Z h0 a2 ka2 .long (1024 : Int32) fa2) (F_columns_o0 : Fld Z h0 o0 "com/example/satzung/satzung/validate/PlacePage" "columns" "[J" (.ref a3)) (B_a3 : Arf Z h0 a3 ka3 .long (1024 : Int32) fa3) (O_a : Ovr Z ka1 "java/lang/String") (E_o2 : Exa Z h0 o2 "com/example/satzung/satzung/diagnostics/Location") (F_ent_o2 : Fld Z h0 o2 "com/example/satzung/satzung/diagnostics/Location" "entity" "Ljava/lang/String;" .null) (F_line_o2 : Fld Z h0 o2 "com/example/satzung/satzung/diagnostics/Location" "line" "J" (.long x1)) (F_col_o2 : Fld Z h0 o2 "com/example/satzung/satzung/diagnostics/Location" "column" "J" (.long x2)) (n_a1_a2 : a1 ≠ a2) (n_a1_a3 : a1 ≠ a3) (n_a2_a3 : a2 ≠ a3) (n_o0_a1 : o0 ≠ a1) (n_o0_a2 : o0 ≠ a2) (n_o0_a3 : o0 ≠ a3) (n_o2_a1 : o2 ≠ a1) (n_o2_a2 : o2 ≠ a2) (n_o2_a3 : o2 ≠ a3) (g_a1 : n0 ≤ a1) (g_a2 : n0 ≤ a2) (g_a3 : n0 ≤ a3) (hin_p1 : ¬ (p1 < 0 ∨ (1024 : Int32).toNatClampNeg ≤ p1.toNatClampNeg)) :
    MetFree l (⟨"com/example/satzung/satzung/validate/PlacePage", "set", "(ILcom/example/satzung/satzung/diagnostics/Location;)V"⟩ : MethodName) (head1 (Jvm.Cond.code (⟨"com/example/satzung/satzung/validate/PlacePage", "set", "(ILcom/example/satzung/satzung/diagnostics/Location;)V"⟩ : MethodName) prog_117_method_2_code 3 none :: ws) ({ frames := 1, cells := 0, slots := 0, locals := 14 } : Room)) (fun a U => a = #[(.ref o0), (.int p1), (.ref o2)] ∧ Z.Warmed39 U.vm ∧ U.heap = h0) (fun _ _ _ _ _ => True) (fun _ U o U' => ∃ v L, o = .returned v ∧ Q5N Z o0 p1 o2 x1 x2 a1 a2 a3 ka1 ka2 ka3 fa1 fa2 fa3 h0 n0 v U'.heap L ∧ FrameEnd U o U' L ({ frames := 1, cells := 0, slots := 0, locals := 14 } : Room).cells ({ frames := 1, cells := 0, slots := 0, locals := 14 } : Room).slots) := by
  refine MetFree.of_bodySF (plainFor_of_name pn_5) hisR ?_
  intro p e s m args below meth c s₁ Bd hml0 hP hK
  obtain ⟨rfl, hZ, hh⟩ := hP
  have hx := Bd.exec
  have hby := Bd.bytes
  have hml : c.maxLocals = 3 := hml0
  have hown : s.vm.findClass "com/example/satzung/satzung/validate/PlacePage" = some m.cls := findClass_of_methodNamed Bd.named
  have hnm := (name_of_methodNamed Bd.named Bd.method).1
  have hrt := Bd.returns
  have hlk := Bd.notSynchronized
  have X0 : Stand p l e ({ frames := 1, cells := 0, slots := 0, locals := 14 } : Room) s m #[(.ref o0), (.int p1), (.ref o2)] below meth c s₁ [] 0 0 := Stand.of_body Bd
  have e0 : s₁.heap = h0 := by rw [← hh, Bd.state]; rfl
  have N0 := Fr.nil n0
  have lt_E_o0 : LT.lt (α := Nat) o0 h0.size := E_o0.lt
  have lt_F_entities_o0 : LT.lt (α := Nat) o0 h0.size := F_entities_o0.lt
  have lt_B_a1 : LT.lt (α := Nat) a1 h0.size := B_a1.lt
  have lt_F_lines_o0 : LT.lt (α := Nat) o0 h0.size := F_lines_o0.lt
  have lt_B_a2 : LT.lt (α := Nat) a2 h0.size := B_a2.lt
  have lt_F_columns_o0 : LT.lt (α := Nat) o0 h0.size := F_columns_o0.lt
  have lt_B_a3 : LT.lt (α := Nat) a3 h0.size := B_a3.lt
  have lt_E_o2 : LT.lt (α := Nat) o2 h0.size := E_o2.lt
  have lt_F_ent_o2 : LT.lt (α := Nat) o2 h0.size := F_ent_o2.lt
  have lt_F_line_o2 : LT.lt (α := Nat) o2 h0.size := F_line_o2.lt
  have lt_F_col_o2 : LT.lt (α := Nat) o2 h0.size := F_col_o2.lt
  show Go p e below s 0 0 (Q5N Z o0 p1 o2 x1 x2 a1 a2 a3 ka1 ka2 ka3 fa1 fa2 fa3 h0 n0) (s₁.setTop (entryFrame m #[(.ref o0), (.int p1), (.ref o2)] 3))
  rw [ef_5N m o0 p1 o2]
  refine Go.pre (st' := s₁.setTop (mkF m 1 #[sR o0, sI p1, sR o2] [(.ref o0)])) (fun target kt => ?_) ?_
  · show Steps p.tables e below (s₁.setTop (mkF m 0 #[sR o0, sI p1, sR o2] [])) _
    refine XS.aloadN X0.here hx rfl (hb hby d5_0) rfl rfl ?_
    exact kt
  obtain ⟨T1, X1, e1, st1⟩ := getF X0 hx hZ hown (host := "") (Or.inl (ow hw 37 rfl)) Via.refl e0 F_entities_o0 (g := (mkF m 1 #[sR o0, sI p1, sR o2] [(.ref o0)])) rfl rfl (hb hby d5_1)
  refine Go.pre st1 ?_
  show Go p e below s _ _ _ (T1.setTop (mkF m 4 #[sR o0, sI p1, sR o2] [(.ref a1)]))
  refine Go.pre (st' := T1.setTop (mkF m 6 #[sR o0, sI p1, sR o2] [(.ref o2), (.int p1), (.ref a1)])) (fun target kt => ?_) ?_
  · show Steps p.tables e below (T1.setTop (mkF m 4 #[sR o0, sI p1, sR o2] [(.ref a1)])) _
    refine XS.iloadN X1.here hx rfl (hb hby d5_4) rfl ?_
    refine XS.aloadN X1.here hx rfl (hb hby d5_5) rfl rfl ?_
    exact kt
  obtain ⟨cq2, kq2, q2a, q2b, q2c⟩ := isOf hZ e1 E_o2
  obtain ⟨_, _, ⟨T2, L2, k2, n2⟩, -, X2, ⟨Lc2, hQ2, l2, y2, z2⟩, st2⟩ := X1.virtualBack hx (y := (⟨"com/example/satzung/satzung/diagnostics/Location", "entity", "()Ljava/lang/String;"⟩ : MethodName)) (z := (⟨"com/example/satzung/satzung/diagnostics/Location", "entity", "()Ljava/lang/String;"⟩ : MethodName)) hown (mvT hZ (ow hw 49 rfl)) (mvT hZ (ow hw 50 rfl)) (notFace_of_selects (args := #[]) (mvT hZ (ow hw 52 rfl))) (mvT hZ (ow hw 52 rfl)) (mvT hZ (ow hw 51 rfl)) (by decide) (backOf (W := 2) (rm6N l Z a0 hw [] o2 h0 n0 (by omega) F_ent_o2) hZ (ow hw 53 rfl) (ow hw 15 rfl) (by decide) (by decide)) q2a q2c (g := (mkF m 6 #[sR o0, sI p1, sR o2] [(.ref o2), (.int p1), (.ref a1)])) rfl (by rw [hml]; rfl) (Steps.refl _) (argsL := []) (rest := [(.int p1), (.ref a1)]) (lenOf pd5N_0 rfl) rfl (by show 2 * 0 + _ ≤ _; exact Nat.le_of_eq rfl) (hb hby d5_6) (fun vm₁ hvm => ⟨rfl, e1, (by decide : 0 + 0 ≤ _), (by decide : 0 + 0 ≤ _)⟩)
  dsimp only [Pt.U, Pt.locs, Pt.cells, Pt.slots] at X2 l2 y2 z2 st2 hQ2
  subst l2 y2 z2
  obtain ⟨rfl, N2q, e2⟩ := hQ2
  have N2 := Fr.app N0 N2q
  refine Go.trans st2 ?_
  show Go p e below s _ _ _ (T2.setTop (mkF m 9 #[sR o0, sI p1, sR o2] [.null, (.int p1), (.ref a1)]))
  obtain ⟨cl3, Ar3, q3, Sz3, Nn3, Hs3⟩ := id B_a1
  have in3 : ¬ (p1 < 0 ∨ cl3.slots.size ≤ (p1).toNatClampNeg) := by rw [Sz3]; exact hin_p1
  obtain ⟨T3, h3, X3, e3, W3, st3⟩ := stR X2 hx hZ e2 Ar3 (j := p1) in3 rfl (Or.inl rfl) (g := (mkF m 9 #[sR o0, sI p1, sR o2] [.null, (.int p1), (.ref a1)])) rfl rfl (hb hby d5_9)
  have sz3 : h0.size ≤ h3.size := (Keep.of_wr W3).1
  have V3 : Arf Z h3 a1 ka1 (.object "java/lang/String") (1024 : Int32) (own_upd fa1 p1 .null) := Arf.set Ar3 q3 Sz3 Nn3 Hs3 rfl in3 W3
  have N3 := Fr.snoc X3 N2 (by omega)
  refine Go.pre st3 ?_
  show Go p e below s _ _ _ (T3.setTop (mkF m 10 #[sR o0, sI p1, sR o2] []))
  refine Go.pre (st' := T3.setTop (mkF m 11 #[sR o0, sI p1, sR o2] [(.ref o0)])) (fun target kt => ?_) ?_
  · show Steps p.tables e below (T3.setTop (mkF m 10 #[sR o0, sI p1, sR o2] [])) _
    refine XS.aloadN X3.here hx rfl (hb hby d5_10) rfl rfl ?_
    exact kt
  have Y4 : Fld Z h3 o0 "com/example/satzung/satzung/validate/PlacePage" "lines" "[J" (.ref a2) := (F_lines_o0.other W3 (Or.inl n_o0_a1))
  obtain ⟨T5, X5, e5, st5⟩ := getF X3 hx hZ hown (host := "") (Or.inl (ow hw 40 rfl)) Via.refl e3 Y4 (g := (mkF m 11 #[sR o0, sI p1, sR o2] [(.ref o0)])) rfl rfl (hb hby d5_11)
  refine Go.pre st5 ?_
  show Go p e below s _ _ _ (T5.setTop (mkF m 14 #[sR o0, sI p1, sR o2] [(.ref a2)]))
  refine Go.pre (st' := T5.setTop (mkF m 16 #[sR o0, sI p1, sR o2] [(.ref o2), (.int p1), (.ref a2)])) (fun target kt => ?_) ?_
  · show Steps p.tables e below (T5.setTop (mkF m 14 #[sR o0, sI p1, sR o2] [(.ref a2)])) _
    refine XS.iloadN X5.here hx rfl (hb hby d5_14) rfl ?_
    refine XS.aloadN X5.here hx rfl (hb hby d5_15) rfl rfl ?_
    exact kt
  have Y7 : Fld Z h3 o2 "com/example/satzung/satzung/diagnostics/Location" "line" "J" (.long x1) := (F_line_o2.other W3 (Or.inl n_o2_a1))
  have Y8 : Exa Z h3 o2 "com/example/satzung/satzung/diagnostics/Location" := (E_o2.wr W3)
  obtain ⟨cq6, kq6, q6a, q6b, q6c⟩ := isOf hZ e5 Y8
  obtain ⟨_, _, ⟨T6, L6, k6, n6⟩, -, X6, ⟨Lc6, hQ6, l6, y6, z6⟩, st6⟩ := X5.virtualBack hx (y := (⟨"com/example/satzung/satzung/diagnostics/Location", "line", "()J"⟩ : MethodName)) (z := (⟨"com/example/satzung/satzung/diagnostics/Location", "line", "()J"⟩ : MethodName)) hown (mvT hZ (ow hw 55 rfl)) (mvT hZ (ow hw 56 rfl)) (notFace_of_selects (args := #[]) (mvT hZ (ow hw 58 rfl))) (mvT hZ (ow hw 58 rfl)) (mvT hZ (ow hw 57 rfl)) (by decide) (backOf (W := 2) (rm7 l Z a0 hw [] o2 x1 h3 n0 (by omega) Y7) hZ (ow hw 59 rfl) (ow hw 15 rfl) (by decide) (by decide)) q6a q6c (g := (mkF m 16 #[sR o0, sI p1, sR o2] [(.ref o2), (.int p1), (.ref a2)])) rfl (by rw [hml]; rfl) (Steps.refl _) (argsL := []) (rest := [(.int p1), (.ref a2)]) (lenOf pd5N_1 rfl) rfl (by show 2 * 0 + _ ≤ _; exact Nat.le_of_eq rfl) (hb hby d5_16) (fun vm₁ hvm => ⟨rfl, e5, (by decide : 0 + 0 ≤ _), (by decide : 0 + 0 ≤ _)⟩)
  dsimp only [Pt.U, Pt.locs, Pt.cells, Pt.slots] at X6 l6 y6 z6 st6 hQ6
  subst l6 y6 z6
  obtain ⟨rfl, N6q, e6⟩ := hQ6
  have N6 := Fr.app N3 N6q
  refine Go.trans st6 ?_
  show Go p e below s _ _ _ (T6.setTop (mkF m 19 #[sR o0, sI p1, sR o2] [(.long x1), (.int p1), (.ref a2)]))
  have Y9 : Arf Z h3 a2 ka2 .long (1024 : Int32) fa2 := (B_a2.other W3 (Ne.symm n_a1_a2))
  obtain ⟨cl10, Ar10, q10, Sz10, Nn10, Hs10⟩ := id Y9
  have in10 : ¬ (p1 < 0 ∨ cl10.slots.size ≤ (p1).toNatClampNeg) := by rw [Sz10]; exact hin_p1
  obtain ⟨T10, h10, X10, e10, W10, st10⟩ := stJ X6 hx hZ e6 Ar10 (j := p1) in10 (g := (mkF m 19 #[sR o0, sI p1, sR o2] [(.long x1), (.int p1), (.ref a2)])) rfl rfl (hb hby d5_19)
  have sz10 : h3.size ≤ h10.size := (Keep.of_wr W10).1
  have V10 : Arf Z h10 a2 ka2 .long (1024 : Int32) (own_upd fa2 p1 (.long x1)) := Arf.set Ar10 q10 Sz10 Nn10 Hs10 rfl in10 W10
  have N10 := Fr.snoc X10 N6 (by omega)
  refine Go.pre st10 ?_
  show Go p e below s _ _ _ (T10.setTop (mkF m 20 #[sR o0, sI p1, sR o2] []))
  refine Go.pre (st' := T10.setTop (mkF m 21 #[sR o0, sI p1, sR o2] [(.ref o0)])) (fun target kt => ?_) ?_
  · show Steps p.tables e below (T10.setTop (mkF m 20 #[sR o0, sI p1, sR o2] [])) _
    refine XS.aloadN X10.here hx rfl (hb hby d5_20) rfl rfl ?_
    exact kt
  have Y11 : Fld Z h10 o0 "com/example/satzung/satzung/validate/PlacePage" "columns" "[J" (.ref a3) := ((F_columns_o0.other W3 (Or.inl n_o0_a1)).other W10 (Or.inl n_o0_a2))
  obtain ⟨T12, X12, e12, st12⟩ := getF X10 hx hZ hown (host := "") (Or.inl (ow hw 42 rfl)) Via.refl e10 Y11 (g := (mkF m 21 #[sR o0, sI p1, sR o2] [(.ref o0)])) rfl rfl (hb hby d5_21)
  refine Go.pre st12 ?_
  show Go p e below s _ _ _ (T12.setTop (mkF m 24 #[sR o0, sI p1, sR o2] [(.ref a3)]))
  refine Go.pre (st' := T12.setTop (mkF m 26 #[sR o0, sI p1, sR o2] [(.ref o2), (.int p1), (.ref a3)])) (fun target kt => ?_) ?_
  · show Steps p.tables e below (T12.setTop (mkF m 24 #[sR o0, sI p1, sR o2] [(.ref a3)])) _
    refine XS.iloadN X12.here hx rfl (hb hby d5_24) rfl ?_
    refine XS.aloadN X12.here hx rfl (hb hby d5_25) rfl rfl ?_
    exact kt
  have Y14 : Fld Z h10 o2 "com/example/satzung/satzung/diagnostics/Location" "column" "J" (.long x2) := ((F_col_o2.other W3 (Or.inl n_o2_a1)).other W10 (Or.inl n_o2_a2))
  have Y15 : Exa Z h10 o2 "com/example/satzung/satzung/diagnostics/Location" := (Y8.wr W10)
  obtain ⟨cq13, kq13, q13a, q13b, q13c⟩ := isOf hZ e12 Y15
  obtain ⟨_, _, ⟨T13, L13, k13, n13⟩, -, X13, ⟨Lc13, hQ13, l13, y13, z13⟩, st13⟩ := X12.virtualBack hx (y := (⟨"com/example/satzung/satzung/diagnostics/Location", "column", "()J"⟩ : MethodName)) (z := (⟨"com/example/satzung/satzung/diagnostics/Location", "column", "()J"⟩ : MethodName)) hown (mvT hZ (ow hw 60 rfl)) (mvT hZ (ow hw 61 rfl)) (notFace_of_selects (args := #[]) (mvT hZ (ow hw 63 rfl))) (mvT hZ (ow hw 63 rfl)) (mvT hZ (ow hw 62 rfl)) (by decide) (backOf (W := 2) (rm8 l Z a0 hw [] o2 x2 h10 n0 (by omega) Y14) hZ (ow hw 64 rfl) (ow hw 15 rfl) (by decide) (by decide)) q13a q13c (g := (mkF m 26 #[sR o0, sI p1, sR o2] [(.ref o2), (.int p1), (.ref a3)])) rfl (by rw [hml]; rfl) (Steps.refl _) (argsL := []) (rest := [(.int p1), (.ref a3)]) (lenOf pd5N_1 rfl) rfl (by show 2 * 0 + _ ≤ _; exact Nat.le_of_eq rfl) (hb hby d5_26) (fun vm₁ hvm => ⟨rfl, e12, (by decide : 0 + 0 ≤ _), (by decide : 0 + 0 ≤ _)⟩)
  dsimp only [Pt.U, Pt.locs, Pt.cells, Pt.slots] at X13 l13 y13 z13 st13 hQ13
  subst l13 y13 z13
  obtain ⟨rfl, N13q, e13⟩ := hQ13
  have N13 := Fr.app N10 N13q
  refine Go.trans st13 ?_
  show Go p e below s _ _ _ (T13.setTop (mkF m 29 #[sR o0, sI p1, sR o2] [(.long x2), (.int p1), (.ref a3)]))
  have Y16 : Arf Z h10 a3 ka3 .long (1024 : Int32) fa3 := ((B_a3.other W3 (Ne.symm n_a1_a3)).other W10 (Ne.symm n_a2_a3))
  obtain ⟨cl17, Ar17, q17, Sz17, Nn17, Hs17⟩ := id Y16
  have in17 : ¬ (p1 < 0 ∨ cl17.slots.size ≤ (p1).toNatClampNeg) := by rw [Sz17]; exact hin_p1
  obtain ⟨T17, h17, X17, e17, W17, st17⟩ := stJ X13 hx hZ e13 Ar17 (j := p1) in17 (g := (mkF m 29 #[sR o0, sI p1, sR o2] [(.long x2), (.int p1), (.ref a3)])) rfl rfl (hb hby d5_29)
  have sz17 : h10.size ≤ h17.size := (Keep.of_wr W17).1
  have V17 : Arf Z h17 a3 ka3 .long (1024 : Int32) (own_upd fa3 p1 (.long x2)) := Arf.set Ar17 q17 Sz17 Nn17 Hs17 rfl in17 W17
  have N17 := Fr.snoc X17 N13 (by omega)
  refine Go.pre st17 ?_
  show Go p e below s _ _ _ (T17.setTop (mkF m 30 #[sR o0, sI p1, sR o2] []))
  have Y18 : Arf Z h17 a1 ka1 (.object "java/lang/String") (1024 : Int32) (own_upd fa1 p1 .null) := ((V3.other W10 n_a1_a2).other W17 n_a1_a3)
  have Y19 : Arf Z h17 a2 ka2 .long (1024 : Int32) (own_upd fa2 p1 (.long x1)) := (V10.other W17 n_a2_a3)
  exact Go.ret0 X17 hx hlk hrt (hb hby d5_30) (by decide) (by decide) (by rw [e17]; exact ⟨rfl, N17, ((((Keep.refl h0 [a1, a2, a3]).wr W3 (Or.inl (List.mem_of_getElem? (i := 0) rfl))).wr W10 (Or.inl (List.mem_of_getElem? (i := 1) rfl))).wr W17 (Or.inl (List.mem_of_getElem? (i := 2) rfl))), ((((KF.refl Z h0 [(a1, (p1).toNatClampNeg), (a2, (p1).toNatClampNeg), (a3, (p1).toNatClampNeg)]).wr W3 (Or.inl (List.mem_of_getElem? (i := 0) rfl))).wr W10 (Or.inl (List.mem_of_getElem? (i := 1) rfl))).wr W17 (Or.inl (List.mem_of_getElem? (i := 2) rfl))), Y18, Y19, V17⟩)
/-! PlacePage.get (10N) -/
theorem d10_0 : decode prog_117_method_4_code 0 = .ok (.new 23, 3) := by decide +kernel
theorem d10_3 : decode prog_117_method_4_code 3 = .ok (.dup, 1) := by decide +kernel
theorem d10_4 : decode prog_117_method_4_code 4 = .ok (.aload_n 0, 1) := by decide +kernel
theorem d10_5 : decode prog_117_method_4_code 5 = .ok (.getfield 11, 3) := by decide +kernel
theorem d10_8 : decode prog_117_method_4_code 8 = .ok (.iload_n 1, 1) := by decide +kernel
theorem d10_9 : decode prog_117_method_4_code 9 = .ok (.aaload, 1) := by decide +kernel
theorem d10_10 : decode prog_117_method_4_code 10 = .ok (.aload_n 0, 1) := by decide +kernel
theorem d10_11 : decode prog_117_method_4_code 11 = .ok (.getfield 15, 3) := by decide +kernel
theorem d10_14 : decode prog_117_method_4_code 14 = .ok (.iload_n 1, 1) := by decide +kernel
theorem d10_15 : decode prog_117_method_4_code 15 = .ok (.laload, 1) := by decide +kernel
theorem d10_16 : decode prog_117_method_4_code 16 = .ok (.aload_n 0, 1) := by decide +kernel
theorem d10_17 : decode prog_117_method_4_code 17 = .ok (.getfield 19, 3) := by decide +kernel
theorem d10_20 : decode prog_117_method_4_code 20 = .ok (.iload_n 1, 1) := by decide +kernel
theorem d10_21 : decode prog_117_method_4_code 21 = .ok (.laload, 1) := by decide +kernel
theorem d10_22 : decode prog_117_method_4_code 22 = .ok (.invokespecial 35, 3) := by decide +kernel
theorem d10_25 : decode prog_117_method_4_code 25 = .ok (.areturn, 1) := by decide +kernel
theorem pn_10 : plainName "com/example/satzung/satzung/validate/PlacePage" = true := by first | (simp [plainName, overriddenIn]; done) | decide +kernel
theorem pd10N_0 : parseMethodDescriptor "(Ljava/lang/String;JJ)V" = some ⟨[(.object "java/lang/String"), .long, .long], none⟩ := by decide +kernel
theorem ef_10N (m : MethodId) (o0 : Addr) (p1 : Int32) : entryFrame m #[(.ref o0), (.int p1)] 2 = (mkF m 0 #[.val (.ref o0), .val (.int p1)] []) := by first | (simp [entryFrame, mkF, argsToLocals, Value.category]; done) | rfl
def Q10N (Z : State) (o0 : Addr) (p1 : Int32) (x1 : Int64) (x2 : Int64) (a1 : Addr) (a2 : Addr) (a3 : Addr) (ka1 : ClassId) (ka2 : ClassId) (ka3 : ClassId) (fa1 : Int32 → Value) (fa2 : Int32 → Value) (fa3 : Int32 → Value) (h0 : Heap) (n0 : Nat) (v : Option Value) (h : Heap) (L : List Loc) : Prop := ∃ b1 : Addr, v = some (.ref b1) ∧ Fr n0 L ∧ Keep h0 h [] ∧ KF Z h0 h [] ∧ LE.le (α := Nat) h0.size b1 ∧ LT.lt (α := Nat) b1 h.size ∧ Exa Z h b1 "com/example/satzung/satzung/diagnostics/Location" ∧ Fld Z h b1 "com/example/satzung/satzung/diagnostics/Location" "entity" "Ljava/lang/String;" .null ∧ Fld Z h b1 "com/example/satzung/satzung/diagnostics/Location" "line" "J" (.long x1) ∧ Fld Z h b1 "com/example/satzung/satzung/diagnostics/Location" "column" "J" (.long x2)
set_option maxRecDepth 65536 in
set_option maxHeartbeats 40000000 in
theorem rm10N (l : Launch) (Z : State) (a0 : Array Value) (hw : ∀ d ∈ tables_1, d.before a0 Z = true) (ws : List Jvm.Cond) (o0 : Addr) (p1 : Int32) (x1 : Int64) (x2 : Int64) (a1 : Addr) (a2 : Addr) (a3 : Addr) (ka1 : ClassId) (ka2 : ClassId) (ka3 : ClassId) (fa1 : Int32 → Value) (fa2 : Int32 → Value) (fa3 : Int32 → Value) (h0 : Heap) (n0 : Nat) (Z0 : n0 ≤ h0.size) (E_o0 : Exa Z h0 o0 "com/example/satzung/satzung/validate/PlacePage") (F_entities_o0 : Fld Z h0 o0 "com/example/satzung/satzung/validate/PlacePage" "entities" "[Ljava/lang/String;" (.ref a1)) (B_a1 : Arf Z h0 a1 ka1 (.object "java/lang/String") (1024 : Int32) fa1) (F_lines_o0 : Fld Z h0 o0 "com/example/satzung/satzung/validate/PlacePage" "lines" "[J" (.ref a2)) (B_a2 : Arf Z h0 a2 ka2 .long (1024 : Int32) fa2) (F_columns_o0 : Fld Z h0 o0 "com/example/satzung/satzung/validate/PlacePage" "columns" "[J" (.ref a3)) (B_a3 : Arf Z h0 a3 ka3 .long (1024 : Int32) fa3) (O_a : Ovr Z ka1 "java/lang/String") (hr1 : fa1 p1 = .null) (hr2 : fa2 p1 = (.long x1)) (hr3 : fa3 p1 = (.long x2)) (hin_p1 : ¬ (p1 < 0 ∨ (1024 : Int32).toNatClampNeg ≤ p1.toNatClampNeg)) (hx1 : ¬ (x1 < (1 : Int64))) (hx2 : ¬ (x2 < (1 : Int64))) :
    MetFree l (⟨"com/example/satzung/satzung/validate/PlacePage", "get", "(I)Lcom/example/satzung/satzung/diagnostics/Location;"⟩ : MethodName) (head1 (Jvm.Cond.code (⟨"com/example/satzung/satzung/validate/PlacePage", "get", "(I)Lcom/example/satzung/satzung/diagnostics/Location;"⟩ : MethodName) prog_117_method_4_code 2 (some (.object "com/example/satzung/satzung/diagnostics/Location")) :: ws) ({ frames := 2, cells := 1, slots := 3, locals := 30 } : Room)) (fun a U => a = #[(.ref o0), (.int p1)] ∧ Z.Warmed39 U.vm ∧ U.heap = h0) (fun _ _ _ _ _ => True) (fun _ U o U' => ∃ v L, o = .returned v ∧ Q10N Z o0 p1 x1 x2 a1 a2 a3 ka1 ka2 ka3 fa1 fa2 fa3 h0 n0 v U'.heap L ∧ FrameEnd U o U' L ({ frames := 2, cells := 1, slots := 3, locals := 30 } : Room).cells ({ frames := 2, cells := 1, slots := 3, locals := 30 } : Room).slots) := by
  refine MetFree.of_bodySF (plainFor_of_name pn_10) hisR ?_
  intro p e s m args below meth c s₁ Bd hml0 hP hK
  obtain ⟨rfl, hZ, hh⟩ := hP
  have hx := Bd.exec
  have hby := Bd.bytes
  have hml : c.maxLocals = 2 := hml0
  have hown : s.vm.findClass "com/example/satzung/satzung/validate/PlacePage" = some m.cls := findClass_of_methodNamed Bd.named
  have hnm := (name_of_methodNamed Bd.named Bd.method).1
  have hrt := Bd.returns
  have hlk := Bd.notSynchronized
  have X0 : Stand p l e ({ frames := 2, cells := 1, slots := 3, locals := 30 } : Room) s m #[(.ref o0), (.int p1)] below meth c s₁ [] 0 0 := Stand.of_body Bd
  have e0 : s₁.heap = h0 := by rw [← hh, Bd.state]; rfl
  have N0 := Fr.nil n0
  have lt_E_o0 : LT.lt (α := Nat) o0 h0.size := E_o0.lt
  have lt_F_entities_o0 : LT.lt (α := Nat) o0 h0.size := F_entities_o0.lt
  have lt_B_a1 : LT.lt (α := Nat) a1 h0.size := B_a1.lt
  have lt_F_lines_o0 : LT.lt (α := Nat) o0 h0.size := F_lines_o0.lt
  have lt_B_a2 : LT.lt (α := Nat) a2 h0.size := B_a2.lt
  have lt_F_columns_o0 : LT.lt (α := Nat) o0 h0.size := F_columns_o0.lt
  have lt_B_a3 : LT.lt (α := Nat) a3 h0.size := B_a3.lt
  show Go p e below s 1 3 (Q10N Z o0 p1 x1 x2 a1 a2 a3 ka1 ka2 ka3 fa1 fa2 fa3 h0 n0) (s₁.setTop (entryFrame m #[(.ref o0), (.int p1)] 2))
  rw [ef_10N m o0 p1]
  obtain ⟨T1, h1, X1, e1, E1, A1, D1, -, st1⟩ := newO X0 hx hZ hown (ow hw 75 rfl) (ow hw 14 rfl) (ow hw 15 rfl) e0 (g := (mkF m 0 #[sR o0, sI p1] [])) rfl (hb hby d10_0) (by decide) (by decide)
  obtain ⟨b1, g1⟩ : ∃ z, z = h0.size := ⟨_, rfl⟩
  rw [← g1] at A1 D1 st1
  have sz1 : h0.size ≤ h1.size := E1.1
  have lt1 : b1 < h1.size := A1.lt
  have F1_entity : Fld Z h1 b1 "com/example/satzung/satzung/diagnostics/Location" "entity" "Ljava/lang/String;" .null := D1 (Or.inr (ow hw 23 rfl)) (ty := (.object "java/lang/String")) (by decide)
  have F1_line : Fld Z h1 b1 "com/example/satzung/satzung/diagnostics/Location" "line" "J" (.long (0 : Int64)) := D1 (Or.inr (ow hw 25 rfl)) (ty := .long) (by decide)
  have F1_column : Fld Z h1 b1 "com/example/satzung/satzung/diagnostics/Location" "column" "J" (.long (0 : Int64)) := D1 (Or.inr (ow hw 27 rfl)) (ty := .long) (by decide)
  refine Go.pre st1 ?_
  show Go p e below s _ _ _ (T1.setTop (mkF m 3 #[sR o0, sI p1] [(.ref b1)]))
  refine Go.pre (st' := T1.setTop (mkF m 5 #[sR o0, sI p1] [(.ref o0), (.ref b1), (.ref b1)])) (fun target kt => ?_) ?_
  · show Steps p.tables e below (T1.setTop (mkF m 3 #[sR o0, sI p1] [(.ref b1)])) _
    refine XS.dup X1.here hx rfl (hb hby d10_3) rfl rfl ?_
    refine XS.aloadN X1.here hx rfl (hb hby d10_4) rfl rfl ?_
    exact kt
  have Y2 : Fld Z h1 o0 "com/example/satzung/satzung/validate/PlacePage" "entities" "[Ljava/lang/String;" (.ref a1) := (F_entities_o0.ext E1)
  obtain ⟨T3, X3, e3, st3⟩ := getF X1 hx hZ hown (host := "") (Or.inl (ow hw 37 rfl)) Via.refl e1 Y2 (g := (mkF m 5 #[sR o0, sI p1] [(.ref o0), (.ref b1), (.ref b1)])) rfl rfl (hb hby d10_5)
  refine Go.pre st3 ?_
  show Go p e below s _ _ _ (T3.setTop (mkF m 8 #[sR o0, sI p1] [(.ref a1), (.ref b1), (.ref b1)]))
  refine Go.pre (st' := T3.setTop (mkF m 9 #[sR o0, sI p1] [(.int p1), (.ref a1), (.ref b1), (.ref b1)])) (fun target kt => ?_) ?_
  · show Steps p.tables e below (T3.setTop (mkF m 8 #[sR o0, sI p1] [(.ref a1), (.ref b1), (.ref b1)])) _
    refine XS.iloadN X3.here hx rfl (hb hby d10_8) rfl ?_
    exact kt
  have Y4 : Arf Z h1 a1 ka1 (.object "java/lang/String") (1024 : Int32) fa1 := (B_a1.ext E1)
  obtain ⟨cl5, Ar5, q5, Sz5, Nn5, Hs5⟩ := id Y4
  have in5 : ¬ (p1 < 0 ∨ cl5.slots.size ≤ (p1).toNatClampNeg) := by rw [Sz5]; exact hin_p1
  have at5 : cl5.slots[(p1).toNatClampNeg]? = some .null := (Hs5 _ in5).1.trans (congrArg some hr1)
  refine Go.pre (X3.aaload hx (j := p1) (v := .null) (by rw [e3]; exact Ar5.1) (State.isArrayOf_alike hZ.alike Ar5.2.1) rfl Ar5.2.2 in5 at5 (g := (mkF m 9 #[sR o0, sI p1] [(.int p1), (.ref a1), (.ref b1), (.ref b1)])) rfl rfl (hb hby d10_9)) ?_
  show Go p e below s _ _ _ (T3.setTop (mkF m 10 #[sR o0, sI p1] [.null, (.ref b1), (.ref b1)]))
  refine Go.pre (st' := T3.setTop (mkF m 11 #[sR o0, sI p1] [(.ref o0), .null, (.ref b1), (.ref b1)])) (fun target kt => ?_) ?_
  · show Steps p.tables e below (T3.setTop (mkF m 10 #[sR o0, sI p1] [.null, (.ref b1), (.ref b1)])) _
    refine XS.aloadN X3.here hx rfl (hb hby d10_10) rfl rfl ?_
    exact kt
  have Y6 : Fld Z h1 o0 "com/example/satzung/satzung/validate/PlacePage" "lines" "[J" (.ref a2) := (F_lines_o0.ext E1)
  obtain ⟨T7, X7, e7, st7⟩ := getF X3 hx hZ hown (host := "") (Or.inl (ow hw 40 rfl)) Via.refl e3 Y6 (g := (mkF m 11 #[sR o0, sI p1] [(.ref o0), .null, (.ref b1), (.ref b1)])) rfl rfl (hb hby d10_11)
  refine Go.pre st7 ?_
  show Go p e below s _ _ _ (T7.setTop (mkF m 14 #[sR o0, sI p1] [(.ref a2), .null, (.ref b1), (.ref b1)]))
  refine Go.pre (st' := T7.setTop (mkF m 15 #[sR o0, sI p1] [(.int p1), (.ref a2), .null, (.ref b1), (.ref b1)])) (fun target kt => ?_) ?_
  · show Steps p.tables e below (T7.setTop (mkF m 14 #[sR o0, sI p1] [(.ref a2), .null, (.ref b1), (.ref b1)])) _
    refine XS.iloadN X7.here hx rfl (hb hby d10_14) rfl ?_
    exact kt
  have Y8 : Arf Z h1 a2 ka2 .long (1024 : Int32) fa2 := (B_a2.ext E1)
  obtain ⟨cl9, Ar9, q9, Sz9, Nn9, Hs9⟩ := id Y8
  have in9 : ¬ (p1 < 0 ∨ cl9.slots.size ≤ (p1).toNatClampNeg) := by rw [Sz9]; exact hin_p1
  have at9 : cl9.slots[(p1).toNatClampNeg]? = some (.long x1) := (Hs9 _ in9).1.trans (congrArg some hr2)
  refine Go.pre (X7.laload hx (j := p1) (v := (.long x1)) (by rw [e7]; exact Ar9.1) (State.isArrayOf_alike hZ.alike Ar9.2.1) Ar9.2.2 in9 at9 (g := (mkF m 15 #[sR o0, sI p1] [(.int p1), (.ref a2), .null, (.ref b1), (.ref b1)])) rfl rfl (hb hby d10_15)) ?_
  show Go p e below s _ _ _ (T7.setTop (mkF m 16 #[sR o0, sI p1] [(.long x1), .null, (.ref b1), (.ref b1)]))
  refine Go.pre (st' := T7.setTop (mkF m 17 #[sR o0, sI p1] [(.ref o0), (.long x1), .null, (.ref b1), (.ref b1)])) (fun target kt => ?_) ?_
  · show Steps p.tables e below (T7.setTop (mkF m 16 #[sR o0, sI p1] [(.long x1), .null, (.ref b1), (.ref b1)])) _
    refine XS.aloadN X7.here hx rfl (hb hby d10_16) rfl rfl ?_
    exact kt
  have Y10 : Fld Z h1 o0 "com/example/satzung/satzung/validate/PlacePage" "columns" "[J" (.ref a3) := (F_columns_o0.ext E1)
  obtain ⟨T11, X11, e11, st11⟩ := getF X7 hx hZ hown (host := "") (Or.inl (ow hw 42 rfl)) Via.refl e7 Y10 (g := (mkF m 17 #[sR o0, sI p1] [(.ref o0), (.long x1), .null, (.ref b1), (.ref b1)])) rfl rfl (hb hby d10_17)
  refine Go.pre st11 ?_
  show Go p e below s _ _ _ (T11.setTop (mkF m 20 #[sR o0, sI p1] [(.ref a3), (.long x1), .null, (.ref b1), (.ref b1)]))
  refine Go.pre (st' := T11.setTop (mkF m 21 #[sR o0, sI p1] [(.int p1), (.ref a3), (.long x1), .null, (.ref b1), (.ref b1)])) (fun target kt => ?_) ?_
  · show Steps p.tables e below (T11.setTop (mkF m 20 #[sR o0, sI p1] [(.ref a3), (.long x1), .null, (.ref b1), (.ref b1)])) _
    refine XS.iloadN X11.here hx rfl (hb hby d10_20) rfl ?_
    exact kt
  have Y12 : Arf Z h1 a3 ka3 .long (1024 : Int32) fa3 := (B_a3.ext E1)
  obtain ⟨cl13, Ar13, q13, Sz13, Nn13, Hs13⟩ := id Y12
  have in13 : ¬ (p1 < 0 ∨ cl13.slots.size ≤ (p1).toNatClampNeg) := by rw [Sz13]; exact hin_p1
  have at13 : cl13.slots[(p1).toNatClampNeg]? = some (.long x2) := (Hs13 _ in13).1.trans (congrArg some hr3)
  refine Go.pre (X11.laload hx (j := p1) (v := (.long x2)) (by rw [e11]; exact Ar13.1) (State.isArrayOf_alike hZ.alike Ar13.2.1) Ar13.2.2 in13 at13 (g := (mkF m 21 #[sR o0, sI p1] [(.int p1), (.ref a3), (.long x1), .null, (.ref b1), (.ref b1)])) rfl rfl (hb hby d10_21)) ?_
  show Go p e below s _ _ _ (T11.setTop (mkF m 22 #[sR o0, sI p1] [(.long x2), (.long x1), .null, (.ref b1), (.ref b1)]))
  obtain ⟨_, _, ⟨T14, L14, k14, n14⟩, -, X14, ⟨Lc14, hQ14, l14, y14, z14⟩, st14⟩ := X11.specialBack hx (y := (⟨"com/example/satzung/satzung/diagnostics/Location", "<init>", "(Ljava/lang/String;JJ)V"⟩ : MethodName)) rfl hown (mvT hZ (ow hw 76 rfl)) (mvT hZ (ow hw 17 rfl)) (mvT hZ (ow hw 18 rfl)) (by decide) (backOf (W := 1) (rm2N l Z a0 hw [] b1 x1 x2 .null (.long (0 : Int64)) (.long (0 : Int64)) h1 n0 (by omega) A1 F1_entity (by omega) F1_line F1_column (by first | assumption | decide) (by first | assumption | decide)) hZ (ow hw 18 rfl) (ow hw 15 rfl) (by decide) (by decide)) (g := (mkF m 22 #[sR o0, sI p1] [(.long x2), (.long x1), .null, (.ref b1), (.ref b1)])) rfl (by rw [hml]; rfl) (Steps.refl _) (a := b1) (argsL := [.null, (.long x1), (.long x2)]) (rest := [(.ref b1)]) (lenOf pd10N_0 rfl) rfl (by show 2 * 0 + _ ≤ _; exact Nat.le_of_eq rfl) (hb hby d10_22) (fun vm₁ hvm => ⟨rfl, e11, (by decide : 1 + 0 ≤ _), (by decide : 3 + 0 ≤ _)⟩)
  dsimp only [Pt.U, Pt.locs, Pt.cells, Pt.slots] at X14 l14 y14 z14 st14 hQ14
  subst l14 y14 z14
  obtain ⟨rfl, N14q, K14, KF14, Y14_0, Y14_1, Y14_2⟩ := hQ14
  have sz14 : h1.size ≤ T14.heap.size := K14.1
  have N14 := Fr.app N0 N14q
  refine Go.trans st14 ?_
  show Go p e below s _ _ _ (T14.setTop (mkF m 25 #[sR o0, sI p1] [(.ref b1)]))
  have Y15 : Exa Z T14.heap b1 "com/example/satzung/satzung/diagnostics/Location" := (A1.keep K14)
  exact Go.retV X14 hx hlk hrt rfl (Or.inr (Or.inr (Or.inr (Or.inr ⟨rfl, rfl, rfl⟩)))) (hb hby d10_25) (by decide) (by decide) (by exact ⟨b1, rfl, N14, (((Keep.refl h0 []).ext E1).trans K14 (allS (Or.inr (by omega)) all0)), (((KF.refl Z h0 []).ext E1).trans KF14 (pallS (Or.inr (by show _ ≤ b1; omega)) (pallS (Or.inr (by show _ ≤ b1; omega)) (pallS (Or.inr (by show _ ≤ b1; omega)) pall0)))), by omega, by omega, Y15, Y14_0, Y14_1, Y14_2⟩)
/-! PlacePage.set (9dN) -/
theorem d9_0 : decode prog_117_method_3_code 0 = .ok (.aload_n 0, 1) := by decide +kernel
theorem d9_1 : decode prog_117_method_3_code 1 = .ok (.getfield 11, 3) := by decide +kernel
theorem d9_4 : decode prog_117_method_3_code 4 = .ok (.iload_n 1, 1) := by decide +kernel
theorem d9_5 : decode prog_117_method_3_code 5 = .ok (.aload_n 2, 1) := by decide +kernel
theorem d9_6 : decode prog_117_method_3_code 6 = .ok (.getfield 11, 3) := by decide +kernel
theorem d9_9 : decode prog_117_method_3_code 9 = .ok (.iload_n 3, 1) := by decide +kernel
theorem d9_10 : decode prog_117_method_3_code 10 = .ok (.aaload, 1) := by decide +kernel
theorem d9_11 : decode prog_117_method_3_code 11 = .ok (.aastore, 1) := by decide +kernel
theorem d9_12 : decode prog_117_method_3_code 12 = .ok (.aload_n 0, 1) := by decide +kernel
theorem d9_13 : decode prog_117_method_3_code 13 = .ok (.getfield 15, 3) := by decide +kernel
theorem d9_16 : decode prog_117_method_3_code 16 = .ok (.iload_n 1, 1) := by decide +kernel
theorem d9_17 : decode prog_117_method_3_code 17 = .ok (.aload_n 2, 1) := by decide +kernel
theorem d9_18 : decode prog_117_method_3_code 18 = .ok (.getfield 15, 3) := by decide +kernel
theorem d9_21 : decode prog_117_method_3_code 21 = .ok (.iload_n 3, 1) := by decide +kernel
theorem d9_22 : decode prog_117_method_3_code 22 = .ok (.laload, 1) := by decide +kernel
theorem d9_23 : decode prog_117_method_3_code 23 = .ok (.lastore, 1) := by decide +kernel
theorem d9_24 : decode prog_117_method_3_code 24 = .ok (.aload_n 0, 1) := by decide +kernel
theorem d9_25 : decode prog_117_method_3_code 25 = .ok (.getfield 19, 3) := by decide +kernel
theorem d9_28 : decode prog_117_method_3_code 28 = .ok (.iload_n 1, 1) := by decide +kernel
theorem d9_29 : decode prog_117_method_3_code 29 = .ok (.aload_n 2, 1) := by decide +kernel
theorem d9_30 : decode prog_117_method_3_code 30 = .ok (.getfield 19, 3) := by decide +kernel
theorem d9_33 : decode prog_117_method_3_code 33 = .ok (.iload_n 3, 1) := by decide +kernel
theorem d9_34 : decode prog_117_method_3_code 34 = .ok (.laload, 1) := by decide +kernel
theorem d9_35 : decode prog_117_method_3_code 35 = .ok (.lastore, 1) := by decide +kernel
theorem d9_36 : decode prog_117_method_3_code 36 = .ok (.return_, 1) := by decide +kernel
theorem pn_9 : plainName "com/example/satzung/satzung/validate/PlacePage" = true := by first | (simp [plainName, overriddenIn]; done) | decide +kernel
theorem ef_9dN (m : MethodId) (o0 : Addr) (p1 : Int32) (o2 : Addr) (p3 : Int32) : entryFrame m #[(.ref o0), (.int p1), (.ref o2), (.int p3)] 4 = (mkF m 0 #[.val (.ref o0), .val (.int p1), .val (.ref o2), .val (.int p3)] []) := by first | (simp [entryFrame, mkF, argsToLocals, Value.category]; done) | rfl
def Q9dN (Z : State) (o0 : Addr) (p1 : Int32) (o2 : Addr) (p3 : Int32) (x1 : Int64) (x2 : Int64) (a1 : Addr) (a2 : Addr) (a3 : Addr) (ka1 : ClassId) (ka2 : ClassId) (ka3 : ClassId) (fa1 : Int32 → Value) (fa2 : Int32 → Value) (fa3 : Int32 → Value) (c1 : Addr) (c2 : Addr) (c3 : Addr) (kc1 : ClassId) (kc2 : ClassId) (kc3 : ClassId) (fc1 : Int32 → Value) (fc2 : Int32 → Value) (fc3 : Int32 → Value) (h0 : Heap) (n0 : Nat) (v : Option Value) (h : Heap) (L : List Loc) : Prop := v = none ∧ Fr n0 L ∧ Keep h0 h [a1, a2, a3] ∧ KF Z h0 h [(a1, (p1).toNatClampNeg), (a2, (p1).toNatClampNeg), (a3, (p1).toNatClampNeg)] ∧ Arf Z h a1 ka1 (.object "java/lang/String") (1024 : Int32) (own_upd fa1 p1 .null) ∧ Arf Z h a2 ka2 .long (1024 : Int32) (own_upd fa2 p1 (.long x1)) ∧ Arf Z h a3 ka3 .long (1024 : Int32) (own_upd fa3 p1 (.long x2))
set_option maxRecDepth 65536 in
set_option maxHeartbeats 40000000 in
theorem rm9dN (l : Launch) (Z : State) (a0 : Array Value) (hw : ∀ d ∈ tables_1, d.before a0 Z = true) (ws : List Jvm.Cond) (o0 : Addr) (p1 : Int32) (o2 : Addr) (p3 : Int32) (x1 : Int64) (x2 : Int64) (a1 : Addr) (a2 : Addr) (a3 : Addr) (ka1 : ClassId) (ka2 : ClassId) (ka3 : ClassId) (fa1 : Int32 → Value) (fa2 : Int32 → Value) (fa3 : Int32 → Value) (c1 : Addr) (c2 : Addr) (c3 : Addr) (kc1 : ClassId) (kc2 : ClassId) (kc3 : ClassId) (fc1 : Int32 → Value) (fc2 : Int32 → Value) (fc3 : Int32 → Value) (h0 : Heap) (n0 : Nat) (Z0 : n0 ≤ h0.size) (E_o0 : Exa Z h0 o0 "com/example/satzung/satzung/validate/PlacePage") (F_entities_o0 : Fld Z h0 o0 "com/example/satzung/satzung/validate/PlacePage" "entities" "[Ljava/lang/String;" (.ref a1)) (B_a1 : Arf Z h0 a1 ka1 (.object "java/lang/String") (1024 : Int32) fa1) (F_lines_o0 : Fld Z h0 o0 "com/example/satzung/satzung/validate/PlacePage" "lines" "[J" (.ref a2)) (B_a2 : Arf Z h0 a2 ka2 .long (1024 : Int32) fa2) (F_columns_o0 : Fld Z h0 o0 "com/example/satzung/satzung/validate/PlacePage" "columns" "[J" (.ref a3)) (B_a3 : Arf Z h0 a3 ka3 .long (1024 : Int32) fa3) (O_a : Ovr Z ka1 "java/lang/String") (E_o2 : Exa Z h0 o2 "com/example/satzung/satzung/validate/PlacePage") (F_entities_o2 : Fld Z h0 o2 "com/example/satzung/satzung/validate/PlacePage" "entities" "[Ljava/lang/String;" (.ref c1)) (B_c1 : Arf Z h0 c1 kc1 (.object "java/lang/String") (1024 : Int32) fc1) (F_lines_o2 : Fld Z h0 o2 "com/example/satzung/satzung/validate/PlacePage" "lines" "[J" (.ref c2)) (B_c2 : Arf Z h0 c2 kc2 .long (1024 : Int32) fc2) (F_columns_o2 : Fld Z h0 o2 "com/example/satzung/satzung/validate/PlacePage" "columns" "[J" (.ref c3)) (B_c3 : Arf Z h0 c3 kc3 .long (1024 : Int32) fc3) (O_c : Ovr Z kc1 "java/lang/String") (hr1 : fc1 p3 = .null) (hr2 : fc2 p3 = (.long x1)) (hr3 : fc3 p3 = (.long x2)) (n_a1_a2 : a1 ≠ a2) (n_a1_a3 : a1 ≠ a3) (n_a2_a3 : a2 ≠ a3) (n_o0_a1 : o0 ≠ a1) (n_o0_a2 : o0 ≠ a2) (n_o0_a3 : o0 ≠ a3) (n_o2_a1 : o2 ≠ a1) (n_o2_a2 : o2 ≠ a2) (n_o2_a3 : o2 ≠ a3) (n_c1_a1 : c1 ≠ a1) (n_c2_a1 : c2 ≠ a1) (n_c3_a1 : c3 ≠ a1) (n_c1_a2 : c1 ≠ a2) (n_c2_a2 : c2 ≠ a2) (n_c3_a2 : c3 ≠ a2) (n_c1_a3 : c1 ≠ a3) (n_c2_a3 : c2 ≠ a3) (n_c3_a3 : c3 ≠ a3) (g_a1 : n0 ≤ a1) (g_a2 : n0 ≤ a2) (g_a3 : n0 ≤ a3) (hin_p1 : ¬ (p1 < 0 ∨ (1024 : Int32).toNatClampNeg ≤ p1.toNatClampNeg)) (hin_p3 : ¬ (p3 < 0 ∨ (1024 : Int32).toNatClampNeg ≤ p3.toNatClampNeg)) :
    MetFree l (⟨"com/example/satzung/satzung/validate/PlacePage", "set", "(ILcom/example/satzung/satzung/validate/PlacePage;I)V"⟩ : MethodName) (head1 (Jvm.Cond.code (⟨"com/example/satzung/satzung/validate/PlacePage", "set", "(ILcom/example/satzung/satzung/validate/PlacePage;I)V"⟩ : MethodName) prog_117_method_3_code 4 none :: ws) ({ frames := 0, cells := 0, slots := 0, locals := 0 } : Room)) (fun a U => a = #[(.ref o0), (.int p1), (.ref o2), (.int p3)] ∧ Z.Warmed39 U.vm ∧ U.heap = h0) (fun _ _ _ _ _ => True) (fun _ U o U' => ∃ v L, o = .returned v ∧ Q9dN Z o0 p1 o2 p3 x1 x2 a1 a2 a3 ka1 ka2 ka3 fa1 fa2 fa3 c1 c2 c3 kc1 kc2 kc3 fc1 fc2 fc3 h0 n0 v U'.heap L ∧ FrameEnd U o U' L ({ frames := 0, cells := 0, slots := 0, locals := 0 } : Room).cells ({ frames := 0, cells := 0, slots := 0, locals := 0 } : Room).slots) := by
  refine MetFree.of_bodySF (plainFor_of_name pn_9) hisR ?_
  intro p e s m args below meth c s₁ Bd hml0 hP hK
  obtain ⟨rfl, hZ, hh⟩ := hP
  have hx := Bd.exec
  have hby := Bd.bytes
  have hml : c.maxLocals = 4 := hml0
  have hown : s.vm.findClass "com/example/satzung/satzung/validate/PlacePage" = some m.cls := findClass_of_methodNamed Bd.named
  have hnm := (name_of_methodNamed Bd.named Bd.method).1
  have hrt := Bd.returns
  have hlk := Bd.notSynchronized
  have X0 : Stand p l e ({ frames := 0, cells := 0, slots := 0, locals := 0 } : Room) s m #[(.ref o0), (.int p1), (.ref o2), (.int p3)] below meth c s₁ [] 0 0 := Stand.of_body Bd
  have e0 : s₁.heap = h0 := by rw [← hh, Bd.state]; rfl
  have N0 := Fr.nil n0
  have lt_E_o0 : LT.lt (α := Nat) o0 h0.size := E_o0.lt
  have lt_F_entities_o0 : LT.lt (α := Nat) o0 h0.size := F_entities_o0.lt
  have lt_B_a1 : LT.lt (α := Nat) a1 h0.size := B_a1.lt
  have lt_F_lines_o0 : LT.lt (α := Nat) o0 h0.size := F_lines_o0.lt
  have lt_B_a2 : LT.lt (α := Nat) a2 h0.size := B_a2.lt
  have lt_F_columns_o0 : LT.lt (α := Nat) o0 h0.size := F_columns_o0.lt
  have lt_B_a3 : LT.lt (α := Nat) a3 h0.size := B_a3.lt
  have lt_E_o2 : LT.lt (α := Nat) o2 h0.size := E_o2.lt
  have lt_F_entities_o2 : LT.lt (α := Nat) o2 h0.size := F_entities_o2.lt
  have lt_B_c1 : LT.lt (α := Nat) c1 h0.size := B_c1.lt
  have lt_F_lines_o2 : LT.lt (α := Nat) o2 h0.size := F_lines_o2.lt
  have lt_B_c2 : LT.lt (α := Nat) c2 h0.size := B_c2.lt
  have lt_F_columns_o2 : LT.lt (α := Nat) o2 h0.size := F_columns_o2.lt
  have lt_B_c3 : LT.lt (α := Nat) c3 h0.size := B_c3.lt
  show Go p e below s 0 0 (Q9dN Z o0 p1 o2 p3 x1 x2 a1 a2 a3 ka1 ka2 ka3 fa1 fa2 fa3 c1 c2 c3 kc1 kc2 kc3 fc1 fc2 fc3 h0 n0) (s₁.setTop (entryFrame m #[(.ref o0), (.int p1), (.ref o2), (.int p3)] 4))
  rw [ef_9dN m o0 p1 o2 p3]
  refine Go.pre (st' := s₁.setTop (mkF m 1 #[sR o0, sI p1, sR o2, sI p3] [(.ref o0)])) (fun target kt => ?_) ?_
  · show Steps p.tables e below (s₁.setTop (mkF m 0 #[sR o0, sI p1, sR o2, sI p3] [])) _
    refine XS.aloadN X0.here hx rfl (hb hby d9_0) rfl rfl ?_
    exact kt
  obtain ⟨T1, X1, e1, st1⟩ := getF X0 hx hZ hown (host := "") (Or.inl (ow hw 37 rfl)) Via.refl e0 F_entities_o0 (g := (mkF m 1 #[sR o0, sI p1, sR o2, sI p3] [(.ref o0)])) rfl rfl (hb hby d9_1)
  refine Go.pre st1 ?_
  show Go p e below s _ _ _ (T1.setTop (mkF m 4 #[sR o0, sI p1, sR o2, sI p3] [(.ref a1)]))
  refine Go.pre (st' := T1.setTop (mkF m 6 #[sR o0, sI p1, sR o2, sI p3] [(.ref o2), (.int p1), (.ref a1)])) (fun target kt => ?_) ?_
  · show Steps p.tables e below (T1.setTop (mkF m 4 #[sR o0, sI p1, sR o2, sI p3] [(.ref a1)])) _
    refine XS.iloadN X1.here hx rfl (hb hby d9_4) rfl ?_
    refine XS.aloadN X1.here hx rfl (hb hby d9_5) rfl rfl ?_
    exact kt
  obtain ⟨T2, X2, e2, st2⟩ := getF X1 hx hZ hown (host := "") (Or.inl (ow hw 37 rfl)) Via.refl e1 F_entities_o2 (g := (mkF m 6 #[sR o0, sI p1, sR o2, sI p3] [(.ref o2), (.int p1), (.ref a1)])) rfl rfl (hb hby d9_6)
  refine Go.pre st2 ?_
  show Go p e below s _ _ _ (T2.setTop (mkF m 9 #[sR o0, sI p1, sR o2, sI p3] [(.ref c1), (.int p1), (.ref a1)]))
  refine Go.pre (st' := T2.setTop (mkF m 10 #[sR o0, sI p1, sR o2, sI p3] [(.int p3), (.ref c1), (.int p1), (.ref a1)])) (fun target kt => ?_) ?_
  · show Steps p.tables e below (T2.setTop (mkF m 9 #[sR o0, sI p1, sR o2, sI p3] [(.ref c1), (.int p1), (.ref a1)])) _
    refine XS.iloadN X2.here hx rfl (hb hby d9_9) rfl ?_
    exact kt
  obtain ⟨cl3, Ar3, q3, Sz3, Nn3, Hs3⟩ := id B_c1
  have in3 : ¬ (p3 < 0 ∨ cl3.slots.size ≤ (p3).toNatClampNeg) := by rw [Sz3]; exact hin_p3
  have at3 : cl3.slots[(p3).toNatClampNeg]? = some .null := (Hs3 _ in3).1.trans (congrArg some hr1)
  refine Go.pre (X2.aaload hx (j := p3) (v := .null) (by rw [e2]; exact Ar3.1) (State.isArrayOf_alike hZ.alike Ar3.2.1) rfl Ar3.2.2 in3 at3 (g := (mkF m 10 #[sR o0, sI p1, sR o2, sI p3] [(.int p3), (.ref c1), (.int p1), (.ref a1)])) rfl rfl (hb hby d9_10)) ?_
  show Go p e below s _ _ _ (T2.setTop (mkF m 11 #[sR o0, sI p1, sR o2, sI p3] [.null, (.int p1), (.ref a1)]))
  obtain ⟨cl4, Ar4, q4, Sz4, Nn4, Hs4⟩ := id B_a1
  have in4 : ¬ (p1 < 0 ∨ cl4.slots.size ≤ (p1).toNatClampNeg) := by rw [Sz4]; exact hin_p1
  obtain ⟨T4, h4, X4, e4, W4, st4⟩ := stR X2 hx hZ e2 Ar4 (j := p1) in4 rfl (Or.inl rfl) (g := (mkF m 11 #[sR o0, sI p1, sR o2, sI p3] [.null, (.int p1), (.ref a1)])) rfl rfl (hb hby d9_11)
  have sz4 : h0.size ≤ h4.size := (Keep.of_wr W4).1
  have V4 : Arf Z h4 a1 ka1 (.object "java/lang/String") (1024 : Int32) (own_upd fa1 p1 .null) := Arf.set Ar4 q4 Sz4 Nn4 Hs4 rfl in4 W4
  have N4 := Fr.snoc X4 N0 (by omega)
  refine Go.pre st4 ?_
  show Go p e below s _ _ _ (T4.setTop (mkF m 12 #[sR o0, sI p1, sR o2, sI p3] []))
  refine Go.pre (st' := T4.setTop (mkF m 13 #[sR o0, sI p1, sR o2, sI p3] [(.ref o0)])) (fun target kt => ?_) ?_
  · show Steps p.tables e below (T4.setTop (mkF m 12 #[sR o0, sI p1, sR o2, sI p3] [])) _
    refine XS.aloadN X4.here hx rfl (hb hby d9_12) rfl rfl ?_
    exact kt
  have Y5 : Fld Z h4 o0 "com/example/satzung/satzung/validate/PlacePage" "lines" "[J" (.ref a2) := (F_lines_o0.other W4 (Or.inl n_o0_a1))
  obtain ⟨T6, X6, e6, st6⟩ := getF X4 hx hZ hown (host := "") (Or.inl (ow hw 40 rfl)) Via.refl e4 Y5 (g := (mkF m 13 #[sR o0, sI p1, sR o2, sI p3] [(.ref o0)])) rfl rfl (hb hby d9_13)
  refine Go.pre st6 ?_
  show Go p e below s _ _ _ (T6.setTop (mkF m 16 #[sR o0, sI p1, sR o2, sI p3] [(.ref a2)]))
  refine Go.pre (st' := T6.setTop (mkF m 18 #[sR o0, sI p1, sR o2, sI p3] [(.ref o2), (.int p1), (.ref a2)])) (fun target kt => ?_) ?_
  · show Steps p.tables e below (T6.setTop (mkF m 16 #[sR o0, sI p1, sR o2, sI p3] [(.ref a2)])) _
    refine XS.iloadN X6.here hx rfl (hb hby d9_16) rfl ?_
    refine XS.aloadN X6.here hx rfl (hb hby d9_17) rfl rfl ?_
    exact kt
  have Y7 : Fld Z h4 o2 "com/example/satzung/satzung/validate/PlacePage" "lines" "[J" (.ref c2) := (F_lines_o2.other W4 (Or.inl n_o2_a1))
  obtain ⟨T8, X8, e8, st8⟩ := getF X6 hx hZ hown (host := "") (Or.inl (ow hw 40 rfl)) Via.refl e6 Y7 (g := (mkF m 18 #[sR o0, sI p1, sR o2, sI p3] [(.ref o2), (.int p1), (.ref a2)])) rfl rfl (hb hby d9_18)
  refine Go.pre st8 ?_
  show Go p e below s _ _ _ (T8.setTop (mkF m 21 #[sR o0, sI p1, sR o2, sI p3] [(.ref c2), (.int p1), (.ref a2)]))
  refine Go.pre (st' := T8.setTop (mkF m 22 #[sR o0, sI p1, sR o2, sI p3] [(.int p3), (.ref c2), (.int p1), (.ref a2)])) (fun target kt => ?_) ?_
  · show Steps p.tables e below (T8.setTop (mkF m 21 #[sR o0, sI p1, sR o2, sI p3] [(.ref c2), (.int p1), (.ref a2)])) _
    refine XS.iloadN X8.here hx rfl (hb hby d9_21) rfl ?_
    exact kt
  have Y9 : Arf Z h4 c2 kc2 .long (1024 : Int32) fc2 := (B_c2.other W4 n_c2_a1)
  obtain ⟨cl10, Ar10, q10, Sz10, Nn10, Hs10⟩ := id Y9
  have in10 : ¬ (p3 < 0 ∨ cl10.slots.size ≤ (p3).toNatClampNeg) := by rw [Sz10]; exact hin_p3
  have at10 : cl10.slots[(p3).toNatClampNeg]? = some (.long x1) := (Hs10 _ in10).1.trans (congrArg some hr2)
  refine Go.pre (X8.laload hx (j := p3) (v := (.long x1)) (by rw [e8]; exact Ar10.1) (State.isArrayOf_alike hZ.alike Ar10.2.1) Ar10.2.2 in10 at10 (g := (mkF m 22 #[sR o0, sI p1, sR o2, sI p3] [(.int p3), (.ref c2), (.int p1), (.ref a2)])) rfl rfl (hb hby d9_22)) ?_
  show Go p e below s _ _ _ (T8.setTop (mkF m 23 #[sR o0, sI p1, sR o2, sI p3] [(.long x1), (.int p1), (.ref a2)]))
  have Y11 : Arf Z h4 a2 ka2 .long (1024 : Int32) fa2 := (B_a2.other W4 (Ne.symm n_a1_a2))
  obtain ⟨cl12, Ar12, q12, Sz12, Nn12, Hs12⟩ := id Y11
  have in12 : ¬ (p1 < 0 ∨ cl12.slots.size ≤ (p1).toNatClampNeg) := by rw [Sz12]; exact hin_p1
  obtain ⟨T12, h12, X12, e12, W12, st12⟩ := stJ X8 hx hZ e8 Ar12 (j := p1) in12 (g := (mkF m 23 #[sR o0, sI p1, sR o2, sI p3] [(.long x1), (.int p1), (.ref a2)])) rfl rfl (hb hby d9_23)
  have sz12 : h4.size ≤ h12.size := (Keep.of_wr W12).1
  have V12 : Arf Z h12 a2 ka2 .long (1024 : Int32) (own_upd fa2 p1 (.long x1)) := Arf.set Ar12 q12 Sz12 Nn12 Hs12 rfl in12 W12
  have N12 := Fr.snoc X12 N4 (by omega)
  refine Go.pre st12 ?_
  show Go p e below s _ _ _ (T12.setTop (mkF m 24 #[sR o0, sI p1, sR o2, sI p3] []))
  refine Go.pre (st' := T12.setTop (mkF m 25 #[sR o0, sI p1, sR o2, sI p3] [(.ref o0)])) (fun target kt => ?_) ?_
  · show Steps p.tables e below (T12.setTop (mkF m 24 #[sR o0, sI p1, sR o2, sI p3] [])) _
    refine XS.aloadN X12.here hx rfl (hb hby d9_24) rfl rfl ?_
    exact kt
  have Y13 : Fld Z h12 o0 "com/example/satzung/satzung/validate/PlacePage" "columns" "[J" (.ref a3) := ((F_columns_o0.other W4 (Or.inl n_o0_a1)).other W12 (Or.inl n_o0_a2))
  obtain ⟨T14, X14, e14, st14⟩ := getF X12 hx hZ hown (host := "") (Or.inl (ow hw 42 rfl)) Via.refl e12 Y13 (g := (mkF m 25 #[sR o0, sI p1, sR o2, sI p3] [(.ref o0)])) rfl rfl (hb hby d9_25)
  refine Go.pre st14 ?_
  show Go p e below s _ _ _ (T14.setTop (mkF m 28 #[sR o0, sI p1, sR o2, sI p3] [(.ref a3)]))
  refine Go.pre (st' := T14.setTop (mkF m 30 #[sR o0, sI p1, sR o2, sI p3] [(.ref o2), (.int p1), (.ref a3)])) (fun target kt => ?_) ?_
  · show Steps p.tables e below (T14.setTop (mkF m 28 #[sR o0, sI p1, sR o2, sI p3] [(.ref a3)])) _
    refine XS.iloadN X14.here hx rfl (hb hby d9_28) rfl ?_
    refine XS.aloadN X14.here hx rfl (hb hby d9_29) rfl rfl ?_
    exact kt
  have Y15 : Fld Z h12 o2 "com/example/satzung/satzung/validate/PlacePage" "columns" "[J" (.ref c3) := ((F_columns_o2.other W4 (Or.inl n_o2_a1)).other W12 (Or.inl n_o2_a2))
  obtain ⟨T16, X16, e16, st16⟩ := getF X14 hx hZ hown (host := "") (Or.inl (ow hw 42 rfl)) Via.refl e14 Y15 (g := (mkF m 30 #[sR o0, sI p1, sR o2, sI p3] [(.ref o2), (.int p1), (.ref a3)])) rfl rfl (hb hby d9_30)
  refine Go.pre st16 ?_
  show Go p e below s _ _ _ (T16.setTop (mkF m 33 #[sR o0, sI p1, sR o2, sI p3] [(.ref c3), (.int p1), (.ref a3)]))
  refine Go.pre (st' := T16.setTop (mkF m 34 #[sR o0, sI p1, sR o2, sI p3] [(.int p3), (.ref c3), (.int p1), (.ref a3)])) (fun target kt => ?_) ?_
  · show Steps p.tables e below (T16.setTop (mkF m 33 #[sR o0, sI p1, sR o2, sI p3] [(.ref c3), (.int p1), (.ref a3)])) _
    refine XS.iloadN X16.here hx rfl (hb hby d9_33) rfl ?_
    exact kt
  have Y17 : Arf Z h12 c3 kc3 .long (1024 : Int32) fc3 := ((B_c3.other W4 n_c3_a1).other W12 n_c3_a2)
  obtain ⟨cl18, Ar18, q18, Sz18, Nn18, Hs18⟩ := id Y17
  have in18 : ¬ (p3 < 0 ∨ cl18.slots.size ≤ (p3).toNatClampNeg) := by rw [Sz18]; exact hin_p3
  have at18 : cl18.slots[(p3).toNatClampNeg]? = some (.long x2) := (Hs18 _ in18).1.trans (congrArg some hr3)
  refine Go.pre (X16.laload hx (j := p3) (v := (.long x2)) (by rw [e16]; exact Ar18.1) (State.isArrayOf_alike hZ.alike Ar18.2.1) Ar18.2.2 in18 at18 (g := (mkF m 34 #[sR o0, sI p1, sR o2, sI p3] [(.int p3), (.ref c3), (.int p1), (.ref a3)])) rfl rfl (hb hby d9_34)) ?_
  show Go p e below s _ _ _ (T16.setTop (mkF m 35 #[sR o0, sI p1, sR o2, sI p3] [(.long x2), (.int p1), (.ref a3)]))
  have Y19 : Arf Z h12 a3 ka3 .long (1024 : Int32) fa3 := ((B_a3.other W4 (Ne.symm n_a1_a3)).other W12 (Ne.symm n_a2_a3))
  obtain ⟨cl20, Ar20, q20, Sz20, Nn20, Hs20⟩ := id Y19
  have in20 : ¬ (p1 < 0 ∨ cl20.slots.size ≤ (p1).toNatClampNeg) := by rw [Sz20]; exact hin_p1
  obtain ⟨T20, h20, X20, e20, W20, st20⟩ := stJ X16 hx hZ e16 Ar20 (j := p1) in20 (g := (mkF m 35 #[sR o0, sI p1, sR o2, sI p3] [(.long x2), (.int p1), (.ref a3)])) rfl rfl (hb hby d9_35)
  have sz20 : h12.size ≤ h20.size := (Keep.of_wr W20).1
  have V20 : Arf Z h20 a3 ka3 .long (1024 : Int32) (own_upd fa3 p1 (.long x2)) := Arf.set Ar20 q20 Sz20 Nn20 Hs20 rfl in20 W20
  have N20 := Fr.snoc X20 N12 (by omega)
  refine Go.pre st20 ?_
  show Go p e below s _ _ _ (T20.setTop (mkF m 36 #[sR o0, sI p1, sR o2, sI p3] []))
  have Y21 : Arf Z h20 a1 ka1 (.object "java/lang/String") (1024 : Int32) (own_upd fa1 p1 .null) := ((V4.other W12 n_a1_a2).other W20 n_a1_a3)
  have Y22 : Arf Z h20 a2 ka2 .long (1024 : Int32) (own_upd fa2 p1 (.long x1)) := (V12.other W20 n_a2_a3)
  exact Go.ret0 X20 hx hlk hrt (hb hby d9_36) (by decide) (by decide) (by rw [e20]; exact ⟨rfl, N20, ((((Keep.refl h0 [a1, a2, a3]).wr W4 (Or.inl (List.mem_of_getElem? (i := 0) rfl))).wr W12 (Or.inl (List.mem_of_getElem? (i := 1) rfl))).wr W20 (Or.inl (List.mem_of_getElem? (i := 2) rfl))), ((((KF.refl Z h0 [(a1, (p1).toNatClampNeg), (a2, (p1).toNatClampNeg), (a3, (p1).toNatClampNeg)]).wr W4 (Or.inl (List.mem_of_getElem? (i := 0) rfl))).wr W12 (Or.inl (List.mem_of_getElem? (i := 1) rfl))).wr W20 (Or.inl (List.mem_of_getElem? (i := 2) rfl))), Y21, Y22, V20⟩)
/-! PlacePage.set (9sN) -/
theorem ef_9sN (m : MethodId) (o0 : Addr) (p1 : Int32) (o0 : Addr) (p3 : Int32) : entryFrame m #[(.ref o0), (.int p1), (.ref o0), (.int p3)] 4 = (mkF m 0 #[.val (.ref o0), .val (.int p1), .val (.ref o0), .val (.int p3)] []) := by first | (simp [entryFrame, mkF, argsToLocals, Value.category]; done) | rfl
def Q9sN (Z : State) (o0 : Addr) (p1 : Int32) (p3 : Int32) (x1 : Int64) (x2 : Int64) (a1 : Addr) (a2 : Addr) (a3 : Addr) (ka1 : ClassId) (ka2 : ClassId) (ka3 : ClassId) (fa1 : Int32 → Value) (fa2 : Int32 → Value) (fa3 : Int32 → Value) (h0 : Heap) (n0 : Nat) (v : Option Value) (h : Heap) (L : List Loc) : Prop := v = none ∧ Fr n0 L ∧ Keep h0 h [a1, a2, a3] ∧ KF Z h0 h [(a1, (p1).toNatClampNeg), (a2, (p1).toNatClampNeg), (a3, (p1).toNatClampNeg)] ∧ Arf Z h a1 ka1 (.object "java/lang/String") (1024 : Int32) (own_upd fa1 p1 .null) ∧ Arf Z h a2 ka2 .long (1024 : Int32) (own_upd fa2 p1 (.long x1)) ∧ Arf Z h a3 ka3 .long (1024 : Int32) (own_upd fa3 p1 (.long x2))
set_option maxRecDepth 65536 in
set_option maxHeartbeats 40000000 in
theorem rm9sN (l : Launch) (Z : State) (a0 : Array Value) (hw : ∀ d ∈ tables_1, d.before a0 Z = true) (ws : List Jvm.Cond) (o0 : Addr) (p1 : Int32) (p3 : Int32) (x1 : Int64) (x2 : Int64) (a1 : Addr) (a2 : Addr) (a3 : Addr) (ka1 : ClassId) (ka2 : ClassId) (ka3 : ClassId) (fa1 : Int32 → Value) (fa2 : Int32 → Value) (fa3 : Int32 → Value) (h0 : Heap) (n0 : Nat) (Z0 : n0 ≤ h0.size) (E_o0 : Exa Z h0 o0 "com/example/satzung/satzung/validate/PlacePage") (F_entities_o0 : Fld Z h0 o0 "com/example/satzung/satzung/validate/PlacePage" "entities" "[Ljava/lang/String;" (.ref a1)) (B_a1 : Arf Z h0 a1 ka1 (.object "java/lang/String") (1024 : Int32) fa1) (F_lines_o0 : Fld Z h0 o0 "com/example/satzung/satzung/validate/PlacePage" "lines" "[J" (.ref a2)) (B_a2 : Arf Z h0 a2 ka2 .long (1024 : Int32) fa2) (F_columns_o0 : Fld Z h0 o0 "com/example/satzung/satzung/validate/PlacePage" "columns" "[J" (.ref a3)) (B_a3 : Arf Z h0 a3 ka3 .long (1024 : Int32) fa3) (O_a : Ovr Z ka1 "java/lang/String") (hr1 : fa1 p3 = .null) (hr2 : fa2 p3 = (.long x1)) (hr3 : fa3 p3 = (.long x2)) (n_a1_a2 : a1 ≠ a2) (n_a1_a3 : a1 ≠ a3) (n_a2_a3 : a2 ≠ a3) (n_o0_a1 : o0 ≠ a1) (n_o0_a2 : o0 ≠ a2) (n_o0_a3 : o0 ≠ a3) (g_a1 : n0 ≤ a1) (g_a2 : n0 ≤ a2) (g_a3 : n0 ≤ a3) (hin_p1 : ¬ (p1 < 0 ∨ (1024 : Int32).toNatClampNeg ≤ p1.toNatClampNeg)) (hin_p3 : ¬ (p3 < 0 ∨ (1024 : Int32).toNatClampNeg ≤ p3.toNatClampNeg)) :
    MetFree l (⟨"com/example/satzung/satzung/validate/PlacePage", "set", "(ILcom/example/satzung/satzung/validate/PlacePage;I)V"⟩ : MethodName) (head1 (Jvm.Cond.code (⟨"com/example/satzung/satzung/validate/PlacePage", "set", "(ILcom/example/satzung/satzung/validate/PlacePage;I)V"⟩ : MethodName) prog_117_method_3_code 4 none :: ws) ({ frames := 0, cells := 0, slots := 0, locals := 0 } : Room)) (fun a U => a = #[(.ref o0), (.int p1), (.ref o0), (.int p3)] ∧ Z.Warmed39 U.vm ∧ U.heap = h0) (fun _ _ _ _ _ => True) (fun _ U o U' => ∃ v L, o = .returned v ∧ Q9sN Z o0 p1 p3 x1 x2 a1 a2 a3 ka1 ka2 ka3 fa1 fa2 fa3 h0 n0 v U'.heap L ∧ FrameEnd U o U' L ({ frames := 0, cells := 0, slots := 0, locals := 0 } : Room).cells ({ frames := 0, cells := 0, slots := 0, locals := 0 } : Room).slots) := by
  refine MetFree.of_bodySF (plainFor_of_name pn_9) hisR ?_
  intro p e s m args below meth c s₁ Bd hml0 hP hK
  obtain ⟨rfl, hZ, hh⟩ := hP
  have hx := Bd.exec
  have hby := Bd.bytes
  have hml : c.maxLocals = 4 := hml0
  have hown : s.vm.findClass "com/example/satzung/satzung/validate/PlacePage" = some m.cls := findClass_of_methodNamed Bd.named
  have hnm := (name_of_methodNamed Bd.named Bd.method).1
  have hrt := Bd.returns
  have hlk := Bd.notSynchronized
  have X0 : Stand p l e ({ frames := 0, cells := 0, slots := 0, locals := 0 } : Room) s m #[(.ref o0), (.int p1), (.ref o0), (.int p3)] below meth c s₁ [] 0 0 := Stand.of_body Bd
  have e0 : s₁.heap = h0 := by rw [← hh, Bd.state]; rfl
  have N0 := Fr.nil n0
  have lt_E_o0 : LT.lt (α := Nat) o0 h0.size := E_o0.lt
  have lt_F_entities_o0 : LT.lt (α := Nat) o0 h0.size := F_entities_o0.lt
  have lt_B_a1 : LT.lt (α := Nat) a1 h0.size := B_a1.lt
  have lt_F_lines_o0 : LT.lt (α := Nat) o0 h0.size := F_lines_o0.lt
  have lt_B_a2 : LT.lt (α := Nat) a2 h0.size := B_a2.lt
  have lt_F_columns_o0 : LT.lt (α := Nat) o0 h0.size := F_columns_o0.lt
  have lt_B_a3 : LT.lt (α := Nat) a3 h0.size := B_a3.lt
  show Go p e below s 0 0 (Q9sN Z o0 p1 p3 x1 x2 a1 a2 a3 ka1 ka2 ka3 fa1 fa2 fa3 h0 n0) (s₁.setTop (entryFrame m #[(.ref o0), (.int p1), (.ref o0), (.int p3)] 4))
  rw [ef_9sN m o0 p1 o0 p3]
  refine Go.pre (st' := s₁.setTop (mkF m 1 #[sR o0, sI p1, sR o0, sI p3] [(.ref o0)])) (fun target kt => ?_) ?_
  · show Steps p.tables e below (s₁.setTop (mkF m 0 #[sR o0, sI p1, sR o0, sI p3] [])) _
    refine XS.aloadN X0.here hx rfl (hb hby d9_0) rfl rfl ?_
    exact kt
  obtain ⟨T1, X1, e1, st1⟩ := getF X0 hx hZ hown (host := "") (Or.inl (ow hw 37 rfl)) Via.refl e0 F_entities_o0 (g := (mkF m 1 #[sR o0, sI p1, sR o0, sI p3] [(.ref o0)])) rfl rfl (hb hby d9_1)
  refine Go.pre st1 ?_
  show Go p e below s _ _ _ (T1.setTop (mkF m 4 #[sR o0, sI p1, sR o0, sI p3] [(.ref a1)]))
  refine Go.pre (st' := T1.setTop (mkF m 6 #[sR o0, sI p1, sR o0, sI p3] [(.ref o0), (.int p1), (.ref a1)])) (fun target kt => ?_) ?_
  · show Steps p.tables e below (T1.setTop (mkF m 4 #[sR o0, sI p1, sR o0, sI p3] [(.ref a1)])) _
    refine XS.iloadN X1.here hx rfl (hb hby d9_4) rfl ?_
    refine XS.aloadN X1.here hx rfl (hb hby d9_5) rfl rfl ?_
    exact kt
  obtain ⟨T2, X2, e2, st2⟩ := getF X1 hx hZ hown (host := "") (Or.inl (ow hw 37 rfl)) Via.refl e1 F_entities_o0 (g := (mkF m 6 #[sR o0, sI p1, sR o0, sI p3] [(.ref o0), (.int p1), (.ref a1)])) rfl rfl (hb hby d9_6)
  refine Go.pre st2 ?_
  show Go p e below s _ _ _ (T2.setTop (mkF m 9 #[sR o0, sI p1, sR o0, sI p3] [(.ref a1), (.int p1), (.ref a1)]))
  refine Go.pre (st' := T2.setTop (mkF m 10 #[sR o0, sI p1, sR o0, sI p3] [(.int p3), (.ref a1), (.int p1), (.ref a1)])) (fun target kt => ?_) ?_
  · show Steps p.tables e below (T2.setTop (mkF m 9 #[sR o0, sI p1, sR o0, sI p3] [(.ref a1), (.int p1), (.ref a1)])) _
    refine XS.iloadN X2.here hx rfl (hb hby d9_9) rfl ?_
    exact kt
  obtain ⟨cl3, Ar3, q3, Sz3, Nn3, Hs3⟩ := id B_a1
  have in3 : ¬ (p3 < 0 ∨ cl3.slots.size ≤ (p3).toNatClampNeg) := by rw [Sz3]; exact hin_p3
  have at3 : cl3.slots[(p3).toNatClampNeg]? = some .null := (Hs3 _ in3).1.trans (congrArg some hr1)
  refine Go.pre (X2.aaload hx (j := p3) (v := .null) (by rw [e2]; exact Ar3.1) (State.isArrayOf_alike hZ.alike Ar3.2.1) rfl Ar3.2.2 in3 at3 (g := (mkF m 10 #[sR o0, sI p1, sR o0, sI p3] [(.int p3), (.ref a1), (.int p1), (.ref a1)])) rfl rfl (hb hby d9_10)) ?_
  show Go p e below s _ _ _ (T2.setTop (mkF m 11 #[sR o0, sI p1, sR o0, sI p3] [.null, (.int p1), (.ref a1)]))
  obtain ⟨cl4, Ar4, q4, Sz4, Nn4, Hs4⟩ := id B_a1
  have in4 : ¬ (p1 < 0 ∨ cl4.slots.size ≤ (p1).toNatClampNeg) := by rw [Sz4]; exact hin_p1
  obtain ⟨T4, h4, X4, e4, W4, st4⟩ := stR X2 hx hZ e2 Ar4 (j := p1) in4 rfl (Or.inl rfl) (g := (mkF m 11 #[sR o0, sI p1, sR o0, sI p3] [.null, (.int p1), (.ref a1)])) rfl rfl (hb hby d9_11)
  have sz4 : h0.size ≤ h4.size := (Keep.of_wr W4).1
  have V4 : Arf Z h4 a1 ka1 (.object "java/lang/String") (1024 : Int32) (own_upd fa1 p1 .null) := Arf.set Ar4 q4 Sz4 Nn4 Hs4 rfl in4 W4
  have N4 := Fr.snoc X4 N0 (by omega)
  refine Go.pre st4 ?_
  show Go p e below s _ _ _ (T4.setTop (mkF m 12 #[sR o0, sI p1, sR o0, sI p3] []))
  refine Go.pre (st' := T4.setTop (mkF m 13 #[sR o0, sI p1, sR o0, sI p3] [(.ref o0)])) (fun target kt => ?_) ?_
  · show Steps p.tables e below (T4.setTop (mkF m 12 #[sR o0, sI p1, sR o0, sI p3] [])) _
    refine XS.aloadN X4.here hx rfl (hb hby d9_12) rfl rfl ?_
    exact kt
  have Y5 : Fld Z h4 o0 "com/example/satzung/satzung/validate/PlacePage" "lines" "[J" (.ref a2) := (F_lines_o0.other W4 (Or.inl n_o0_a1))
  obtain ⟨T6, X6, e6, st6⟩ := getF X4 hx hZ hown (host := "") (Or.inl (ow hw 40 rfl)) Via.refl e4 Y5 (g := (mkF m 13 #[sR o0, sI p1, sR o0, sI p3] [(.ref o0)])) rfl rfl (hb hby d9_13)
  refine Go.pre st6 ?_
  show Go p e below s _ _ _ (T6.setTop (mkF m 16 #[sR o0, sI p1, sR o0, sI p3] [(.ref a2)]))
  refine Go.pre (st' := T6.setTop (mkF m 18 #[sR o0, sI p1, sR o0, sI p3] [(.ref o0), (.int p1), (.ref a2)])) (fun target kt => ?_) ?_
  · show Steps p.tables e below (T6.setTop (mkF m 16 #[sR o0, sI p1, sR o0, sI p3] [(.ref a2)])) _
    refine XS.iloadN X6.here hx rfl (hb hby d9_16) rfl ?_
    refine XS.aloadN X6.here hx rfl (hb hby d9_17) rfl rfl ?_
    exact kt
  obtain ⟨T7, X7, e7, st7⟩ := getF X6 hx hZ hown (host := "") (Or.inl (ow hw 40 rfl)) Via.refl e6 Y5 (g := (mkF m 18 #[sR o0, sI p1, sR o0, sI p3] [(.ref o0), (.int p1), (.ref a2)])) rfl rfl (hb hby d9_18)
  refine Go.pre st7 ?_
  show Go p e below s _ _ _ (T7.setTop (mkF m 21 #[sR o0, sI p1, sR o0, sI p3] [(.ref a2), (.int p1), (.ref a2)]))
  refine Go.pre (st' := T7.setTop (mkF m 22 #[sR o0, sI p1, sR o0, sI p3] [(.int p3), (.ref a2), (.int p1), (.ref a2)])) (fun target kt => ?_) ?_
  · show Steps p.tables e below (T7.setTop (mkF m 21 #[sR o0, sI p1, sR o0, sI p3] [(.ref a2), (.int p1), (.ref a2)])) _
    refine XS.iloadN X7.here hx rfl (hb hby d9_21) rfl ?_
    exact kt
  have Y8 : Arf Z h4 a2 ka2 .long (1024 : Int32) fa2 := (B_a2.other W4 (Ne.symm n_a1_a2))
  obtain ⟨cl9, Ar9, q9, Sz9, Nn9, Hs9⟩ := id Y8
  have in9 : ¬ (p3 < 0 ∨ cl9.slots.size ≤ (p3).toNatClampNeg) := by rw [Sz9]; exact hin_p3
  have at9 : cl9.slots[(p3).toNatClampNeg]? = some (.long x1) := (Hs9 _ in9).1.trans (congrArg some hr2)
  refine Go.pre (X7.laload hx (j := p3) (v := (.long x1)) (by rw [e7]; exact Ar9.1) (State.isArrayOf_alike hZ.alike Ar9.2.1) Ar9.2.2 in9 at9 (g := (mkF m 22 #[sR o0, sI p1, sR o0, sI p3] [(.int p3), (.ref a2), (.int p1), (.ref a2)])) rfl rfl (hb hby d9_22)) ?_
  show Go p e below s _ _ _ (T7.setTop (mkF m 23 #[sR o0, sI p1, sR o0, sI p3] [(.long x1), (.int p1), (.ref a2)]))
  obtain ⟨cl10, Ar10, q10, Sz10, Nn10, Hs10⟩ := id Y8
  have in10 : ¬ (p1 < 0 ∨ cl10.slots.size ≤ (p1).toNatClampNeg) := by rw [Sz10]; exact hin_p1
  obtain ⟨T10, h10, X10, e10, W10, st10⟩ := stJ X7 hx hZ e7 Ar10 (j := p1) in10 (g := (mkF m 23 #[sR o0, sI p1, sR o0, sI p3] [(.long x1), (.int p1), (.ref a2)])) rfl rfl (hb hby d9_23)
  have sz10 : h4.size ≤ h10.size := (Keep.of_wr W10).1
  have V10 : Arf Z h10 a2 ka2 .long (1024 : Int32) (own_upd fa2 p1 (.long x1)) := Arf.set Ar10 q10 Sz10 Nn10 Hs10 rfl in10 W10
  have N10 := Fr.snoc X10 N4 (by omega)
  refine Go.pre st10 ?_
  show Go p e below s _ _ _ (T10.setTop (mkF m 24 #[sR o0, sI p1, sR o0, sI p3] []))
  refine Go.pre (st' := T10.setTop (mkF m 25 #[sR o0, sI p1, sR o0, sI p3] [(.ref o0)])) (fun target kt => ?_) ?_
  · show Steps p.tables e below (T10.setTop (mkF m 24 #[sR o0, sI p1, sR o0, sI p3] [])) _
    refine XS.aloadN X10.here hx rfl (hb hby d9_24) rfl rfl ?_
    exact kt
  have Y11 : Fld Z h10 o0 "com/example/satzung/satzung/validate/PlacePage" "columns" "[J" (.ref a3) := ((F_columns_o0.other W4 (Or.inl n_o0_a1)).other W10 (Or.inl n_o0_a2))
  obtain ⟨T12, X12, e12, st12⟩ := getF X10 hx hZ hown (host := "") (Or.inl (ow hw 42 rfl)) Via.refl e10 Y11 (g := (mkF m 25 #[sR o0, sI p1, sR o0, sI p3] [(.ref o0)])) rfl rfl (hb hby d9_25)
  refine Go.pre st12 ?_
  show Go p e below s _ _ _ (T12.setTop (mkF m 28 #[sR o0, sI p1, sR o0, sI p3] [(.ref a3)]))
  refine Go.pre (st' := T12.setTop (mkF m 30 #[sR o0, sI p1, sR o0, sI p3] [(.ref o0), (.int p1), (.ref a3)])) (fun target kt => ?_) ?_
  · show Steps p.tables e below (T12.setTop (mkF m 28 #[sR o0, sI p1, sR o0, sI p3] [(.ref a3)])) _
    refine XS.iloadN X12.here hx rfl (hb hby d9_28) rfl ?_
    refine XS.aloadN X12.here hx rfl (hb hby d9_29) rfl rfl ?_
    exact kt
  obtain ⟨T13, X13, e13, st13⟩ := getF X12 hx hZ hown (host := "") (Or.inl (ow hw 42 rfl)) Via.refl e12 Y11 (g := (mkF m 30 #[sR o0, sI p1, sR o0, sI p3] [(.ref o0), (.int p1), (.ref a3)])) rfl rfl (hb hby d9_30)
  refine Go.pre st13 ?_
  show Go p e below s _ _ _ (T13.setTop (mkF m 33 #[sR o0, sI p1, sR o0, sI p3] [(.ref a3), (.int p1), (.ref a3)]))
  refine Go.pre (st' := T13.setTop (mkF m 34 #[sR o0, sI p1, sR o0, sI p3] [(.int p3), (.ref a3), (.int p1), (.ref a3)])) (fun target kt => ?_) ?_
  · show Steps p.tables e below (T13.setTop (mkF m 33 #[sR o0, sI p1, sR o0, sI p3] [(.ref a3), (.int p1), (.ref a3)])) _
    refine XS.iloadN X13.here hx rfl (hb hby d9_33) rfl ?_
    exact kt
  have Y14 : Arf Z h10 a3 ka3 .long (1024 : Int32) fa3 := ((B_a3.other W4 (Ne.symm n_a1_a3)).other W10 (Ne.symm n_a2_a3))
  obtain ⟨cl15, Ar15, q15, Sz15, Nn15, Hs15⟩ := id Y14
  have in15 : ¬ (p3 < 0 ∨ cl15.slots.size ≤ (p3).toNatClampNeg) := by rw [Sz15]; exact hin_p3
  have at15 : cl15.slots[(p3).toNatClampNeg]? = some (.long x2) := (Hs15 _ in15).1.trans (congrArg some hr3)
  refine Go.pre (X13.laload hx (j := p3) (v := (.long x2)) (by rw [e13]; exact Ar15.1) (State.isArrayOf_alike hZ.alike Ar15.2.1) Ar15.2.2 in15 at15 (g := (mkF m 34 #[sR o0, sI p1, sR o0, sI p3] [(.int p3), (.ref a3), (.int p1), (.ref a3)])) rfl rfl (hb hby d9_34)) ?_
  show Go p e below s _ _ _ (T13.setTop (mkF m 35 #[sR o0, sI p1, sR o0, sI p3] [(.long x2), (.int p1), (.ref a3)]))
  obtain ⟨cl16, Ar16, q16, Sz16, Nn16, Hs16⟩ := id Y14
  have in16 : ¬ (p1 < 0 ∨ cl16.slots.size ≤ (p1).toNatClampNeg) := by rw [Sz16]; exact hin_p1
  obtain ⟨T16, h16, X16, e16, W16, st16⟩ := stJ X13 hx hZ e13 Ar16 (j := p1) in16 (g := (mkF m 35 #[sR o0, sI p1, sR o0, sI p3] [(.long x2), (.int p1), (.ref a3)])) rfl rfl (hb hby d9_35)
  have sz16 : h10.size ≤ h16.size := (Keep.of_wr W16).1
  have V16 : Arf Z h16 a3 ka3 .long (1024 : Int32) (own_upd fa3 p1 (.long x2)) := Arf.set Ar16 q16 Sz16 Nn16 Hs16 rfl in16 W16
  have N16 := Fr.snoc X16 N10 (by omega)
  refine Go.pre st16 ?_
  show Go p e below s _ _ _ (T16.setTop (mkF m 36 #[sR o0, sI p1, sR o0, sI p3] []))
  have Y17 : Arf Z h16 a1 ka1 (.object "java/lang/String") (1024 : Int32) (own_upd fa1 p1 .null) := ((V4.other W10 n_a1_a2).other W16 n_a1_a3)
  have Y18 : Arf Z h16 a2 ka2 .long (1024 : Int32) (own_upd fa2 p1 (.long x1)) := (V10.other W16 n_a2_a3)
  exact Go.ret0 X16 hx hlk hrt (hb hby d9_36) (by decide) (by decide) (by rw [e16]; exact ⟨rfl, N16, ((((Keep.refl h0 [a1, a2, a3]).wr W4 (Or.inl (List.mem_of_getElem? (i := 0) rfl))).wr W10 (Or.inl (List.mem_of_getElem? (i := 1) rfl))).wr W16 (Or.inl (List.mem_of_getElem? (i := 2) rfl))), ((((KF.refl Z h0 [(a1, (p1).toNatClampNeg), (a2, (p1).toNatClampNeg), (a3, (p1).toNatClampNeg)]).wr W4 (Or.inl (List.mem_of_getElem? (i := 0) rfl))).wr W10 (Or.inl (List.mem_of_getElem? (i := 1) rfl))).wr W16 (Or.inl (List.mem_of_getElem? (i := 2) rfl))), Y17, Y18, V16⟩)
/-! Location.equals (11N) -/
theorem d11_0 : decode prog_39_method_7_code 0 = .ok (.aload_n 1, 1) := by decide +kernel
theorem d11_1 : decode prog_39_method_7_code 1 = .ok (.instanceof 2, 3) := by decide +kernel
theorem d11_4 : decode prog_39_method_7_code 4 = .ok (.ifCond .eq 50, 3) := by decide +kernel
theorem d11_7 : decode prog_39_method_7_code 7 = .ok (.aload_n 1, 1) := by decide +kernel
theorem d11_8 : decode prog_39_method_7_code 8 = .ok (.checkcast 2, 3) := by decide +kernel
theorem d11_11 : decode prog_39_method_7_code 11 = .ok (.astore_n 2, 1) := by decide +kernel
theorem d11_12 : decode prog_39_method_7_code 12 = .ok (.aload_n 0, 1) := by decide +kernel
theorem d11_13 : decode prog_39_method_7_code 13 = .ok (.getfield 21, 3) := by decide +kernel
theorem d11_16 : decode prog_39_method_7_code 16 = .ok (.aload_n 2, 1) := by decide +kernel
theorem d11_17 : decode prog_39_method_7_code 17 = .ok (.getfield 21, 3) := by decide +kernel
theorem d11_20 : decode prog_39_method_7_code 20 = .ok (.invokestatic 48, 3) := by decide +kernel
theorem d11_23 : decode prog_39_method_7_code 23 = .ok (.ifCond .eq 31, 3) := by decide +kernel
theorem d11_26 : decode prog_39_method_7_code 26 = .ok (.aload_n 0, 1) := by decide +kernel
theorem d11_27 : decode prog_39_method_7_code 27 = .ok (.getfield 25, 3) := by decide +kernel
theorem d11_30 : decode prog_39_method_7_code 30 = .ok (.aload_n 2, 1) := by decide +kernel
theorem d11_31 : decode prog_39_method_7_code 31 = .ok (.getfield 25, 3) := by decide +kernel
theorem d11_34 : decode prog_39_method_7_code 34 = .ok (.lcmp, 1) := by decide +kernel
theorem d11_35 : decode prog_39_method_7_code 35 = .ok (.ifCond .ne 19, 3) := by decide +kernel
theorem d11_38 : decode prog_39_method_7_code 38 = .ok (.aload_n 0, 1) := by decide +kernel
theorem d11_39 : decode prog_39_method_7_code 39 = .ok (.getfield 29, 3) := by decide +kernel
theorem d11_42 : decode prog_39_method_7_code 42 = .ok (.aload_n 2, 1) := by decide +kernel
theorem d11_43 : decode prog_39_method_7_code 43 = .ok (.getfield 29, 3) := by decide +kernel
theorem d11_46 : decode prog_39_method_7_code 46 = .ok (.lcmp, 1) := by decide +kernel
theorem d11_47 : decode prog_39_method_7_code 47 = .ok (.ifCond .ne 7, 3) := by decide +kernel
theorem d11_50 : decode prog_39_method_7_code 50 = .ok (.iconst 1, 1) := by decide +kernel
theorem d11_51 : decode prog_39_method_7_code 51 = .ok (.goto 4, 3) := by decide +kernel
theorem d11_55 : decode prog_39_method_7_code 55 = .ok (.ireturn, 1) := by decide +kernel
theorem pn_11 : plainName "com/example/satzung/satzung/diagnostics/Location" = true := by first | (simp [plainName, overriddenIn]; done) | decide +kernel
theorem pd11N_0 : parseMethodDescriptor "(Ljava/lang/Object;Ljava/lang/Object;)Z" = some ⟨[(.object "java/lang/Object"), (.object "java/lang/Object")], some .boolean⟩ := by decide +kernel
theorem ef_11N (m : MethodId) (o0 : Addr) (o1 : Addr) : entryFrame m #[(.ref o0), (.ref o1)] 3 = (mkF m 0 #[.val (.ref o0), .val (.ref o1), .unset] []) := by first | (simp [entryFrame, mkF, argsToLocals, Value.category]; done) | rfl
def Q11N (Z : State) (o0 : Addr) (o1 : Addr) (x1 : Int64) (x2 : Int64) (h0 : Heap) (n0 : Nat) (v : Option Value) (h : Heap) (L : List Loc) : Prop := v = some (.int (1 : Int32)) ∧ Fr n0 L ∧ h = h0
set_option maxRecDepth 65536 in
set_option maxHeartbeats 40000000 in
theorem rm11N (l : Launch) (Z : State) (a0 : Array Value) (hw : ∀ d ∈ tables_1, d.before a0 Z = true) (ws : List Jvm.Cond) (o0 : Addr) (o1 : Addr) (x1 : Int64) (x2 : Int64) (h0 : Heap) (n0 : Nat) (Z0 : n0 ≤ h0.size) (E_o0 : Exa Z h0 o0 "com/example/satzung/satzung/diagnostics/Location") (F_ent_o0 : Fld Z h0 o0 "com/example/satzung/satzung/diagnostics/Location" "entity" "Ljava/lang/String;" .null) (F_line_o0 : Fld Z h0 o0 "com/example/satzung/satzung/diagnostics/Location" "line" "J" (.long x1)) (F_col_o0 : Fld Z h0 o0 "com/example/satzung/satzung/diagnostics/Location" "column" "J" (.long x2)) (E_o1 : Exa Z h0 o1 "com/example/satzung/satzung/diagnostics/Location") (F_ent_o1 : Fld Z h0 o1 "com/example/satzung/satzung/diagnostics/Location" "entity" "Ljava/lang/String;" .null) (F_line_o1 : Fld Z h0 o1 "com/example/satzung/satzung/diagnostics/Location" "line" "J" (.long x1)) (F_col_o1 : Fld Z h0 o1 "com/example/satzung/satzung/diagnostics/Location" "column" "J" (.long x2)) :
    MetFree l (⟨"com/example/satzung/satzung/diagnostics/Location", "equals", "(Ljava/lang/Object;)Z"⟩ : MethodName) (head1 (Jvm.Cond.code (⟨"com/example/satzung/satzung/diagnostics/Location", "equals", "(Ljava/lang/Object;)Z"⟩ : MethodName) prog_39_method_7_code 3 (some .boolean) :: ws) ({ frames := 1, cells := 0, slots := 0, locals := 13 } : Room)) (fun a U => a = #[(.ref o0), (.ref o1)] ∧ Z.Warmed39 U.vm ∧ U.heap = h0) (fun _ _ _ _ _ => True) (fun _ U o U' => ∃ v L, o = .returned v ∧ Q11N Z o0 o1 x1 x2 h0 n0 v U'.heap L ∧ FrameEnd U o U' L ({ frames := 1, cells := 0, slots := 0, locals := 13 } : Room).cells ({ frames := 1, cells := 0, slots := 0, locals := 13 } : Room).slots) := by
  refine MetFree.of_bodySF (plainFor_of_name pn_11) hisR ?_
  intro p e s m args below meth c s₁ Bd hml0 hP hK
  obtain ⟨rfl, hZ, hh⟩ := hP
  have hx := Bd.exec
  have hby := Bd.bytes
  have hml : c.maxLocals = 3 := hml0
  have hown : s.vm.findClass "com/example/satzung/satzung/diagnostics/Location" = some m.cls := findClass_of_methodNamed Bd.named
  have hnm := (name_of_methodNamed Bd.named Bd.method).1
  have hrt := Bd.returns
  have hlk := Bd.notSynchronized
  have X0 : Stand p l e ({ frames := 1, cells := 0, slots := 0, locals := 13 } : Room) s m #[(.ref o0), (.ref o1)] below meth c s₁ [] 0 0 := Stand.of_body Bd
  have e0 : s₁.heap = h0 := by rw [← hh, Bd.state]; rfl
  have N0 := Fr.nil n0
  have lt_E_o0 : LT.lt (α := Nat) o0 h0.size := E_o0.lt
  have lt_F_ent_o0 : LT.lt (α := Nat) o0 h0.size := F_ent_o0.lt
  have lt_F_line_o0 : LT.lt (α := Nat) o0 h0.size := F_line_o0.lt
  have lt_F_col_o0 : LT.lt (α := Nat) o0 h0.size := F_col_o0.lt
  have lt_E_o1 : LT.lt (α := Nat) o1 h0.size := E_o1.lt
  have lt_F_ent_o1 : LT.lt (α := Nat) o1 h0.size := F_ent_o1.lt
  have lt_F_line_o1 : LT.lt (α := Nat) o1 h0.size := F_line_o1.lt
  have lt_F_col_o1 : LT.lt (α := Nat) o1 h0.size := F_col_o1.lt
  show Go p e below s 0 0 (Q11N Z o0 o1 x1 x2 h0 n0) (s₁.setTop (entryFrame m #[(.ref o0), (.ref o1)] 3))
  rw [ef_11N m o0 o1]
  refine Go.pre (st' := s₁.setTop (mkF m 1 #[sR o0, sR o1, sU] [(.ref o1)])) (fun target kt => ?_) ?_
  · show Steps p.tables e below (s₁.setTop (mkF m 0 #[sR o0, sR o1, sU] [])) _
    refine XS.aloadN X0.here hx rfl (hb hby d11_0) rfl rfl ?_
    exact kt
  obtain ⟨T1, X1, e1, st1⟩ := instY X0 hx hZ hown (ow hw 82 rfl) e0 (Ins.self E_o1) (g := (mkF m 1 #[sR o0, sR o1, sU] [(.ref o1)])) rfl rfl (hb hby d11_1)
  refine Go.pre st1 ?_
  show Go p e below s _ _ _ (T1.setTop (mkF m 4 #[sR o0, sR o1, sU] [(.int (1 : Int32))]))
  refine Go.pre (st' := T1.setTop (mkF m 8 #[sR o0, sR o1, sU] [(.ref o1)])) (fun target kt => ?_) ?_
  · show Steps p.tables e below (T1.setTop (mkF m 4 #[sR o0, sR o1, sU] [(.int (1 : Int32))])) _
    refine XS.ifNo X1.here hx rfl (hb hby d11_4) rfl ((if0 _ _).trans (feq (by decide)).1) ?_
    refine XS.aloadN X1.here hx rfl (hb hby d11_7) rfl rfl ?_
    exact kt
  obtain ⟨T2, X2, e2, st2⟩ := castY X1 hx hZ hown (ow hw 82 rfl) e1 (Ins.self E_o1) (g := (mkF m 8 #[sR o0, sR o1, sU] [(.ref o1)])) rfl rfl (hb hby d11_8)
  refine Go.pre st2 ?_
  show Go p e below s _ _ _ (T2.setTop (mkF m 11 #[sR o0, sR o1, sU] [(.ref o1)]))
  refine Go.pre (st' := T2.setTop (mkF m 13 #[sR o0, sR o1, sR o1] [(.ref o0)])) (fun target kt => ?_) ?_
  · show Steps p.tables e below (T2.setTop (mkF m 11 #[sR o0, sR o1, sU] [(.ref o1)])) _
    refine XS.astoreN X2.here hx rfl (hb hby d11_11) rfl rfl (l' := #[.val (.ref o0), .val (.ref o1), .val (.ref o1)]) rfl ?_
    refine XS.aloadN X2.here hx rfl (hb hby d11_12) rfl rfl ?_
    exact kt
  obtain ⟨T3, X3, e3, st3⟩ := getF X2 hx hZ hown (host := "") (Or.inl (ow hw 22 rfl)) Via.refl e2 F_ent_o0 (g := (mkF m 13 #[sR o0, sR o1, sR o1] [(.ref o0)])) rfl rfl (hb hby d11_13)
  refine Go.pre st3 ?_
  show Go p e below s _ _ _ (T3.setTop (mkF m 16 #[sR o0, sR o1, sR o1] [.null]))
  refine Go.pre (st' := T3.setTop (mkF m 17 #[sR o0, sR o1, sR o1] [(.ref o1), .null])) (fun target kt => ?_) ?_
  · show Steps p.tables e below (T3.setTop (mkF m 16 #[sR o0, sR o1, sR o1] [.null])) _
    refine XS.aloadN X3.here hx rfl (hb hby d11_16) rfl rfl ?_
    exact kt
  obtain ⟨T4, X4, e4, st4⟩ := getF X3 hx hZ hown (host := "") (Or.inl (ow hw 22 rfl)) Via.refl e3 F_ent_o1 (g := (mkF m 17 #[sR o0, sR o1, sR o1] [(.ref o1), .null])) rfl rfl (hb hby d11_17)
  refine Go.pre st4 ?_
  show Go p e below s _ _ _ (T4.setTop (mkF m 20 #[sR o0, sR o1, sR o1] [.null, .null]))
  obtain ⟨_, _, ⟨T5, L5, k5, n5⟩, -, X5, ⟨Lc5, hQ5, l5, y5, z5⟩, st5⟩ := Jvm.LawKit.callS X4 hx (y := (⟨"java/util/Objects", "equals", "(Ljava/lang/Object;Ljava/lang/Object;)Z"⟩ : MethodName)) hown (mvT hZ (ow hw 84 rfl)) (mvT hZ (ow hw 85 rfl)) (mvT hZ (ow hw 86 rfl)) (mvT hZ (ow hw 87 rfl)) (by decide) (backOf (W := 0) (rm12N l Z a0 hw []  h0 n0 (by omega) ) hZ (ow hw 87 rfl) (ow hw 86 rfl) (by decide) (by decide)) (g := (mkF m 20 #[sR o0, sR o1, sR o1] [.null, .null])) rfl (by rw [hml]; rfl) (argsL := [.null, .null]) (rest := []) (lenOf pd11N_0 rfl) rfl (by show 2 * 0 + _ ≤ _; exact Nat.le_of_eq rfl) (hb hby d11_20) (fun vm₁ hvm => ⟨rfl, e4, (by decide : 0 + 0 ≤ _), (by decide : 0 + 0 ≤ _)⟩)
  dsimp only [Pt.U, Pt.locs, Pt.cells, Pt.slots] at X5 l5 y5 z5 st5 hQ5
  subst l5 y5 z5
  obtain ⟨rfl, N5q, e5⟩ := hQ5
  have N5 := Fr.app N0 N5q
  refine Go.pre st5 ?_
  show Go p e below s _ _ _ (T5.setTop (mkF m 23 #[sR o0, sR o1, sR o1] [(.int (1 : Int32))]))
  refine Go.pre (st' := T5.setTop (mkF m 27 #[sR o0, sR o1, sR o1] [(.ref o0)])) (fun target kt => ?_) ?_
  · show Steps p.tables e below (T5.setTop (mkF m 23 #[sR o0, sR o1, sR o1] [(.int (1 : Int32))])) _
    refine XS.ifNo X5.here hx rfl (hb hby d11_23) rfl ((if0 _ _).trans (feq (by decide)).1) ?_
    refine XS.aloadN X5.here hx rfl (hb hby d11_26) rfl rfl ?_
    exact kt
  obtain ⟨T6, X6, e6, st6⟩ := getF X5 hx hZ hown (host := "") (Or.inl (ow hw 24 rfl)) Via.refl e5 F_line_o0 (g := (mkF m 27 #[sR o0, sR o1, sR o1] [(.ref o0)])) rfl rfl (hb hby d11_27)
  refine Go.pre st6 ?_
  show Go p e below s _ _ _ (T6.setTop (mkF m 30 #[sR o0, sR o1, sR o1] [(.long x1)]))
  refine Go.pre (st' := T6.setTop (mkF m 31 #[sR o0, sR o1, sR o1] [(.ref o1), (.long x1)])) (fun target kt => ?_) ?_
  · show Steps p.tables e below (T6.setTop (mkF m 30 #[sR o0, sR o1, sR o1] [(.long x1)])) _
    refine XS.aloadN X6.here hx rfl (hb hby d11_30) rfl rfl ?_
    exact kt
  obtain ⟨T7, X7, e7, st7⟩ := getF X6 hx hZ hown (host := "") (Or.inl (ow hw 24 rfl)) Via.refl e6 F_line_o1 (g := (mkF m 31 #[sR o0, sR o1, sR o1] [(.ref o1), (.long x1)])) rfl rfl (hb hby d11_31)
  refine Go.pre st7 ?_
  show Go p e below s _ _ _ (T7.setTop (mkF m 34 #[sR o0, sR o1, sR o1] [(.long x1), (.long x1)]))
  refine Go.pre (st' := T7.setTop (mkF m 39 #[sR o0, sR o1, sR o1] [(.ref o0)])) (fun target kt => ?_) ?_
  · show Steps p.tables e below (T7.setTop (mkF m 34 #[sR o0, sR o1, sR o1] [(.long x1), (.long x1)])) _
    refine XS.lcmp X7.here hx rfl (hb hby d11_34) rfl ?_
    refine XS.ifNo X7.here hx rfl (hb hby d11_35) rfl ((if0 _ _).trans (teq ((lw_eq _ _).mpr rfl)).2) ?_
    refine XS.aloadN X7.here hx rfl (hb hby d11_38) rfl rfl ?_
    exact kt
  obtain ⟨T8, X8, e8, st8⟩ := getF X7 hx hZ hown (host := "") (Or.inl (ow hw 26 rfl)) Via.refl e7 F_col_o0 (g := (mkF m 39 #[sR o0, sR o1, sR o1] [(.ref o0)])) rfl rfl (hb hby d11_39)
  refine Go.pre st8 ?_
  show Go p e below s _ _ _ (T8.setTop (mkF m 42 #[sR o0, sR o1, sR o1] [(.long x2)]))
  refine Go.pre (st' := T8.setTop (mkF m 43 #[sR o0, sR o1, sR o1] [(.ref o1), (.long x2)])) (fun target kt => ?_) ?_
  · show Steps p.tables e below (T8.setTop (mkF m 42 #[sR o0, sR o1, sR o1] [(.long x2)])) _
    refine XS.aloadN X8.here hx rfl (hb hby d11_42) rfl rfl ?_
    exact kt
  obtain ⟨T9, X9, e9, st9⟩ := getF X8 hx hZ hown (host := "") (Or.inl (ow hw 26 rfl)) Via.refl e8 F_col_o1 (g := (mkF m 43 #[sR o0, sR o1, sR o1] [(.ref o1), (.long x2)])) rfl rfl (hb hby d11_43)
  refine Go.pre st9 ?_
  show Go p e below s _ _ _ (T9.setTop (mkF m 46 #[sR o0, sR o1, sR o1] [(.long x2), (.long x2)]))
  refine Go.pre (st' := T9.setTop (mkF m 55 #[sR o0, sR o1, sR o1] [(.int (1 : Int32))])) (fun target kt => ?_) ?_
  · show Steps p.tables e below (T9.setTop (mkF m 46 #[sR o0, sR o1, sR o1] [(.long x2), (.long x2)])) _
    refine XS.lcmp X9.here hx rfl (hb hby d11_46) rfl ?_
    refine XS.ifNo X9.here hx rfl (hb hby d11_47) rfl ((if0 _ _).trans (teq ((lw_eq _ _).mpr rfl)).2) ?_
    refine XS.iconst X9.here hx rfl (hb hby d11_50) ?_
    refine XS.goto X9.here hx rfl (pc0 := 51) (pc' := 55) rfl (hb hby d11_51) (by decide) (by decide) ?_
    exact kt
  exact Go.retN X9 hx hlk hrt (z' := (1 : Int32)) (by simp) (hb hby d11_55) rfl (by decide) (by decide) (by rw [e9]; exact ⟨rfl, N5, rfl⟩)
/-! PlacePage.set (5R) -/
theorem pd5R_0 : parseMethodDescriptor "()Ljava/lang/String;" = some ⟨[], some (.object "java/lang/String")⟩ := by decide +kernel
theorem pd5R_1 : parseMethodDescriptor "()J" = some ⟨[], some .long⟩ := by decide +kernel
theorem ef_5R (m : MethodId) (o0 : Addr) (p1 : Int32) (o2 : Addr) : entryFrame m #[(.ref o0), (.int p1), (.ref o2)] 3 = (mkF m 0 #[.val (.ref o0), .val (.int p1), .val (.ref o2)] []) := by first | (simp [entryFrame, mkF, argsToLocals, Value.category]; done) | rfl
def Q5R (Z : State) (o0 : Addr) (p1 : Int32) (o2 : Addr) (r : Addr) (x1 : Int64) (x2 : Int64) (a1 : Addr) (a2 : Addr) (a3 : Addr) (ka1 : ClassId) (ka2 : ClassId) (ka3 : ClassId) (fa1 : Int32 → Value) (fa2 : Int32 → Value) (fa3 : Int32 → Value) (h0 : Heap) (n0 : Nat) (v : Option Value) (h : Heap) (L : List Loc) : Prop := v = none ∧ Fr n0 L ∧ Keep h0 h [a1, a2, a3] ∧ KF Z h0 h [(a1, (p1).toNatClampNeg), (a2, (p1).toNatClampNeg), (a3, (p1).toNatClampNeg)] ∧ Arf Z h a1 ka1 (.object "java/lang/String") (1024 : Int32) (own_upd fa1 p1 (.ref r)) ∧ Arf Z h a2 ka2 .long (1024 : Int32) (own_upd fa2 p1 (.long x1)) ∧ Arf Z h a3 ka3 .long (1024 : Int32) (own_upd fa3 p1 (.long x2))
set_option maxRecDepth 65536 in
set_option maxHeartbeats 40000000 in
theorem rm5R (l : Launch) (Z : State) (a0 : Array Value) (hw : ∀ d ∈ tables_1, d.before a0 Z = true) (ws : List Jvm.Cond) (o0 : Addr) (p1 : Int32) (o2 : Addr) (r : Addr) (x1 : Int64) (x2 : Int64) (a1 : Addr) (a2 : Addr) (a3 : Addr) (ka1 : ClassId) (ka2 : ClassId) (ka3 : ClassId) (fa1 : Int32 → Value) (fa2 : Int32 → Value) (fa3 : Int32 → Value) (h0 : Heap) (n0 : Nat) (Z0 : n0 ≤ h0.size) (E_o0 : Exa Z h0 o0 "com/example/satzung/satzung/validate/PlacePage") (F_entities_o0 : Fld Z h0 o0 "com/example/satzung/satzung/validate/PlacePage" "entities" "[Ljava/lang/String;" (.ref a1)) (B_a1 : Arf Z h0 a1 ka1 (.object "java/lang/String") (1024 : Int32) fa1) (F_lines_o0 : Fld Z h0 o0 "com/example/satzung/satzung/validate/PlacePage" "lines" "[J" (.ref a2)) (B_a2 : Arf Z h0 a2 ka2 .long (1024 : Int32) fa2) (F_columns_o0 : Fld Z h0 o0 "com/example/satzung/satzung/validate/PlacePage" "columns" "[J" (.ref a3)) (B_a3 : Arf Z h0 a3 ka3 .long (1024 : Int32) fa3) (O_a : Ovr Z ka1 "java/lang/String") (E_o2 : Exa Z h0 o2 "com/example/satzung/satzung/diagnostics/Location") (F_ent_o2 : Fld Z h0 o2 "com/example/satzung/satzung/diagnostics/Location" "entity" "Ljava/lang/String;" (.ref r)) (F_line_o2 : Fld Z h0 o2 "com/example/satzung/satzung/diagnostics/Location" "line" "J" (.long x1)) (F_col_o2 : Fld Z h0 o2 "com/example/satzung/satzung/diagnostics/Location" "column" "J" (.long x2)) (E_r : Exa Z h0 r "java/lang/String") (n_a1_a2 : a1 ≠ a2) (n_a1_a3 : a1 ≠ a3) (n_a2_a3 : a2 ≠ a3) (n_o0_a1 : o0 ≠ a1) (n_o0_a2 : o0 ≠ a2) (n_o0_a3 : o0 ≠ a3) (n_o2_a1 : o2 ≠ a1) (n_o2_a2 : o2 ≠ a2) (n_o2_a3 : o2 ≠ a3) (g_a1 : n0 ≤ a1) (g_a2 : n0 ≤ a2) (g_a3 : n0 ≤ a3) (hin_p1 : ¬ (p1 < 0 ∨ (1024 : Int32).toNatClampNeg ≤ p1.toNatClampNeg)) :
    MetFree l (⟨"com/example/satzung/satzung/validate/PlacePage", "set", "(ILcom/example/satzung/satzung/diagnostics/Location;)V"⟩ : MethodName) (head1 (Jvm.Cond.code (⟨"com/example/satzung/satzung/validate/PlacePage", "set", "(ILcom/example/satzung/satzung/diagnostics/Location;)V"⟩ : MethodName) prog_117_method_2_code 3 none :: ws) ({ frames := 1, cells := 0, slots := 0, locals := 14 } : Room)) (fun a U => a = #[(.ref o0), (.int p1), (.ref o2)] ∧ Z.Warmed39 U.vm ∧ U.heap = h0) (fun _ _ _ _ _ => True) (fun _ U o U' => ∃ v L, o = .returned v ∧ Q5R Z o0 p1 o2 r x1 x2 a1 a2 a3 ka1 ka2 ka3 fa1 fa2 fa3 h0 n0 v U'.heap L ∧ FrameEnd U o U' L ({ frames := 1, cells := 0, slots := 0, locals := 14 } : Room).cells ({ frames := 1, cells := 0, slots := 0, locals := 14 } : Room).slots) := by
  refine MetFree.of_bodySF (plainFor_of_name pn_5) hisR ?_
  intro p e s m args below meth c s₁ Bd hml0 hP hK
  obtain ⟨rfl, hZ, hh⟩ := hP
  have hx := Bd.exec
  have hby := Bd.bytes
  have hml : c.maxLocals = 3 := hml0
  have hown : s.vm.findClass "com/example/satzung/satzung/validate/PlacePage" = some m.cls := findClass_of_methodNamed Bd.named
  have hnm := (name_of_methodNamed Bd.named Bd.method).1
  have hrt := Bd.returns
  have hlk := Bd.notSynchronized
  have X0 : Stand p l e ({ frames := 1, cells := 0, slots := 0, locals := 14 } : Room) s m #[(.ref o0), (.int p1), (.ref o2)] below meth c s₁ [] 0 0 := Stand.of_body Bd
  have e0 : s₁.heap = h0 := by rw [← hh, Bd.state]; rfl
  have N0 := Fr.nil n0
  have lt_E_o0 : LT.lt (α := Nat) o0 h0.size := E_o0.lt
  have lt_F_entities_o0 : LT.lt (α := Nat) o0 h0.size := F_entities_o0.lt
  have lt_B_a1 : LT.lt (α := Nat) a1 h0.size := B_a1.lt
  have lt_F_lines_o0 : LT.lt (α := Nat) o0 h0.size := F_lines_o0.lt
  have lt_B_a2 : LT.lt (α := Nat) a2 h0.size := B_a2.lt
  have lt_F_columns_o0 : LT.lt (α := Nat) o0 h0.size := F_columns_o0.lt
  have lt_B_a3 : LT.lt (α := Nat) a3 h0.size := B_a3.lt
  have lt_E_o2 : LT.lt (α := Nat) o2 h0.size := E_o2.lt
  have lt_F_ent_o2 : LT.lt (α := Nat) o2 h0.size := F_ent_o2.lt
  have lt_F_line_o2 : LT.lt (α := Nat) o2 h0.size := F_line_o2.lt
  have lt_F_col_o2 : LT.lt (α := Nat) o2 h0.size := F_col_o2.lt
  have lt_E_r : LT.lt (α := Nat) r h0.size := E_r.lt
  show Go p e below s 0 0 (Q5R Z o0 p1 o2 r x1 x2 a1 a2 a3 ka1 ka2 ka3 fa1 fa2 fa3 h0 n0) (s₁.setTop (entryFrame m #[(.ref o0), (.int p1), (.ref o2)] 3))
  rw [ef_5R m o0 p1 o2]
  refine Go.pre (st' := s₁.setTop (mkF m 1 #[sR o0, sI p1, sR o2] [(.ref o0)])) (fun target kt => ?_) ?_
  · show Steps p.tables e below (s₁.setTop (mkF m 0 #[sR o0, sI p1, sR o2] [])) _
    refine XS.aloadN X0.here hx rfl (hb hby d5_0) rfl rfl ?_
    exact kt
  obtain ⟨T1, X1, e1, st1⟩ := getF X0 hx hZ hown (host := "") (Or.inl (ow hw 37 rfl)) Via.refl e0 F_entities_o0 (g := (mkF m 1 #[sR o0, sI p1, sR o2] [(.ref o0)])) rfl rfl (hb hby d5_1)
  refine Go.pre st1 ?_
  show Go p e below s _ _ _ (T1.setTop (mkF m 4 #[sR o0, sI p1, sR o2] [(.ref a1)]))
  refine Go.pre (st' := T1.setTop (mkF m 6 #[sR o0, sI p1, sR o2] [(.ref o2), (.int p1), (.ref a1)])) (fun target kt => ?_) ?_
  · show Steps p.tables e below (T1.setTop (mkF m 4 #[sR o0, sI p1, sR o2] [(.ref a1)])) _
    refine XS.iloadN X1.here hx rfl (hb hby d5_4) rfl ?_
    refine XS.aloadN X1.here hx rfl (hb hby d5_5) rfl rfl ?_
    exact kt
  obtain ⟨cq2, kq2, q2a, q2b, q2c⟩ := isOf hZ e1 E_o2
  obtain ⟨_, _, ⟨T2, L2, k2, n2⟩, -, X2, ⟨Lc2, hQ2, l2, y2, z2⟩, st2⟩ := X1.virtualBack hx (y := (⟨"com/example/satzung/satzung/diagnostics/Location", "entity", "()Ljava/lang/String;"⟩ : MethodName)) (z := (⟨"com/example/satzung/satzung/diagnostics/Location", "entity", "()Ljava/lang/String;"⟩ : MethodName)) hown (mvT hZ (ow hw 49 rfl)) (mvT hZ (ow hw 50 rfl)) (notFace_of_selects (args := #[]) (mvT hZ (ow hw 52 rfl))) (mvT hZ (ow hw 52 rfl)) (mvT hZ (ow hw 51 rfl)) (by decide) (backOf (W := 2) (rm6R l Z a0 hw [] o2 r h0 n0 (by omega) F_ent_o2) hZ (ow hw 53 rfl) (ow hw 15 rfl) (by decide) (by decide)) q2a q2c (g := (mkF m 6 #[sR o0, sI p1, sR o2] [(.ref o2), (.int p1), (.ref a1)])) rfl (by rw [hml]; rfl) (Steps.refl _) (argsL := []) (rest := [(.int p1), (.ref a1)]) (lenOf pd5R_0 rfl) rfl (by show 2 * 0 + _ ≤ _; exact Nat.le_of_eq rfl) (hb hby d5_6) (fun vm₁ hvm => ⟨rfl, e1, (by decide : 0 + 0 ≤ _), (by decide : 0 + 0 ≤ _)⟩)
  dsimp only [Pt.U, Pt.locs, Pt.cells, Pt.slots] at X2 l2 y2 z2 st2 hQ2
  subst l2 y2 z2
  obtain ⟨rfl, N2q, e2⟩ := hQ2
  have N2 := Fr.app N0 N2q
  refine Go.trans st2 ?_
  show Go p e below s _ _ _ (T2.setTop (mkF m 9 #[sR o0, sI p1, sR o2] [(.ref r), (.int p1), (.ref a1)]))
  obtain ⟨cl3, Ar3, q3, Sz3, Nn3, Hs3⟩ := id B_a1
  have in3 : ¬ (p1 < 0 ∨ cl3.slots.size ≤ (p1).toNatClampNeg) := by rw [Sz3]; exact hin_p1
  obtain ⟨T3, h3, X3, e3, W3, st3⟩ := stR X2 hx hZ e2 Ar3 (j := p1) in3 rfl (Sto.ofV Ar3 q3 O_a (Ins.self E_r)) (g := (mkF m 9 #[sR o0, sI p1, sR o2] [(.ref r), (.int p1), (.ref a1)])) rfl rfl (hb hby d5_9)
  have sz3 : h0.size ≤ h3.size := (Keep.of_wr W3).1
  have V3 : Arf Z h3 a1 ka1 (.object "java/lang/String") (1024 : Int32) (own_upd fa1 p1 (.ref r)) := Arf.set Ar3 q3 Sz3 Nn3 Hs3 rfl in3 W3
  have N3 := Fr.snoc X3 N2 (by omega)
  refine Go.pre st3 ?_
  show Go p e below s _ _ _ (T3.setTop (mkF m 10 #[sR o0, sI p1, sR o2] []))
  refine Go.pre (st' := T3.setTop (mkF m 11 #[sR o0, sI p1, sR o2] [(.ref o0)])) (fun target kt => ?_) ?_
  · show Steps p.tables e below (T3.setTop (mkF m 10 #[sR o0, sI p1, sR o2] [])) _
    refine XS.aloadN X3.here hx rfl (hb hby d5_10) rfl rfl ?_
    exact kt
  have Y4 : Fld Z h3 o0 "com/example/satzung/satzung/validate/PlacePage" "lines" "[J" (.ref a2) := (F_lines_o0.other W3 (Or.inl n_o0_a1))
  obtain ⟨T5, X5, e5, st5⟩ := getF X3 hx hZ hown (host := "") (Or.inl (ow hw 40 rfl)) Via.refl e3 Y4 (g := (mkF m 11 #[sR o0, sI p1, sR o2] [(.ref o0)])) rfl rfl (hb hby d5_11)
  refine Go.pre st5 ?_
  show Go p e below s _ _ _ (T5.setTop (mkF m 14 #[sR o0, sI p1, sR o2] [(.ref a2)]))
  refine Go.pre (st' := T5.setTop (mkF m 16 #[sR o0, sI p1, sR o2] [(.ref o2), (.int p1), (.ref a2)])) (fun target kt => ?_) ?_
  · show Steps p.tables e below (T5.setTop (mkF m 14 #[sR o0, sI p1, sR o2] [(.ref a2)])) _
    refine XS.iloadN X5.here hx rfl (hb hby d5_14) rfl ?_
    refine XS.aloadN X5.here hx rfl (hb hby d5_15) rfl rfl ?_
    exact kt
  have Y7 : Fld Z h3 o2 "com/example/satzung/satzung/diagnostics/Location" "line" "J" (.long x1) := (F_line_o2.other W3 (Or.inl n_o2_a1))
  have Y8 : Exa Z h3 o2 "com/example/satzung/satzung/diagnostics/Location" := (E_o2.wr W3)
  obtain ⟨cq6, kq6, q6a, q6b, q6c⟩ := isOf hZ e5 Y8
  obtain ⟨_, _, ⟨T6, L6, k6, n6⟩, -, X6, ⟨Lc6, hQ6, l6, y6, z6⟩, st6⟩ := X5.virtualBack hx (y := (⟨"com/example/satzung/satzung/diagnostics/Location", "line", "()J"⟩ : MethodName)) (z := (⟨"com/example/satzung/satzung/diagnostics/Location", "line", "()J"⟩ : MethodName)) hown (mvT hZ (ow hw 55 rfl)) (mvT hZ (ow hw 56 rfl)) (notFace_of_selects (args := #[]) (mvT hZ (ow hw 58 rfl))) (mvT hZ (ow hw 58 rfl)) (mvT hZ (ow hw 57 rfl)) (by decide) (backOf (W := 2) (rm7 l Z a0 hw [] o2 x1 h3 n0 (by omega) Y7) hZ (ow hw 59 rfl) (ow hw 15 rfl) (by decide) (by decide)) q6a q6c (g := (mkF m 16 #[sR o0, sI p1, sR o2] [(.ref o2), (.int p1), (.ref a2)])) rfl (by rw [hml]; rfl) (Steps.refl _) (argsL := []) (rest := [(.int p1), (.ref a2)]) (lenOf pd5R_1 rfl) rfl (by show 2 * 0 + _ ≤ _; exact Nat.le_of_eq rfl) (hb hby d5_16) (fun vm₁ hvm => ⟨rfl, e5, (by decide : 0 + 0 ≤ _), (by decide : 0 + 0 ≤ _)⟩)
  dsimp only [Pt.U, Pt.locs, Pt.cells, Pt.slots] at X6 l6 y6 z6 st6 hQ6
  subst l6 y6 z6
  obtain ⟨rfl, N6q, e6⟩ := hQ6
  have N6 := Fr.app N3 N6q
  refine Go.trans st6 ?_
  show Go p e below s _ _ _ (T6.setTop (mkF m 19 #[sR o0, sI p1, sR o2] [(.long x1), (.int p1), (.ref a2)]))
  have Y9 : Arf Z h3 a2 ka2 .long (1024 : Int32) fa2 := (B_a2.other W3 (Ne.symm n_a1_a2))
  obtain ⟨cl10, Ar10, q10, Sz10, Nn10, Hs10⟩ := id Y9
  have in10 : ¬ (p1 < 0 ∨ cl10.slots.size ≤ (p1).toNatClampNeg) := by rw [Sz10]; exact hin_p1
  obtain ⟨T10, h10, X10, e10, W10, st10⟩ := stJ X6 hx hZ e6 Ar10 (j := p1) in10 (g := (mkF m 19 #[sR o0, sI p1, sR o2] [(.long x1), (.int p1), (.ref a2)])) rfl rfl (hb hby d5_19)
  have sz10 : h3.size ≤ h10.size := (Keep.of_wr W10).1
  have V10 : Arf Z h10 a2 ka2 .long (1024 : Int32) (own_upd fa2 p1 (.long x1)) := Arf.set Ar10 q10 Sz10 Nn10 Hs10 rfl in10 W10
  have N10 := Fr.snoc X10 N6 (by omega)
  refine Go.pre st10 ?_
  show Go p e below s _ _ _ (T10.setTop (mkF m 20 #[sR o0, sI p1, sR o2] []))
  refine Go.pre (st' := T10.setTop (mkF m 21 #[sR o0, sI p1, sR o2] [(.ref o0)])) (fun target kt => ?_) ?_
  · show Steps p.tables e below (T10.setTop (mkF m 20 #[sR o0, sI p1, sR o2] [])) _
    refine XS.aloadN X10.here hx rfl (hb hby d5_20) rfl rfl ?_
    exact kt
  have Y11 : Fld Z h10 o0 "com/example/satzung/satzung/validate/PlacePage" "columns" "[J" (.ref a3) := ((F_columns_o0.other W3 (Or.inl n_o0_a1)).other W10 (Or.inl n_o0_a2))
  obtain ⟨T12, X12, e12, st12⟩ := getF X10 hx hZ hown (host := "") (Or.inl (ow hw 42 rfl)) Via.refl e10 Y11 (g := (mkF m 21 #[sR o0, sI p1, sR o2] [(.ref o0)])) rfl rfl (hb hby d5_21)
  refine Go.pre st12 ?_
  show Go p e below s _ _ _ (T12.setTop (mkF m 24 #[sR o0, sI p1, sR o2] [(.ref a3)]))
  refine Go.pre (st' := T12.setTop (mkF m 26 #[sR o0, sI p1, sR o2] [(.ref o2), (.int p1), (.ref a3)])) (fun target kt => ?_) ?_
  · show Steps p.tables e below (T12.setTop (mkF m 24 #[sR o0, sI p1, sR o2] [(.ref a3)])) _
    refine XS.iloadN X12.here hx rfl (hb hby d5_24) rfl ?_
    refine XS.aloadN X12.here hx rfl (hb hby d5_25) rfl rfl ?_
    exact kt
  have Y14 : Fld Z h10 o2 "com/example/satzung/satzung/diagnostics/Location" "column" "J" (.long x2) := ((F_col_o2.other W3 (Or.inl n_o2_a1)).other W10 (Or.inl n_o2_a2))
  have Y15 : Exa Z h10 o2 "com/example/satzung/satzung/diagnostics/Location" := (Y8.wr W10)
  obtain ⟨cq13, kq13, q13a, q13b, q13c⟩ := isOf hZ e12 Y15
  obtain ⟨_, _, ⟨T13, L13, k13, n13⟩, -, X13, ⟨Lc13, hQ13, l13, y13, z13⟩, st13⟩ := X12.virtualBack hx (y := (⟨"com/example/satzung/satzung/diagnostics/Location", "column", "()J"⟩ : MethodName)) (z := (⟨"com/example/satzung/satzung/diagnostics/Location", "column", "()J"⟩ : MethodName)) hown (mvT hZ (ow hw 60 rfl)) (mvT hZ (ow hw 61 rfl)) (notFace_of_selects (args := #[]) (mvT hZ (ow hw 63 rfl))) (mvT hZ (ow hw 63 rfl)) (mvT hZ (ow hw 62 rfl)) (by decide) (backOf (W := 2) (rm8 l Z a0 hw [] o2 x2 h10 n0 (by omega) Y14) hZ (ow hw 64 rfl) (ow hw 15 rfl) (by decide) (by decide)) q13a q13c (g := (mkF m 26 #[sR o0, sI p1, sR o2] [(.ref o2), (.int p1), (.ref a3)])) rfl (by rw [hml]; rfl) (Steps.refl _) (argsL := []) (rest := [(.int p1), (.ref a3)]) (lenOf pd5R_1 rfl) rfl (by show 2 * 0 + _ ≤ _; exact Nat.le_of_eq rfl) (hb hby d5_26) (fun vm₁ hvm => ⟨rfl, e12, (by decide : 0 + 0 ≤ _), (by decide : 0 + 0 ≤ _)⟩)
  dsimp only [Pt.U, Pt.locs, Pt.cells, Pt.slots] at X13 l13 y13 z13 st13 hQ13
  subst l13 y13 z13
  obtain ⟨rfl, N13q, e13⟩ := hQ13
  have N13 := Fr.app N10 N13q
  refine Go.trans st13 ?_
  show Go p e below s _ _ _ (T13.setTop (mkF m 29 #[sR o0, sI p1, sR o2] [(.long x2), (.int p1), (.ref a3)]))
  have Y16 : Arf Z h10 a3 ka3 .long (1024 : Int32) fa3 := ((B_a3.other W3 (Ne.symm n_a1_a3)).other W10 (Ne.symm n_a2_a3))
  obtain ⟨cl17, Ar17, q17, Sz17, Nn17, Hs17⟩ := id Y16
  have in17 : ¬ (p1 < 0 ∨ cl17.slots.size ≤ (p1).toNatClampNeg) := by rw [Sz17]; exact hin_p1
  obtain ⟨T17, h17, X17, e17, W17, st17⟩ := stJ X13 hx hZ e13 Ar17 (j := p1) in17 (g := (mkF m 29 #[sR o0, sI p1, sR o2] [(.long x2), (.int p1), (.ref a3)])) rfl rfl (hb hby d5_29)
  have sz17 : h10.size ≤ h17.size := (Keep.of_wr W17).1
  have V17 : Arf Z h17 a3 ka3 .long (1024 : Int32) (own_upd fa3 p1 (.long x2)) := Arf.set Ar17 q17 Sz17 Nn17 Hs17 rfl in17 W17
  have N17 := Fr.snoc X17 N13 (by omega)
  refine Go.pre st17 ?_
  show Go p e below s _ _ _ (T17.setTop (mkF m 30 #[sR o0, sI p1, sR o2] []))
  have Y18 : Arf Z h17 a1 ka1 (.object "java/lang/String") (1024 : Int32) (own_upd fa1 p1 (.ref r)) := ((V3.other W10 n_a1_a2).other W17 n_a1_a3)
  have Y19 : Arf Z h17 a2 ka2 .long (1024 : Int32) (own_upd fa2 p1 (.long x1)) := (V10.other W17 n_a2_a3)
  exact Go.ret0 X17 hx hlk hrt (hb hby d5_30) (by decide) (by decide) (by rw [e17]; exact ⟨rfl, N17, ((((Keep.refl h0 [a1, a2, a3]).wr W3 (Or.inl (List.mem_of_getElem? (i := 0) rfl))).wr W10 (Or.inl (List.mem_of_getElem? (i := 1) rfl))).wr W17 (Or.inl (List.mem_of_getElem? (i := 2) rfl))), ((((KF.refl Z h0 [(a1, (p1).toNatClampNeg), (a2, (p1).toNatClampNeg), (a3, (p1).toNatClampNeg)]).wr W3 (Or.inl (List.mem_of_getElem? (i := 0) rfl))).wr W10 (Or.inl (List.mem_of_getElem? (i := 1) rfl))).wr W17 (Or.inl (List.mem_of_getElem? (i := 2) rfl))), Y18, Y19, V17⟩)
/-! PlacePage.get (10R) -/
theorem pd10R_0 : parseMethodDescriptor "(Ljava/lang/String;JJ)V" = some ⟨[(.object "java/lang/String"), .long, .long], none⟩ := by decide +kernel
theorem ef_10R (m : MethodId) (o0 : Addr) (p1 : Int32) : entryFrame m #[(.ref o0), (.int p1)] 2 = (mkF m 0 #[.val (.ref o0), .val (.int p1)] []) := by first | (simp [entryFrame, mkF, argsToLocals, Value.category]; done) | rfl
def Q10R (Z : State) (o0 : Addr) (p1 : Int32) (r : Addr) (x1 : Int64) (x2 : Int64) (a1 : Addr) (a2 : Addr) (a3 : Addr) (ka1 : ClassId) (ka2 : ClassId) (ka3 : ClassId) (fa1 : Int32 → Value) (fa2 : Int32 → Value) (fa3 : Int32 → Value) (h0 : Heap) (n0 : Nat) (v : Option Value) (h : Heap) (L : List Loc) : Prop := ∃ b1 : Addr, v = some (.ref b1) ∧ Fr n0 L ∧ Keep h0 h [] ∧ KF Z h0 h [] ∧ LE.le (α := Nat) h0.size b1 ∧ LT.lt (α := Nat) b1 h.size ∧ Exa Z h b1 "com/example/satzung/satzung/diagnostics/Location" ∧ Fld Z h b1 "com/example/satzung/satzung/diagnostics/Location" "entity" "Ljava/lang/String;" (.ref r) ∧ Fld Z h b1 "com/example/satzung/satzung/diagnostics/Location" "line" "J" (.long x1) ∧ Fld Z h b1 "com/example/satzung/satzung/diagnostics/Location" "column" "J" (.long x2)
set_option maxRecDepth 65536 in
set_option maxHeartbeats 40000000 in
theorem rm10R (l : Launch) (Z : State) (a0 : Array Value) (hw : ∀ d ∈ tables_1, d.before a0 Z = true) (ws : List Jvm.Cond) (o0 : Addr) (p1 : Int32) (r : Addr) (x1 : Int64) (x2 : Int64) (a1 : Addr) (a2 : Addr) (a3 : Addr) (ka1 : ClassId) (ka2 : ClassId) (ka3 : ClassId) (fa1 : Int32 → Value) (fa2 : Int32 → Value) (fa3 : Int32 → Value) (h0 : Heap) (n0 : Nat) (Z0 : n0 ≤ h0.size) (E_o0 : Exa Z h0 o0 "com/example/satzung/satzung/validate/PlacePage") (F_entities_o0 : Fld Z h0 o0 "com/example/satzung/satzung/validate/PlacePage" "entities" "[Ljava/lang/String;" (.ref a1)) (B_a1 : Arf Z h0 a1 ka1 (.object "java/lang/String") (1024 : Int32) fa1) (F_lines_o0 : Fld Z h0 o0 "com/example/satzung/satzung/validate/PlacePage" "lines" "[J" (.ref a2)) (B_a2 : Arf Z h0 a2 ka2 .long (1024 : Int32) fa2) (F_columns_o0 : Fld Z h0 o0 "com/example/satzung/satzung/validate/PlacePage" "columns" "[J" (.ref a3)) (B_a3 : Arf Z h0 a3 ka3 .long (1024 : Int32) fa3) (O_a : Ovr Z ka1 "java/lang/String") (hr1 : fa1 p1 = (.ref r)) (hr2 : fa2 p1 = (.long x1)) (hr3 : fa3 p1 = (.long x2)) (hin_p1 : ¬ (p1 < 0 ∨ (1024 : Int32).toNatClampNeg ≤ p1.toNatClampNeg)) (hx1 : ¬ (x1 < (1 : Int64))) (hx2 : ¬ (x2 < (1 : Int64))) :
    MetFree l (⟨"com/example/satzung/satzung/validate/PlacePage", "get", "(I)Lcom/example/satzung/satzung/diagnostics/Location;"⟩ : MethodName) (head1 (Jvm.Cond.code (⟨"com/example/satzung/satzung/validate/PlacePage", "get", "(I)Lcom/example/satzung/satzung/diagnostics/Location;"⟩ : MethodName) prog_117_method_4_code 2 (some (.object "com/example/satzung/satzung/diagnostics/Location")) :: ws) ({ frames := 2, cells := 1, slots := 3, locals := 30 } : Room)) (fun a U => a = #[(.ref o0), (.int p1)] ∧ Z.Warmed39 U.vm ∧ U.heap = h0) (fun _ _ _ _ _ => True) (fun _ U o U' => ∃ v L, o = .returned v ∧ Q10R Z o0 p1 r x1 x2 a1 a2 a3 ka1 ka2 ka3 fa1 fa2 fa3 h0 n0 v U'.heap L ∧ FrameEnd U o U' L ({ frames := 2, cells := 1, slots := 3, locals := 30 } : Room).cells ({ frames := 2, cells := 1, slots := 3, locals := 30 } : Room).slots) := by
  refine MetFree.of_bodySF (plainFor_of_name pn_10) hisR ?_
  intro p e s m args below meth c s₁ Bd hml0 hP hK
  obtain ⟨rfl, hZ, hh⟩ := hP
  have hx := Bd.exec
  have hby := Bd.bytes
  have hml : c.maxLocals = 2 := hml0
  have hown : s.vm.findClass "com/example/satzung/satzung/validate/PlacePage" = some m.cls := findClass_of_methodNamed Bd.named
  have hnm := (name_of_methodNamed Bd.named Bd.method).1
  have hrt := Bd.returns
  have hlk := Bd.notSynchronized
  have X0 : Stand p l e ({ frames := 2, cells := 1, slots := 3, locals := 30 } : Room) s m #[(.ref o0), (.int p1)] below meth c s₁ [] 0 0 := Stand.of_body Bd
  have e0 : s₁.heap = h0 := by rw [← hh, Bd.state]; rfl
  have N0 := Fr.nil n0
  have lt_E_o0 : LT.lt (α := Nat) o0 h0.size := E_o0.lt
  have lt_F_entities_o0 : LT.lt (α := Nat) o0 h0.size := F_entities_o0.lt
  have lt_B_a1 : LT.lt (α := Nat) a1 h0.size := B_a1.lt
  have lt_F_lines_o0 : LT.lt (α := Nat) o0 h0.size := F_lines_o0.lt
  have lt_B_a2 : LT.lt (α := Nat) a2 h0.size := B_a2.lt
  have lt_F_columns_o0 : LT.lt (α := Nat) o0 h0.size := F_columns_o0.lt
  have lt_B_a3 : LT.lt (α := Nat) a3 h0.size := B_a3.lt
  show Go p e below s 1 3 (Q10R Z o0 p1 r x1 x2 a1 a2 a3 ka1 ka2 ka3 fa1 fa2 fa3 h0 n0) (s₁.setTop (entryFrame m #[(.ref o0), (.int p1)] 2))
  rw [ef_10R m o0 p1]
  obtain ⟨T1, h1, X1, e1, E1, A1, D1, -, st1⟩ := newO X0 hx hZ hown (ow hw 75 rfl) (ow hw 14 rfl) (ow hw 15 rfl) e0 (g := (mkF m 0 #[sR o0, sI p1] [])) rfl (hb hby d10_0) (by decide) (by decide)
  obtain ⟨b1, g1⟩ : ∃ z, z = h0.size := ⟨_, rfl⟩
  rw [← g1] at A1 D1 st1
  have sz1 : h0.size ≤ h1.size := E1.1
  have lt1 : b1 < h1.size := A1.lt
  have F1_entity : Fld Z h1 b1 "com/example/satzung/satzung/diagnostics/Location" "entity" "Ljava/lang/String;" .null := D1 (Or.inr (ow hw 23 rfl)) (ty := (.object "java/lang/String")) (by decide)
  have F1_line : Fld Z h1 b1 "com/example/satzung/satzung/diagnostics/Location" "line" "J" (.long (0 : Int64)) := D1 (Or.inr (ow hw 25 rfl)) (ty := .long) (by decide)
  have F1_column : Fld Z h1 b1 "com/example/satzung/satzung/diagnostics/Location" "column" "J" (.long (0 : Int64)) := D1 (Or.inr (ow hw 27 rfl)) (ty := .long) (by decide)
  refine Go.pre st1 ?_
  show Go p e below s _ _ _ (T1.setTop (mkF m 3 #[sR o0, sI p1] [(.ref b1)]))
  refine Go.pre (st' := T1.setTop (mkF m 5 #[sR o0, sI p1] [(.ref o0), (.ref b1), (.ref b1)])) (fun target kt => ?_) ?_
  · show Steps p.tables e below (T1.setTop (mkF m 3 #[sR o0, sI p1] [(.ref b1)])) _
    refine XS.dup X1.here hx rfl (hb hby d10_3) rfl rfl ?_
    refine XS.aloadN X1.here hx rfl (hb hby d10_4) rfl rfl ?_
    exact kt
  have Y2 : Fld Z h1 o0 "com/example/satzung/satzung/validate/PlacePage" "entities" "[Ljava/lang/String;" (.ref a1) := (F_entities_o0.ext E1)
  obtain ⟨T3, X3, e3, st3⟩ := getF X1 hx hZ hown (host := "") (Or.inl (ow hw 37 rfl)) Via.refl e1 Y2 (g := (mkF m 5 #[sR o0, sI p1] [(.ref o0), (.ref b1), (.ref b1)])) rfl rfl (hb hby d10_5)
  refine Go.pre st3 ?_
  show Go p e below s _ _ _ (T3.setTop (mkF m 8 #[sR o0, sI p1] [(.ref a1), (.ref b1), (.ref b1)]))
  refine Go.pre (st' := T3.setTop (mkF m 9 #[sR o0, sI p1] [(.int p1), (.ref a1), (.ref b1), (.ref b1)])) (fun target kt => ?_) ?_
  · show Steps p.tables e below (T3.setTop (mkF m 8 #[sR o0, sI p1] [(.ref a1), (.ref b1), (.ref b1)])) _
    refine XS.iloadN X3.here hx rfl (hb hby d10_8) rfl ?_
    exact kt
  have Y4 : Arf Z h1 a1 ka1 (.object "java/lang/String") (1024 : Int32) fa1 := (B_a1.ext E1)
  obtain ⟨cl5, Ar5, q5, Sz5, Nn5, Hs5⟩ := id Y4
  have in5 : ¬ (p1 < 0 ∨ cl5.slots.size ≤ (p1).toNatClampNeg) := by rw [Sz5]; exact hin_p1
  have at5 : cl5.slots[(p1).toNatClampNeg]? = some (.ref r) := (Hs5 _ in5).1.trans (congrArg some hr1)
  refine Go.pre (X3.aaload hx (j := p1) (v := (.ref r)) (by rw [e3]; exact Ar5.1) (State.isArrayOf_alike hZ.alike Ar5.2.1) rfl Ar5.2.2 in5 at5 (g := (mkF m 9 #[sR o0, sI p1] [(.int p1), (.ref a1), (.ref b1), (.ref b1)])) rfl rfl (hb hby d10_9)) ?_
  show Go p e below s _ _ _ (T3.setTop (mkF m 10 #[sR o0, sI p1] [(.ref r), (.ref b1), (.ref b1)]))
  refine Go.pre (st' := T3.setTop (mkF m 11 #[sR o0, sI p1] [(.ref o0), (.ref r), (.ref b1), (.ref b1)])) (fun target kt => ?_) ?_
  · show Steps p.tables e below (T3.setTop (mkF m 10 #[sR o0, sI p1] [(.ref r), (.ref b1), (.ref b1)])) _
    refine XS.aloadN X3.here hx rfl (hb hby d10_10) rfl rfl ?_
    exact kt
  have Y6 : Fld Z h1 o0 "com/example/satzung/satzung/validate/PlacePage" "lines" "[J" (.ref a2) := (F_lines_o0.ext E1)
  obtain ⟨T7, X7, e7, st7⟩ := getF X3 hx hZ hown (host := "") (Or.inl (ow hw 40 rfl)) Via.refl e3 Y6 (g := (mkF m 11 #[sR o0, sI p1] [(.ref o0), (.ref r), (.ref b1), (.ref b1)])) rfl rfl (hb hby d10_11)
  refine Go.pre st7 ?_
  show Go p e below s _ _ _ (T7.setTop (mkF m 14 #[sR o0, sI p1] [(.ref a2), (.ref r), (.ref b1), (.ref b1)]))
  refine Go.pre (st' := T7.setTop (mkF m 15 #[sR o0, sI p1] [(.int p1), (.ref a2), (.ref r), (.ref b1), (.ref b1)])) (fun target kt => ?_) ?_
  · show Steps p.tables e below (T7.setTop (mkF m 14 #[sR o0, sI p1] [(.ref a2), (.ref r), (.ref b1), (.ref b1)])) _
    refine XS.iloadN X7.here hx rfl (hb hby d10_14) rfl ?_
    exact kt
  have Y8 : Arf Z h1 a2 ka2 .long (1024 : Int32) fa2 := (B_a2.ext E1)
  obtain ⟨cl9, Ar9, q9, Sz9, Nn9, Hs9⟩ := id Y8
  have in9 : ¬ (p1 < 0 ∨ cl9.slots.size ≤ (p1).toNatClampNeg) := by rw [Sz9]; exact hin_p1
  have at9 : cl9.slots[(p1).toNatClampNeg]? = some (.long x1) := (Hs9 _ in9).1.trans (congrArg some hr2)
  refine Go.pre (X7.laload hx (j := p1) (v := (.long x1)) (by rw [e7]; exact Ar9.1) (State.isArrayOf_alike hZ.alike Ar9.2.1) Ar9.2.2 in9 at9 (g := (mkF m 15 #[sR o0, sI p1] [(.int p1), (.ref a2), (.ref r), (.ref b1), (.ref b1)])) rfl rfl (hb hby d10_15)) ?_
  show Go p e below s _ _ _ (T7.setTop (mkF m 16 #[sR o0, sI p1] [(.long x1), (.ref r), (.ref b1), (.ref b1)]))
  refine Go.pre (st' := T7.setTop (mkF m 17 #[sR o0, sI p1] [(.ref o0), (.long x1), (.ref r), (.ref b1), (.ref b1)])) (fun target kt => ?_) ?_
  · show Steps p.tables e below (T7.setTop (mkF m 16 #[sR o0, sI p1] [(.long x1), (.ref r), (.ref b1), (.ref b1)])) _
    refine XS.aloadN X7.here hx rfl (hb hby d10_16) rfl rfl ?_
    exact kt
  have Y10 : Fld Z h1 o0 "com/example/satzung/satzung/validate/PlacePage" "columns" "[J" (.ref a3) := (F_columns_o0.ext E1)
  obtain ⟨T11, X11, e11, st11⟩ := getF X7 hx hZ hown (host := "") (Or.inl (ow hw 42 rfl)) Via.refl e7 Y10 (g := (mkF m 17 #[sR o0, sI p1] [(.ref o0), (.long x1), (.ref r), (.ref b1), (.ref b1)])) rfl rfl (hb hby d10_17)
  refine Go.pre st11 ?_
  show Go p e below s _ _ _ (T11.setTop (mkF m 20 #[sR o0, sI p1] [(.ref a3), (.long x1), (.ref r), (.ref b1), (.ref b1)]))
  refine Go.pre (st' := T11.setTop (mkF m 21 #[sR o0, sI p1] [(.int p1), (.ref a3), (.long x1), (.ref r), (.ref b1), (.ref b1)])) (fun target kt => ?_) ?_
  · show Steps p.tables e below (T11.setTop (mkF m 20 #[sR o0, sI p1] [(.ref a3), (.long x1), (.ref r), (.ref b1), (.ref b1)])) _
    refine XS.iloadN X11.here hx rfl (hb hby d10_20) rfl ?_
    exact kt
  have Y12 : Arf Z h1 a3 ka3 .long (1024 : Int32) fa3 := (B_a3.ext E1)
  obtain ⟨cl13, Ar13, q13, Sz13, Nn13, Hs13⟩ := id Y12
  have in13 : ¬ (p1 < 0 ∨ cl13.slots.size ≤ (p1).toNatClampNeg) := by rw [Sz13]; exact hin_p1
  have at13 : cl13.slots[(p1).toNatClampNeg]? = some (.long x2) := (Hs13 _ in13).1.trans (congrArg some hr3)
  refine Go.pre (X11.laload hx (j := p1) (v := (.long x2)) (by rw [e11]; exact Ar13.1) (State.isArrayOf_alike hZ.alike Ar13.2.1) Ar13.2.2 in13 at13 (g := (mkF m 21 #[sR o0, sI p1] [(.int p1), (.ref a3), (.long x1), (.ref r), (.ref b1), (.ref b1)])) rfl rfl (hb hby d10_21)) ?_
  show Go p e below s _ _ _ (T11.setTop (mkF m 22 #[sR o0, sI p1] [(.long x2), (.long x1), (.ref r), (.ref b1), (.ref b1)]))
  obtain ⟨_, _, ⟨T14, L14, k14, n14⟩, -, X14, ⟨Lc14, hQ14, l14, y14, z14⟩, st14⟩ := X11.specialBack hx (y := (⟨"com/example/satzung/satzung/diagnostics/Location", "<init>", "(Ljava/lang/String;JJ)V"⟩ : MethodName)) rfl hown (mvT hZ (ow hw 76 rfl)) (mvT hZ (ow hw 17 rfl)) (mvT hZ (ow hw 18 rfl)) (by decide) (backOf (W := 1) (rm2R l Z a0 hw [] b1 r x1 x2 .null (.long (0 : Int64)) (.long (0 : Int64)) h1 n0 (by omega) A1 F1_entity (by omega) F1_line F1_column (by first | assumption | decide) (by first | assumption | decide)) hZ (ow hw 18 rfl) (ow hw 15 rfl) (by decide) (by decide)) (g := (mkF m 22 #[sR o0, sI p1] [(.long x2), (.long x1), (.ref r), (.ref b1), (.ref b1)])) rfl (by rw [hml]; rfl) (Steps.refl _) (a := b1) (argsL := [(.ref r), (.long x1), (.long x2)]) (rest := [(.ref b1)]) (lenOf pd10R_0 rfl) rfl (by show 2 * 0 + _ ≤ _; exact Nat.le_of_eq rfl) (hb hby d10_22) (fun vm₁ hvm => ⟨rfl, e11, (by decide : 1 + 0 ≤ _), (by decide : 3 + 0 ≤ _)⟩)
  dsimp only [Pt.U, Pt.locs, Pt.cells, Pt.slots] at X14 l14 y14 z14 st14 hQ14
  subst l14 y14 z14
  obtain ⟨rfl, N14q, K14, KF14, Y14_0, Y14_1, Y14_2⟩ := hQ14
  have sz14 : h1.size ≤ T14.heap.size := K14.1
  have N14 := Fr.app N0 N14q
  refine Go.trans st14 ?_
  show Go p e below s _ _ _ (T14.setTop (mkF m 25 #[sR o0, sI p1] [(.ref b1)]))
  have Y15 : Exa Z T14.heap b1 "com/example/satzung/satzung/diagnostics/Location" := (A1.keep K14)
  exact Go.retV X14 hx hlk hrt rfl (Or.inr (Or.inr (Or.inr (Or.inr ⟨rfl, rfl, rfl⟩)))) (hb hby d10_25) (by decide) (by decide) (by exact ⟨b1, rfl, N14, (((Keep.refl h0 []).ext E1).trans K14 (allS (Or.inr (by omega)) all0)), (((KF.refl Z h0 []).ext E1).trans KF14 (pallS (Or.inr (by show _ ≤ b1; omega)) (pallS (Or.inr (by show _ ≤ b1; omega)) (pallS (Or.inr (by show _ ≤ b1; omega)) pall0)))), by omega, by omega, Y15, Y14_0, Y14_1, Y14_2⟩)
/-! PlacePage.set (9dR) -/
theorem ef_9dR (m : MethodId) (o0 : Addr) (p1 : Int32) (o2 : Addr) (p3 : Int32) : entryFrame m #[(.ref o0), (.int p1), (.ref o2), (.int p3)] 4 = (mkF m 0 #[.val (.ref o0), .val (.int p1), .val (.ref o2), .val (.int p3)] []) := by first | (simp [entryFrame, mkF, argsToLocals, Value.category]; done) | rfl
def Q9dR (Z : State) (o0 : Addr) (p1 : Int32) (o2 : Addr) (p3 : Int32) (r : Addr) (x1 : Int64) (x2 : Int64) (a1 : Addr) (a2 : Addr) (a3 : Addr) (ka1 : ClassId) (ka2 : ClassId) (ka3 : ClassId) (fa1 : Int32 → Value) (fa2 : Int32 → Value) (fa3 : Int32 → Value) (c1 : Addr) (c2 : Addr) (c3 : Addr) (kc1 : ClassId) (kc2 : ClassId) (kc3 : ClassId) (fc1 : Int32 → Value) (fc2 : Int32 → Value) (fc3 : Int32 → Value) (h0 : Heap) (n0 : Nat) (v : Option Value) (h : Heap) (L : List Loc) : Prop := v = none ∧ Fr n0 L ∧ Keep h0 h [a1, a2, a3] ∧ KF Z h0 h [(a1, (p1).toNatClampNeg), (a2, (p1).toNatClampNeg), (a3, (p1).toNatClampNeg)] ∧ Arf Z h a1 ka1 (.object "java/lang/String") (1024 : Int32) (own_upd fa1 p1 (.ref r)) ∧ Arf Z h a2 ka2 .long (1024 : Int32) (own_upd fa2 p1 (.long x1)) ∧ Arf Z h a3 ka3 .long (1024 : Int32) (own_upd fa3 p1 (.long x2))
set_option maxRecDepth 65536 in
set_option maxHeartbeats 40000000 in
theorem rm9dR (l : Launch) (Z : State) (a0 : Array Value) (hw : ∀ d ∈ tables_1, d.before a0 Z = true) (ws : List Jvm.Cond) (o0 : Addr) (p1 : Int32) (o2 : Addr) (p3 : Int32) (r : Addr) (x1 : Int64) (x2 : Int64) (a1 : Addr) (a2 : Addr) (a3 : Addr) (ka1 : ClassId) (ka2 : ClassId) (ka3 : ClassId) (fa1 : Int32 → Value) (fa2 : Int32 → Value) (fa3 : Int32 → Value) (c1 : Addr) (c2 : Addr) (c3 : Addr) (kc1 : ClassId) (kc2 : ClassId) (kc3 : ClassId) (fc1 : Int32 → Value) (fc2 : Int32 → Value) (fc3 : Int32 → Value) (h0 : Heap) (n0 : Nat) (Z0 : n0 ≤ h0.size) (E_o0 : Exa Z h0 o0 "com/example/satzung/satzung/validate/PlacePage") (F_entities_o0 : Fld Z h0 o0 "com/example/satzung/satzung/validate/PlacePage" "entities" "[Ljava/lang/String;" (.ref a1)) (B_a1 : Arf Z h0 a1 ka1 (.object "java/lang/String") (1024 : Int32) fa1) (F_lines_o0 : Fld Z h0 o0 "com/example/satzung/satzung/validate/PlacePage" "lines" "[J" (.ref a2)) (B_a2 : Arf Z h0 a2 ka2 .long (1024 : Int32) fa2) (F_columns_o0 : Fld Z h0 o0 "com/example/satzung/satzung/validate/PlacePage" "columns" "[J" (.ref a3)) (B_a3 : Arf Z h0 a3 ka3 .long (1024 : Int32) fa3) (O_a : Ovr Z ka1 "java/lang/String") (E_o2 : Exa Z h0 o2 "com/example/satzung/satzung/validate/PlacePage") (F_entities_o2 : Fld Z h0 o2 "com/example/satzung/satzung/validate/PlacePage" "entities" "[Ljava/lang/String;" (.ref c1)) (B_c1 : Arf Z h0 c1 kc1 (.object "java/lang/String") (1024 : Int32) fc1) (F_lines_o2 : Fld Z h0 o2 "com/example/satzung/satzung/validate/PlacePage" "lines" "[J" (.ref c2)) (B_c2 : Arf Z h0 c2 kc2 .long (1024 : Int32) fc2) (F_columns_o2 : Fld Z h0 o2 "com/example/satzung/satzung/validate/PlacePage" "columns" "[J" (.ref c3)) (B_c3 : Arf Z h0 c3 kc3 .long (1024 : Int32) fc3) (O_c : Ovr Z kc1 "java/lang/String") (hr1 : fc1 p3 = (.ref r)) (hr2 : fc2 p3 = (.long x1)) (hr3 : fc3 p3 = (.long x2)) (E_r : Exa Z h0 r "java/lang/String") (n_a1_a2 : a1 ≠ a2) (n_a1_a3 : a1 ≠ a3) (n_a2_a3 : a2 ≠ a3) (n_o0_a1 : o0 ≠ a1) (n_o0_a2 : o0 ≠ a2) (n_o0_a3 : o0 ≠ a3) (n_o2_a1 : o2 ≠ a1) (n_o2_a2 : o2 ≠ a2) (n_o2_a3 : o2 ≠ a3) (n_c1_a1 : c1 ≠ a1) (n_c2_a1 : c2 ≠ a1) (n_c3_a1 : c3 ≠ a1) (n_c1_a2 : c1 ≠ a2) (n_c2_a2 : c2 ≠ a2) (n_c3_a2 : c3 ≠ a2) (n_c1_a3 : c1 ≠ a3) (n_c2_a3 : c2 ≠ a3) (n_c3_a3 : c3 ≠ a3) (g_a1 : n0 ≤ a1) (g_a2 : n0 ≤ a2) (g_a3 : n0 ≤ a3) (hin_p1 : ¬ (p1 < 0 ∨ (1024 : Int32).toNatClampNeg ≤ p1.toNatClampNeg)) (hin_p3 : ¬ (p3 < 0 ∨ (1024 : Int32).toNatClampNeg ≤ p3.toNatClampNeg)) :
    MetFree l (⟨"com/example/satzung/satzung/validate/PlacePage", "set", "(ILcom/example/satzung/satzung/validate/PlacePage;I)V"⟩ : MethodName) (head1 (Jvm.Cond.code (⟨"com/example/satzung/satzung/validate/PlacePage", "set", "(ILcom/example/satzung/satzung/validate/PlacePage;I)V"⟩ : MethodName) prog_117_method_3_code 4 none :: ws) ({ frames := 0, cells := 0, slots := 0, locals := 0 } : Room)) (fun a U => a = #[(.ref o0), (.int p1), (.ref o2), (.int p3)] ∧ Z.Warmed39 U.vm ∧ U.heap = h0) (fun _ _ _ _ _ => True) (fun _ U o U' => ∃ v L, o = .returned v ∧ Q9dR Z o0 p1 o2 p3 r x1 x2 a1 a2 a3 ka1 ka2 ka3 fa1 fa2 fa3 c1 c2 c3 kc1 kc2 kc3 fc1 fc2 fc3 h0 n0 v U'.heap L ∧ FrameEnd U o U' L ({ frames := 0, cells := 0, slots := 0, locals := 0 } : Room).cells ({ frames := 0, cells := 0, slots := 0, locals := 0 } : Room).slots) := by
  refine MetFree.of_bodySF (plainFor_of_name pn_9) hisR ?_
  intro p e s m args below meth c s₁ Bd hml0 hP hK
  obtain ⟨rfl, hZ, hh⟩ := hP
  have hx := Bd.exec
  have hby := Bd.bytes
  have hml : c.maxLocals = 4 := hml0
  have hown : s.vm.findClass "com/example/satzung/satzung/validate/PlacePage" = some m.cls := findClass_of_methodNamed Bd.named
  have hnm := (name_of_methodNamed Bd.named Bd.method).1
  have hrt := Bd.returns
  have hlk := Bd.notSynchronized
  have X0 : Stand p l e ({ frames := 0, cells := 0, slots := 0, locals := 0 } : Room) s m #[(.ref o0), (.int p1), (.ref o2), (.int p3)] below meth c s₁ [] 0 0 := Stand.of_body Bd
  have e0 : s₁.heap = h0 := by rw [← hh, Bd.state]; rfl
  have N0 := Fr.nil n0
  have lt_E_o0 : LT.lt (α := Nat) o0 h0.size := E_o0.lt
  have lt_F_entities_o0 : LT.lt (α := Nat) o0 h0.size := F_entities_o0.lt
  have lt_B_a1 : LT.lt (α := Nat) a1 h0.size := B_a1.lt
  have lt_F_lines_o0 : LT.lt (α := Nat) o0 h0.size := F_lines_o0.lt
  have lt_B_a2 : LT.lt (α := Nat) a2 h0.size := B_a2.lt
  have lt_F_columns_o0 : LT.lt (α := Nat) o0 h0.size := F_columns_o0.lt
  have lt_B_a3 : LT.lt (α := Nat) a3 h0.size := B_a3.lt
  have lt_E_o2 : LT.lt (α := Nat) o2 h0.size := E_o2.lt
  have lt_F_entities_o2 : LT.lt (α := Nat) o2 h0.size := F_entities_o2.lt
  have lt_B_c1 : LT.lt (α := Nat) c1 h0.size := B_c1.lt
  have lt_F_lines_o2 : LT.lt (α := Nat) o2 h0.size := F_lines_o2.lt
  have lt_B_c2 : LT.lt (α := Nat) c2 h0.size := B_c2.lt
  have lt_F_columns_o2 : LT.lt (α := Nat) o2 h0.size := F_columns_o2.lt
  have lt_B_c3 : LT.lt (α := Nat) c3 h0.size := B_c3.lt
  have lt_E_r : LT.lt (α := Nat) r h0.size := E_r.lt
  show Go p e below s 0 0 (Q9dR Z o0 p1 o2 p3 r x1 x2 a1 a2 a3 ka1 ka2 ka3 fa1 fa2 fa3 c1 c2 c3 kc1 kc2 kc3 fc1 fc2 fc3 h0 n0) (s₁.setTop (entryFrame m #[(.ref o0), (.int p1), (.ref o2), (.int p3)] 4))
  rw [ef_9dR m o0 p1 o2 p3]
  refine Go.pre (st' := s₁.setTop (mkF m 1 #[sR o0, sI p1, sR o2, sI p3] [(.ref o0)])) (fun target kt => ?_) ?_
  · show Steps p.tables e below (s₁.setTop (mkF m 0 #[sR o0, sI p1, sR o2, sI p3] [])) _
    refine XS.aloadN X0.here hx rfl (hb hby d9_0) rfl rfl ?_
    exact kt
  obtain ⟨T1, X1, e1, st1⟩ := getF X0 hx hZ hown (host := "") (Or.inl (ow hw 37 rfl)) Via.refl e0 F_entities_o0 (g := (mkF m 1 #[sR o0, sI p1, sR o2, sI p3] [(.ref o0)])) rfl rfl (hb hby d9_1)
  refine Go.pre st1 ?_
  show Go p e below s _ _ _ (T1.setTop (mkF m 4 #[sR o0, sI p1, sR o2, sI p3] [(.ref a1)]))
  refine Go.pre (st' := T1.setTop (mkF m 6 #[sR o0, sI p1, sR o2, sI p3] [(.ref o2), (.int p1), (.ref a1)])) (fun target kt => ?_) ?_
  · show Steps p.tables e below (T1.setTop (mkF m 4 #[sR o0, sI p1, sR o2, sI p3] [(.ref a1)])) _
    refine XS.iloadN X1.here hx rfl (hb hby d9_4) rfl ?_
    refine XS.aloadN X1.here hx rfl (hb hby d9_5) rfl rfl ?_
    exact kt
  obtain ⟨T2, X2, e2, st2⟩ := getF X1 hx hZ hown (host := "") (Or.inl (ow hw 37 rfl)) Via.refl e1 F_entities_o2 (g := (mkF m 6 #[sR o0, sI p1, sR o2, sI p3] [(.ref o2), (.int p1), (.ref a1)])) rfl rfl (hb hby d9_6)
  refine Go.pre st2 ?_
  show Go p e below s _ _ _ (T2.setTop (mkF m 9 #[sR o0, sI p1, sR o2, sI p3] [(.ref c1), (.int p1), (.ref a1)]))
  refine Go.pre (st' := T2.setTop (mkF m 10 #[sR o0, sI p1, sR o2, sI p3] [(.int p3), (.ref c1), (.int p1), (.ref a1)])) (fun target kt => ?_) ?_
  · show Steps p.tables e below (T2.setTop (mkF m 9 #[sR o0, sI p1, sR o2, sI p3] [(.ref c1), (.int p1), (.ref a1)])) _
    refine XS.iloadN X2.here hx rfl (hb hby d9_9) rfl ?_
    exact kt
  obtain ⟨cl3, Ar3, q3, Sz3, Nn3, Hs3⟩ := id B_c1
  have in3 : ¬ (p3 < 0 ∨ cl3.slots.size ≤ (p3).toNatClampNeg) := by rw [Sz3]; exact hin_p3
  have at3 : cl3.slots[(p3).toNatClampNeg]? = some (.ref r) := (Hs3 _ in3).1.trans (congrArg some hr1)
  refine Go.pre (X2.aaload hx (j := p3) (v := (.ref r)) (by rw [e2]; exact Ar3.1) (State.isArrayOf_alike hZ.alike Ar3.2.1) rfl Ar3.2.2 in3 at3 (g := (mkF m 10 #[sR o0, sI p1, sR o2, sI p3] [(.int p3), (.ref c1), (.int p1), (.ref a1)])) rfl rfl (hb hby d9_10)) ?_
  show Go p e below s _ _ _ (T2.setTop (mkF m 11 #[sR o0, sI p1, sR o2, sI p3] [(.ref r), (.int p1), (.ref a1)]))
  obtain ⟨cl4, Ar4, q4, Sz4, Nn4, Hs4⟩ := id B_a1
  have in4 : ¬ (p1 < 0 ∨ cl4.slots.size ≤ (p1).toNatClampNeg) := by rw [Sz4]; exact hin_p1
  obtain ⟨T4, h4, X4, e4, W4, st4⟩ := stR X2 hx hZ e2 Ar4 (j := p1) in4 rfl (Sto.ofV Ar4 q4 O_a (Ins.self E_r)) (g := (mkF m 11 #[sR o0, sI p1, sR o2, sI p3] [(.ref r), (.int p1), (.ref a1)])) rfl rfl (hb hby d9_11)
  have sz4 : h0.size ≤ h4.size := (Keep.of_wr W4).1
  have V4 : Arf Z h4 a1 ka1 (.object "java/lang/String") (1024 : Int32) (own_upd fa1 p1 (.ref r)) := Arf.set Ar4 q4 Sz4 Nn4 Hs4 rfl in4 W4
  have N4 := Fr.snoc X4 N0 (by omega)
  refine Go.pre st4 ?_
  show Go p e below s _ _ _ (T4.setTop (mkF m 12 #[sR o0, sI p1, sR o2, sI p3] []))
  refine Go.pre (st' := T4.setTop (mkF m 13 #[sR o0, sI p1, sR o2, sI p3] [(.ref o0)])) (fun target kt => ?_) ?_
  · show Steps p.tables e below (T4.setTop (mkF m 12 #[sR o0, sI p1, sR o2, sI p3] [])) _
    refine XS.aloadN X4.here hx rfl (hb hby d9_12) rfl rfl ?_
    exact kt
  have Y5 : Fld Z h4 o0 "com/example/satzung/satzung/validate/PlacePage" "lines" "[J" (.ref a2) := (F_lines_o0.other W4 (Or.inl n_o0_a1))
  obtain ⟨T6, X6, e6, st6⟩ := getF X4 hx hZ hown (host := "") (Or.inl (ow hw 40 rfl)) Via.refl e4 Y5 (g := (mkF m 13 #[sR o0, sI p1, sR o2, sI p3] [(.ref o0)])) rfl rfl (hb hby d9_13)
  refine Go.pre st6 ?_
  show Go p e below s _ _ _ (T6.setTop (mkF m 16 #[sR o0, sI p1, sR o2, sI p3] [(.ref a2)]))
  refine Go.pre (st' := T6.setTop (mkF m 18 #[sR o0, sI p1, sR o2, sI p3] [(.ref o2), (.int p1), (.ref a2)])) (fun target kt => ?_) ?_
  · show Steps p.tables e below (T6.setTop (mkF m 16 #[sR o0, sI p1, sR o2, sI p3] [(.ref a2)])) _
    refine XS.iloadN X6.here hx rfl (hb hby d9_16) rfl ?_
    refine XS.aloadN X6.here hx rfl (hb hby d9_17) rfl rfl ?_
    exact kt
  have Y7 : Fld Z h4 o2 "com/example/satzung/satzung/validate/PlacePage" "lines" "[J" (.ref c2) := (F_lines_o2.other W4 (Or.inl n_o2_a1))
  obtain ⟨T8, X8, e8, st8⟩ := getF X6 hx hZ hown (host := "") (Or.inl (ow hw 40 rfl)) Via.refl e6 Y7 (g := (mkF m 18 #[sR o0, sI p1, sR o2, sI p3] [(.ref o2), (.int p1), (.ref a2)])) rfl rfl (hb hby d9_18)
  refine Go.pre st8 ?_
  show Go p e below s _ _ _ (T8.setTop (mkF m 21 #[sR o0, sI p1, sR o2, sI p3] [(.ref c2), (.int p1), (.ref a2)]))
  refine Go.pre (st' := T8.setTop (mkF m 22 #[sR o0, sI p1, sR o2, sI p3] [(.int p3), (.ref c2), (.int p1), (.ref a2)])) (fun target kt => ?_) ?_
  · show Steps p.tables e below (T8.setTop (mkF m 21 #[sR o0, sI p1, sR o2, sI p3] [(.ref c2), (.int p1), (.ref a2)])) _
    refine XS.iloadN X8.here hx rfl (hb hby d9_21) rfl ?_
    exact kt
  have Y9 : Arf Z h4 c2 kc2 .long (1024 : Int32) fc2 := (B_c2.other W4 n_c2_a1)
  obtain ⟨cl10, Ar10, q10, Sz10, Nn10, Hs10⟩ := id Y9
  have in10 : ¬ (p3 < 0 ∨ cl10.slots.size ≤ (p3).toNatClampNeg) := by rw [Sz10]; exact hin_p3
  have at10 : cl10.slots[(p3).toNatClampNeg]? = some (.long x1) := (Hs10 _ in10).1.trans (congrArg some hr2)
  refine Go.pre (X8.laload hx (j := p3) (v := (.long x1)) (by rw [e8]; exact Ar10.1) (State.isArrayOf_alike hZ.alike Ar10.2.1) Ar10.2.2 in10 at10 (g := (mkF m 22 #[sR o0, sI p1, sR o2, sI p3] [(.int p3), (.ref c2), (.int p1), (.ref a2)])) rfl rfl (hb hby d9_22)) ?_
  show Go p e below s _ _ _ (T8.setTop (mkF m 23 #[sR o0, sI p1, sR o2, sI p3] [(.long x1), (.int p1), (.ref a2)]))
  have Y11 : Arf Z h4 a2 ka2 .long (1024 : Int32) fa2 := (B_a2.other W4 (Ne.symm n_a1_a2))
  obtain ⟨cl12, Ar12, q12, Sz12, Nn12, Hs12⟩ := id Y11
  have in12 : ¬ (p1 < 0 ∨ cl12.slots.size ≤ (p1).toNatClampNeg) := by rw [Sz12]; exact hin_p1
  obtain ⟨T12, h12, X12, e12, W12, st12⟩ := stJ X8 hx hZ e8 Ar12 (j := p1) in12 (g := (mkF m 23 #[sR o0, sI p1, sR o2, sI p3] [(.long x1), (.int p1), (.ref a2)])) rfl rfl (hb hby d9_23)
  have sz12 : h4.size ≤ h12.size := (Keep.of_wr W12).1
  have V12 : Arf Z h12 a2 ka2 .long (1024 : Int32) (own_upd fa2 p1 (.long x1)) := Arf.set Ar12 q12 Sz12 Nn12 Hs12 rfl in12 W12
  have N12 := Fr.snoc X12 N4 (by omega)
  refine Go.pre st12 ?_
  show Go p e below s _ _ _ (T12.setTop (mkF m 24 #[sR o0, sI p1, sR o2, sI p3] []))
  refine Go.pre (st' := T12.setTop (mkF m 25 #[sR o0, sI p1, sR o2, sI p3] [(.ref o0)])) (fun target kt => ?_) ?_
  · show Steps p.tables e below (T12.setTop (mkF m 24 #[sR o0, sI p1, sR o2, sI p3] [])) _
    refine XS.aloadN X12.here hx rfl (hb hby d9_24) rfl rfl ?_
    exact kt
  have Y13 : Fld Z h12 o0 "com/example/satzung/satzung/validate/PlacePage" "columns" "[J" (.ref a3) := ((F_columns_o0.other W4 (Or.inl n_o0_a1)).other W12 (Or.inl n_o0_a2))
  obtain ⟨T14, X14, e14, st14⟩ := getF X12 hx hZ hown (host := "") (Or.inl (ow hw 42 rfl)) Via.refl e12 Y13 (g := (mkF m 25 #[sR o0, sI p1, sR o2, sI p3] [(.ref o0)])) rfl rfl (hb hby d9_25)
  refine Go.pre st14 ?_
  show Go p e below s _ _ _ (T14.setTop (mkF m 28 #[sR o0, sI p1, sR o2, sI p3] [(.ref a3)]))
  refine Go.pre (st' := T14.setTop (mkF m 30 #[sR o0, sI p1, sR o2, sI p3] [(.ref o2), (.int p1), (.ref a3)])) (fun target kt => ?_) ?_
  · show Steps p.tables e below (T14.setTop (mkF m 28 #[sR o0, sI p1, sR o2, sI p3] [(.ref a3)])) _
    refine XS.iloadN X14.here hx rfl (hb hby d9_28) rfl ?_
    refine XS.aloadN X14.here hx rfl (hb hby d9_29) rfl rfl ?_
    exact kt
  have Y15 : Fld Z h12 o2 "com/example/satzung/satzung/validate/PlacePage" "columns" "[J" (.ref c3) := ((F_columns_o2.other W4 (Or.inl n_o2_a1)).other W12 (Or.inl n_o2_a2))
  obtain ⟨T16, X16, e16, st16⟩ := getF X14 hx hZ hown (host := "") (Or.inl (ow hw 42 rfl)) Via.refl e14 Y15 (g := (mkF m 30 #[sR o0, sI p1, sR o2, sI p3] [(.ref o2), (.int p1), (.ref a3)])) rfl rfl (hb hby d9_30)
  refine Go.pre st16 ?_
  show Go p e below s _ _ _ (T16.setTop (mkF m 33 #[sR o0, sI p1, sR o2, sI p3] [(.ref c3), (.int p1), (.ref a3)]))
  refine Go.pre (st' := T16.setTop (mkF m 34 #[sR o0, sI p1, sR o2, sI p3] [(.int p3), (.ref c3), (.int p1), (.ref a3)])) (fun target kt => ?_) ?_
  · show Steps p.tables e below (T16.setTop (mkF m 33 #[sR o0, sI p1, sR o2, sI p3] [(.ref c3), (.int p1), (.ref a3)])) _
    refine XS.iloadN X16.here hx rfl (hb hby d9_33) rfl ?_
    exact kt
  have Y17 : Arf Z h12 c3 kc3 .long (1024 : Int32) fc3 := ((B_c3.other W4 n_c3_a1).other W12 n_c3_a2)
  obtain ⟨cl18, Ar18, q18, Sz18, Nn18, Hs18⟩ := id Y17
  have in18 : ¬ (p3 < 0 ∨ cl18.slots.size ≤ (p3).toNatClampNeg) := by rw [Sz18]; exact hin_p3
  have at18 : cl18.slots[(p3).toNatClampNeg]? = some (.long x2) := (Hs18 _ in18).1.trans (congrArg some hr3)
  refine Go.pre (X16.laload hx (j := p3) (v := (.long x2)) (by rw [e16]; exact Ar18.1) (State.isArrayOf_alike hZ.alike Ar18.2.1) Ar18.2.2 in18 at18 (g := (mkF m 34 #[sR o0, sI p1, sR o2, sI p3] [(.int p3), (.ref c3), (.int p1), (.ref a3)])) rfl rfl (hb hby d9_34)) ?_
  show Go p e below s _ _ _ (T16.setTop (mkF m 35 #[sR o0, sI p1, sR o2, sI p3] [(.long x2), (.int p1), (.ref a3)]))
  have Y19 : Arf Z h12 a3 ka3 .long (1024 : Int32) fa3 := ((B_a3.other W4 (Ne.symm n_a1_a3)).other W12 (Ne.symm n_a2_a3))
  obtain ⟨cl20, Ar20, q20, Sz20, Nn20, Hs20⟩ := id Y19
  have in20 : ¬ (p1 < 0 ∨ cl20.slots.size ≤ (p1).toNatClampNeg) := by rw [Sz20]; exact hin_p1
  obtain ⟨T20, h20, X20, e20, W20, st20⟩ := stJ X16 hx hZ e16 Ar20 (j := p1) in20 (g := (mkF m 35 #[sR o0, sI p1, sR o2, sI p3] [(.long x2), (.int p1), (.ref a3)])) rfl rfl (hb hby d9_35)
  have sz20 : h12.size ≤ h20.size := (Keep.of_wr W20).1
  have V20 : Arf Z h20 a3 ka3 .long (1024 : Int32) (own_upd fa3 p1 (.long x2)) := Arf.set Ar20 q20 Sz20 Nn20 Hs20 rfl in20 W20
  have N20 := Fr.snoc X20 N12 (by omega)
  refine Go.pre st20 ?_
  show Go p e below s _ _ _ (T20.setTop (mkF m 36 #[sR o0, sI p1, sR o2, sI p3] []))
  have Y21 : Arf Z h20 a1 ka1 (.object "java/lang/String") (1024 : Int32) (own_upd fa1 p1 (.ref r)) := ((V4.other W12 n_a1_a2).other W20 n_a1_a3)
  have Y22 : Arf Z h20 a2 ka2 .long (1024 : Int32) (own_upd fa2 p1 (.long x1)) := (V12.other W20 n_a2_a3)
  exact Go.ret0 X20 hx hlk hrt (hb hby d9_36) (by decide) (by decide) (by rw [e20]; exact ⟨rfl, N20, ((((Keep.refl h0 [a1, a2, a3]).wr W4 (Or.inl (List.mem_of_getElem? (i := 0) rfl))).wr W12 (Or.inl (List.mem_of_getElem? (i := 1) rfl))).wr W20 (Or.inl (List.mem_of_getElem? (i := 2) rfl))), ((((KF.refl Z h0 [(a1, (p1).toNatClampNeg), (a2, (p1).toNatClampNeg), (a3, (p1).toNatClampNeg)]).wr W4 (Or.inl (List.mem_of_getElem? (i := 0) rfl))).wr W12 (Or.inl (List.mem_of_getElem? (i := 1) rfl))).wr W20 (Or.inl (List.mem_of_getElem? (i := 2) rfl))), Y21, Y22, V20⟩)
/-! PlacePage.set (9sR) -/
theorem ef_9sR (m : MethodId) (o0 : Addr) (p1 : Int32) (o0 : Addr) (p3 : Int32) : entryFrame m #[(.ref o0), (.int p1), (.ref o0), (.int p3)] 4 = (mkF m 0 #[.val (.ref o0), .val (.int p1), .val (.ref o0), .val (.int p3)] []) := by first | (simp [entryFrame, mkF, argsToLocals, Value.category]; done) | rfl
def Q9sR (Z : State) (o0 : Addr) (p1 : Int32) (p3 : Int32) (r : Addr) (x1 : Int64) (x2 : Int64) (a1 : Addr) (a2 : Addr) (a3 : Addr) (ka1 : ClassId) (ka2 : ClassId) (ka3 : ClassId) (fa1 : Int32 → Value) (fa2 : Int32 → Value) (fa3 : Int32 → Value) (h0 : Heap) (n0 : Nat) (v : Option Value) (h : Heap) (L : List Loc) : Prop := v = none ∧ Fr n0 L ∧ Keep h0 h [a1, a2, a3] ∧ KF Z h0 h [(a1, (p1).toNatClampNeg), (a2, (p1).toNatClampNeg), (a3, (p1).toNatClampNeg)] ∧ Arf Z h a1 ka1 (.object "java/lang/String") (1024 : Int32) (own_upd fa1 p1 (.ref r)) ∧ Arf Z h a2 ka2 .long (1024 : Int32) (own_upd fa2 p1 (.long x1)) ∧ Arf Z h a3 ka3 .long (1024 : Int32) (own_upd fa3 p1 (.long x2))
set_option maxRecDepth 65536 in
set_option maxHeartbeats 40000000 in
theorem rm9sR (l : Launch) (Z : State) (a0 : Array Value) (hw : ∀ d ∈ tables_1, d.before a0 Z = true) (ws : List Jvm.Cond) (o0 : Addr) (p1 : Int32) (p3 : Int32) (r : Addr) (x1 : Int64) (x2 : Int64) (a1 : Addr) (a2 : Addr) (a3 : Addr) (ka1 : ClassId) (ka2 : ClassId) (ka3 : ClassId) (fa1 : Int32 → Value) (fa2 : Int32 → Value) (fa3 : Int32 → Value) (h0 : Heap) (n0 : Nat) (Z0 : n0 ≤ h0.size) (E_o0 : Exa Z h0 o0 "com/example/satzung/satzung/validate/PlacePage") (F_entities_o0 : Fld Z h0 o0 "com/example/satzung/satzung/validate/PlacePage" "entities" "[Ljava/lang/String;" (.ref a1)) (B_a1 : Arf Z h0 a1 ka1 (.object "java/lang/String") (1024 : Int32) fa1) (F_lines_o0 : Fld Z h0 o0 "com/example/satzung/satzung/validate/PlacePage" "lines" "[J" (.ref a2)) (B_a2 : Arf Z h0 a2 ka2 .long (1024 : Int32) fa2) (F_columns_o0 : Fld Z h0 o0 "com/example/satzung/satzung/validate/PlacePage" "columns" "[J" (.ref a3)) (B_a3 : Arf Z h0 a3 ka3 .long (1024 : Int32) fa3) (O_a : Ovr Z ka1 "java/lang/String") (hr1 : fa1 p3 = (.ref r)) (hr2 : fa2 p3 = (.long x1)) (hr3 : fa3 p3 = (.long x2)) (E_r : Exa Z h0 r "java/lang/String") (n_a1_a2 : a1 ≠ a2) (n_a1_a3 : a1 ≠ a3) (n_a2_a3 : a2 ≠ a3) (n_o0_a1 : o0 ≠ a1) (n_o0_a2 : o0 ≠ a2) (n_o0_a3 : o0 ≠ a3) (g_a1 : n0 ≤ a1) (g_a2 : n0 ≤ a2) (g_a3 : n0 ≤ a3) (hin_p1 : ¬ (p1 < 0 ∨ (1024 : Int32).toNatClampNeg ≤ p1.toNatClampNeg)) (hin_p3 : ¬ (p3 < 0 ∨ (1024 : Int32).toNatClampNeg ≤ p3.toNatClampNeg)) :
    MetFree l (⟨"com/example/satzung/satzung/validate/PlacePage", "set", "(ILcom/example/satzung/satzung/validate/PlacePage;I)V"⟩ : MethodName) (head1 (Jvm.Cond.code (⟨"com/example/satzung/satzung/validate/PlacePage", "set", "(ILcom/example/satzung/satzung/validate/PlacePage;I)V"⟩ : MethodName) prog_117_method_3_code 4 none :: ws) ({ frames := 0, cells := 0, slots := 0, locals := 0 } : Room)) (fun a U => a = #[(.ref o0), (.int p1), (.ref o0), (.int p3)] ∧ Z.Warmed39 U.vm ∧ U.heap = h0) (fun _ _ _ _ _ => True) (fun _ U o U' => ∃ v L, o = .returned v ∧ Q9sR Z o0 p1 p3 r x1 x2 a1 a2 a3 ka1 ka2 ka3 fa1 fa2 fa3 h0 n0 v U'.heap L ∧ FrameEnd U o U' L ({ frames := 0, cells := 0, slots := 0, locals := 0 } : Room).cells ({ frames := 0, cells := 0, slots := 0, locals := 0 } : Room).slots) := by
  refine MetFree.of_bodySF (plainFor_of_name pn_9) hisR ?_
  intro p e s m args below meth c s₁ Bd hml0 hP hK
  obtain ⟨rfl, hZ, hh⟩ := hP
  have hx := Bd.exec
  have hby := Bd.bytes
  have hml : c.maxLocals = 4 := hml0
  have hown : s.vm.findClass "com/example/satzung/satzung/validate/PlacePage" = some m.cls := findClass_of_methodNamed Bd.named
  have hnm := (name_of_methodNamed Bd.named Bd.method).1
  have hrt := Bd.returns
  have hlk := Bd.notSynchronized
  have X0 : Stand p l e ({ frames := 0, cells := 0, slots := 0, locals := 0 } : Room) s m #[(.ref o0), (.int p1), (.ref o0), (.int p3)] below meth c s₁ [] 0 0 := Stand.of_body Bd
  have e0 : s₁.heap = h0 := by rw [← hh, Bd.state]; rfl
  have N0 := Fr.nil n0
  have lt_E_o0 : LT.lt (α := Nat) o0 h0.size := E_o0.lt
  have lt_F_entities_o0 : LT.lt (α := Nat) o0 h0.size := F_entities_o0.lt
  have lt_B_a1 : LT.lt (α := Nat) a1 h0.size := B_a1.lt
  have lt_F_lines_o0 : LT.lt (α := Nat) o0 h0.size := F_lines_o0.lt
  have lt_B_a2 : LT.lt (α := Nat) a2 h0.size := B_a2.lt
  have lt_F_columns_o0 : LT.lt (α := Nat) o0 h0.size := F_columns_o0.lt
  have lt_B_a3 : LT.lt (α := Nat) a3 h0.size := B_a3.lt
  have lt_E_r : LT.lt (α := Nat) r h0.size := E_r.lt
  show Go p e below s 0 0 (Q9sR Z o0 p1 p3 r x1 x2 a1 a2 a3 ka1 ka2 ka3 fa1 fa2 fa3 h0 n0) (s₁.setTop (entryFrame m #[(.ref o0), (.int p1), (.ref o0), (.int p3)] 4))
  rw [ef_9sR m o0 p1 o0 p3]
  refine Go.pre (st' := s₁.setTop (mkF m 1 #[sR o0, sI p1, sR o0, sI p3] [(.ref o0)])) (fun target kt => ?_) ?_
  · show Steps p.tables e below (s₁.setTop (mkF m 0 #[sR o0, sI p1, sR o0, sI p3] [])) _
    refine XS.aloadN X0.here hx rfl (hb hby d9_0) rfl rfl ?_
    exact kt
  obtain ⟨T1, X1, e1, st1⟩ := getF X0 hx hZ hown (host := "") (Or.inl (ow hw 37 rfl)) Via.refl e0 F_entities_o0 (g := (mkF m 1 #[sR o0, sI p1, sR o0, sI p3] [(.ref o0)])) rfl rfl (hb hby d9_1)
  refine Go.pre st1 ?_
  show Go p e below s _ _ _ (T1.setTop (mkF m 4 #[sR o0, sI p1, sR o0, sI p3] [(.ref a1)]))
  refine Go.pre (st' := T1.setTop (mkF m 6 #[sR o0, sI p1, sR o0, sI p3] [(.ref o0), (.int p1), (.ref a1)])) (fun target kt => ?_) ?_
  · show Steps p.tables e below (T1.setTop (mkF m 4 #[sR o0, sI p1, sR o0, sI p3] [(.ref a1)])) _
    refine XS.iloadN X1.here hx rfl (hb hby d9_4) rfl ?_
    refine XS.aloadN X1.here hx rfl (hb hby d9_5) rfl rfl ?_
    exact kt
  obtain ⟨T2, X2, e2, st2⟩ := getF X1 hx hZ hown (host := "") (Or.inl (ow hw 37 rfl)) Via.refl e1 F_entities_o0 (g := (mkF m 6 #[sR o0, sI p1, sR o0, sI p3] [(.ref o0), (.int p1), (.ref a1)])) rfl rfl (hb hby d9_6)
  refine Go.pre st2 ?_
  show Go p e below s _ _ _ (T2.setTop (mkF m 9 #[sR o0, sI p1, sR o0, sI p3] [(.ref a1), (.int p1), (.ref a1)]))
  refine Go.pre (st' := T2.setTop (mkF m 10 #[sR o0, sI p1, sR o0, sI p3] [(.int p3), (.ref a1), (.int p1), (.ref a1)])) (fun target kt => ?_) ?_
  · show Steps p.tables e below (T2.setTop (mkF m 9 #[sR o0, sI p1, sR o0, sI p3] [(.ref a1), (.int p1), (.ref a1)])) _
    refine XS.iloadN X2.here hx rfl (hb hby d9_9) rfl ?_
    exact kt
  obtain ⟨cl3, Ar3, q3, Sz3, Nn3, Hs3⟩ := id B_a1
  have in3 : ¬ (p3 < 0 ∨ cl3.slots.size ≤ (p3).toNatClampNeg) := by rw [Sz3]; exact hin_p3
  have at3 : cl3.slots[(p3).toNatClampNeg]? = some (.ref r) := (Hs3 _ in3).1.trans (congrArg some hr1)
  refine Go.pre (X2.aaload hx (j := p3) (v := (.ref r)) (by rw [e2]; exact Ar3.1) (State.isArrayOf_alike hZ.alike Ar3.2.1) rfl Ar3.2.2 in3 at3 (g := (mkF m 10 #[sR o0, sI p1, sR o0, sI p3] [(.int p3), (.ref a1), (.int p1), (.ref a1)])) rfl rfl (hb hby d9_10)) ?_
  show Go p e below s _ _ _ (T2.setTop (mkF m 11 #[sR o0, sI p1, sR o0, sI p3] [(.ref r), (.int p1), (.ref a1)]))
  obtain ⟨cl4, Ar4, q4, Sz4, Nn4, Hs4⟩ := id B_a1
  have in4 : ¬ (p1 < 0 ∨ cl4.slots.size ≤ (p1).toNatClampNeg) := by rw [Sz4]; exact hin_p1
  obtain ⟨T4, h4, X4, e4, W4, st4⟩ := stR X2 hx hZ e2 Ar4 (j := p1) in4 rfl (Sto.ofV Ar4 q4 O_a (Ins.self E_r)) (g := (mkF m 11 #[sR o0, sI p1, sR o0, sI p3] [(.ref r), (.int p1), (.ref a1)])) rfl rfl (hb hby d9_11)
  have sz4 : h0.size ≤ h4.size := (Keep.of_wr W4).1
  have V4 : Arf Z h4 a1 ka1 (.object "java/lang/String") (1024 : Int32) (own_upd fa1 p1 (.ref r)) := Arf.set Ar4 q4 Sz4 Nn4 Hs4 rfl in4 W4
  have N4 := Fr.snoc X4 N0 (by omega)
  refine Go.pre st4 ?_
  show Go p e below s _ _ _ (T4.setTop (mkF m 12 #[sR o0, sI p1, sR o0, sI p3] []))
  refine Go.pre (st' := T4.setTop (mkF m 13 #[sR o0, sI p1, sR o0, sI p3] [(.ref o0)])) (fun target kt => ?_) ?_
  · show Steps p.tables e below (T4.setTop (mkF m 12 #[sR o0, sI p1, sR o0, sI p3] [])) _
    refine XS.aloadN X4.here hx rfl (hb hby d9_12) rfl rfl ?_
    exact kt
  have Y5 : Fld Z h4 o0 "com/example/satzung/satzung/validate/PlacePage" "lines" "[J" (.ref a2) := (F_lines_o0.other W4 (Or.inl n_o0_a1))
  obtain ⟨T6, X6, e6, st6⟩ := getF X4 hx hZ hown (host := "") (Or.inl (ow hw 40 rfl)) Via.refl e4 Y5 (g := (mkF m 13 #[sR o0, sI p1, sR o0, sI p3] [(.ref o0)])) rfl rfl (hb hby d9_13)
  refine Go.pre st6 ?_
  show Go p e below s _ _ _ (T6.setTop (mkF m 16 #[sR o0, sI p1, sR o0, sI p3] [(.ref a2)]))
  refine Go.pre (st' := T6.setTop (mkF m 18 #[sR o0, sI p1, sR o0, sI p3] [(.ref o0), (.int p1), (.ref a2)])) (fun target kt => ?_) ?_
  · show Steps p.tables e below (T6.setTop (mkF m 16 #[sR o0, sI p1, sR o0, sI p3] [(.ref a2)])) _
    refine XS.iloadN X6.here hx rfl (hb hby d9_16) rfl ?_
    refine XS.aloadN X6.here hx rfl (hb hby d9_17) rfl rfl ?_
    exact kt
  obtain ⟨T7, X7, e7, st7⟩ := getF X6 hx hZ hown (host := "") (Or.inl (ow hw 40 rfl)) Via.refl e6 Y5 (g := (mkF m 18 #[sR o0, sI p1, sR o0, sI p3] [(.ref o0), (.int p1), (.ref a2)])) rfl rfl (hb hby d9_18)
  refine Go.pre st7 ?_
  show Go p e below s _ _ _ (T7.setTop (mkF m 21 #[sR o0, sI p1, sR o0, sI p3] [(.ref a2), (.int p1), (.ref a2)]))
  refine Go.pre (st' := T7.setTop (mkF m 22 #[sR o0, sI p1, sR o0, sI p3] [(.int p3), (.ref a2), (.int p1), (.ref a2)])) (fun target kt => ?_) ?_
  · show Steps p.tables e below (T7.setTop (mkF m 21 #[sR o0, sI p1, sR o0, sI p3] [(.ref a2), (.int p1), (.ref a2)])) _
    refine XS.iloadN X7.here hx rfl (hb hby d9_21) rfl ?_
    exact kt
  have Y8 : Arf Z h4 a2 ka2 .long (1024 : Int32) fa2 := (B_a2.other W4 (Ne.symm n_a1_a2))
  obtain ⟨cl9, Ar9, q9, Sz9, Nn9, Hs9⟩ := id Y8
  have in9 : ¬ (p3 < 0 ∨ cl9.slots.size ≤ (p3).toNatClampNeg) := by rw [Sz9]; exact hin_p3
  have at9 : cl9.slots[(p3).toNatClampNeg]? = some (.long x1) := (Hs9 _ in9).1.trans (congrArg some hr2)
  refine Go.pre (X7.laload hx (j := p3) (v := (.long x1)) (by rw [e7]; exact Ar9.1) (State.isArrayOf_alike hZ.alike Ar9.2.1) Ar9.2.2 in9 at9 (g := (mkF m 22 #[sR o0, sI p1, sR o0, sI p3] [(.int p3), (.ref a2), (.int p1), (.ref a2)])) rfl rfl (hb hby d9_22)) ?_
  show Go p e below s _ _ _ (T7.setTop (mkF m 23 #[sR o0, sI p1, sR o0, sI p3] [(.long x1), (.int p1), (.ref a2)]))
  obtain ⟨cl10, Ar10, q10, Sz10, Nn10, Hs10⟩ := id Y8
  have in10 : ¬ (p1 < 0 ∨ cl10.slots.size ≤ (p1).toNatClampNeg) := by rw [Sz10]; exact hin_p1
  obtain ⟨T10, h10, X10, e10, W10, st10⟩ := stJ X7 hx hZ e7 Ar10 (j := p1) in10 (g := (mkF m 23 #[sR o0, sI p1, sR o0, sI p3] [(.long x1), (.int p1), (.ref a2)])) rfl rfl (hb hby d9_23)
  have sz10 : h4.size ≤ h10.size := (Keep.of_wr W10).1
  have V10 : Arf Z h10 a2 ka2 .long (1024 : Int32) (own_upd fa2 p1 (.long x1)) := Arf.set Ar10 q10 Sz10 Nn10 Hs10 rfl in10 W10
  have N10 := Fr.snoc X10 N4 (by omega)
  refine Go.pre st10 ?_
  show Go p e below s _ _ _ (T10.setTop (mkF m 24 #[sR o0, sI p1, sR o0, sI p3] []))
  refine Go.pre (st' := T10.setTop (mkF m 25 #[sR o0, sI p1, sR o0, sI p3] [(.ref o0)])) (fun target kt => ?_) ?_
  · show Steps p.tables e below (T10.setTop (mkF m 24 #[sR o0, sI p1, sR o0, sI p3] [])) _
    refine XS.aloadN X10.here hx rfl (hb hby d9_24) rfl rfl ?_
    exact kt
  have Y11 : Fld Z h10 o0 "com/example/satzung/satzung/validate/PlacePage" "columns" "[J" (.ref a3) := ((F_columns_o0.other W4 (Or.inl n_o0_a1)).other W10 (Or.inl n_o0_a2))
  obtain ⟨T12, X12, e12, st12⟩ := getF X10 hx hZ hown (host := "") (Or.inl (ow hw 42 rfl)) Via.refl e10 Y11 (g := (mkF m 25 #[sR o0, sI p1, sR o0, sI p3] [(.ref o0)])) rfl rfl (hb hby d9_25)
  refine Go.pre st12 ?_
  show Go p e below s _ _ _ (T12.setTop (mkF m 28 #[sR o0, sI p1, sR o0, sI p3] [(.ref a3)]))
  refine Go.pre (st' := T12.setTop (mkF m 30 #[sR o0, sI p1, sR o0, sI p3] [(.ref o0), (.int p1), (.ref a3)])) (fun target kt => ?_) ?_
  · show Steps p.tables e below (T12.setTop (mkF m 28 #[sR o0, sI p1, sR o0, sI p3] [(.ref a3)])) _
    refine XS.iloadN X12.here hx rfl (hb hby d9_28) rfl ?_
    refine XS.aloadN X12.here hx rfl (hb hby d9_29) rfl rfl ?_
    exact kt
  obtain ⟨T13, X13, e13, st13⟩ := getF X12 hx hZ hown (host := "") (Or.inl (ow hw 42 rfl)) Via.refl e12 Y11 (g := (mkF m 30 #[sR o0, sI p1, sR o0, sI p3] [(.ref o0), (.int p1), (.ref a3)])) rfl rfl (hb hby d9_30)
  refine Go.pre st13 ?_
  show Go p e below s _ _ _ (T13.setTop (mkF m 33 #[sR o0, sI p1, sR o0, sI p3] [(.ref a3), (.int p1), (.ref a3)]))
  refine Go.pre (st' := T13.setTop (mkF m 34 #[sR o0, sI p1, sR o0, sI p3] [(.int p3), (.ref a3), (.int p1), (.ref a3)])) (fun target kt => ?_) ?_
  · show Steps p.tables e below (T13.setTop (mkF m 33 #[sR o0, sI p1, sR o0, sI p3] [(.ref a3), (.int p1), (.ref a3)])) _
    refine XS.iloadN X13.here hx rfl (hb hby d9_33) rfl ?_
    exact kt
  have Y14 : Arf Z h10 a3 ka3 .long (1024 : Int32) fa3 := ((B_a3.other W4 (Ne.symm n_a1_a3)).other W10 (Ne.symm n_a2_a3))
  obtain ⟨cl15, Ar15, q15, Sz15, Nn15, Hs15⟩ := id Y14
  have in15 : ¬ (p3 < 0 ∨ cl15.slots.size ≤ (p3).toNatClampNeg) := by rw [Sz15]; exact hin_p3
  have at15 : cl15.slots[(p3).toNatClampNeg]? = some (.long x2) := (Hs15 _ in15).1.trans (congrArg some hr3)
  refine Go.pre (X13.laload hx (j := p3) (v := (.long x2)) (by rw [e13]; exact Ar15.1) (State.isArrayOf_alike hZ.alike Ar15.2.1) Ar15.2.2 in15 at15 (g := (mkF m 34 #[sR o0, sI p1, sR o0, sI p3] [(.int p3), (.ref a3), (.int p1), (.ref a3)])) rfl rfl (hb hby d9_34)) ?_
  show Go p e below s _ _ _ (T13.setTop (mkF m 35 #[sR o0, sI p1, sR o0, sI p3] [(.long x2), (.int p1), (.ref a3)]))
  obtain ⟨cl16, Ar16, q16, Sz16, Nn16, Hs16⟩ := id Y14
  have in16 : ¬ (p1 < 0 ∨ cl16.slots.size ≤ (p1).toNatClampNeg) := by rw [Sz16]; exact hin_p1
  obtain ⟨T16, h16, X16, e16, W16, st16⟩ := stJ X13 hx hZ e13 Ar16 (j := p1) in16 (g := (mkF m 35 #[sR o0, sI p1, sR o0, sI p3] [(.long x2), (.int p1), (.ref a3)])) rfl rfl (hb hby d9_35)
  have sz16 : h10.size ≤ h16.size := (Keep.of_wr W16).1
  have V16 : Arf Z h16 a3 ka3 .long (1024 : Int32) (own_upd fa3 p1 (.long x2)) := Arf.set Ar16 q16 Sz16 Nn16 Hs16 rfl in16 W16
  have N16 := Fr.snoc X16 N10 (by omega)
  refine Go.pre st16 ?_
  show Go p e below s _ _ _ (T16.setTop (mkF m 36 #[sR o0, sI p1, sR o0, sI p3] []))
  have Y17 : Arf Z h16 a1 ka1 (.object "java/lang/String") (1024 : Int32) (own_upd fa1 p1 (.ref r)) := ((V4.other W10 n_a1_a2).other W16 n_a1_a3)
  have Y18 : Arf Z h16 a2 ka2 .long (1024 : Int32) (own_upd fa2 p1 (.long x1)) := (V10.other W16 n_a2_a3)
  exact Go.ret0 X16 hx hlk hrt (hb hby d9_36) (by decide) (by decide) (by rw [e16]; exact ⟨rfl, N16, ((((Keep.refl h0 [a1, a2, a3]).wr W4 (Or.inl (List.mem_of_getElem? (i := 0) rfl))).wr W10 (Or.inl (List.mem_of_getElem? (i := 1) rfl))).wr W16 (Or.inl (List.mem_of_getElem? (i := 2) rfl))), ((((KF.refl Z h0 [(a1, (p1).toNatClampNeg), (a2, (p1).toNatClampNeg), (a3, (p1).toNatClampNeg)]).wr W4 (Or.inl (List.mem_of_getElem? (i := 0) rfl))).wr W10 (Or.inl (List.mem_of_getElem? (i := 1) rfl))).wr W16 (Or.inl (List.mem_of_getElem? (i := 2) rfl))), Y17, Y18, V16⟩)
/-! Location.equals (11R) -/
theorem pd11R_0 : parseMethodDescriptor "(Ljava/lang/Object;Ljava/lang/Object;)Z" = some ⟨[(.object "java/lang/Object"), (.object "java/lang/Object")], some .boolean⟩ := by decide +kernel
theorem ef_11R (m : MethodId) (o0 : Addr) (o1 : Addr) : entryFrame m #[(.ref o0), (.ref o1)] 3 = (mkF m 0 #[.val (.ref o0), .val (.ref o1), .unset] []) := by first | (simp [entryFrame, mkF, argsToLocals, Value.category]; done) | rfl
def Q11R (Z : State) (o0 : Addr) (o1 : Addr) (r : Addr) (x1 : Int64) (x2 : Int64) (h0 : Heap) (n0 : Nat) (v : Option Value) (h : Heap) (L : List Loc) : Prop := v = some (.int (1 : Int32)) ∧ Fr n0 L ∧ h = h0
set_option maxRecDepth 65536 in
set_option maxHeartbeats 40000000 in
theorem rm11R (l : Launch) (Z : State) (a0 : Array Value) (hw : ∀ d ∈ tables_1, d.before a0 Z = true) (ws : List Jvm.Cond) (o0 : Addr) (o1 : Addr) (r : Addr) (x1 : Int64) (x2 : Int64) (h0 : Heap) (n0 : Nat) (Z0 : n0 ≤ h0.size) (E_o0 : Exa Z h0 o0 "com/example/satzung/satzung/diagnostics/Location") (F_ent_o0 : Fld Z h0 o0 "com/example/satzung/satzung/diagnostics/Location" "entity" "Ljava/lang/String;" (.ref r)) (F_line_o0 : Fld Z h0 o0 "com/example/satzung/satzung/diagnostics/Location" "line" "J" (.long x1)) (F_col_o0 : Fld Z h0 o0 "com/example/satzung/satzung/diagnostics/Location" "column" "J" (.long x2)) (E_o1 : Exa Z h0 o1 "com/example/satzung/satzung/diagnostics/Location") (F_ent_o1 : Fld Z h0 o1 "com/example/satzung/satzung/diagnostics/Location" "entity" "Ljava/lang/String;" (.ref r)) (F_line_o1 : Fld Z h0 o1 "com/example/satzung/satzung/diagnostics/Location" "line" "J" (.long x1)) (F_col_o1 : Fld Z h0 o1 "com/example/satzung/satzung/diagnostics/Location" "column" "J" (.long x2)) :
    MetFree l (⟨"com/example/satzung/satzung/diagnostics/Location", "equals", "(Ljava/lang/Object;)Z"⟩ : MethodName) (head1 (Jvm.Cond.code (⟨"com/example/satzung/satzung/diagnostics/Location", "equals", "(Ljava/lang/Object;)Z"⟩ : MethodName) prog_39_method_7_code 3 (some .boolean) :: ws) ({ frames := 1, cells := 0, slots := 0, locals := 13 } : Room)) (fun a U => a = #[(.ref o0), (.ref o1)] ∧ Z.Warmed39 U.vm ∧ U.heap = h0) (fun _ _ _ _ _ => True) (fun _ U o U' => ∃ v L, o = .returned v ∧ Q11R Z o0 o1 r x1 x2 h0 n0 v U'.heap L ∧ FrameEnd U o U' L ({ frames := 1, cells := 0, slots := 0, locals := 13 } : Room).cells ({ frames := 1, cells := 0, slots := 0, locals := 13 } : Room).slots) := by
  refine MetFree.of_bodySF (plainFor_of_name pn_11) hisR ?_
  intro p e s m args below meth c s₁ Bd hml0 hP hK
  obtain ⟨rfl, hZ, hh⟩ := hP
  have hx := Bd.exec
  have hby := Bd.bytes
  have hml : c.maxLocals = 3 := hml0
  have hown : s.vm.findClass "com/example/satzung/satzung/diagnostics/Location" = some m.cls := findClass_of_methodNamed Bd.named
  have hnm := (name_of_methodNamed Bd.named Bd.method).1
  have hrt := Bd.returns
  have hlk := Bd.notSynchronized
  have X0 : Stand p l e ({ frames := 1, cells := 0, slots := 0, locals := 13 } : Room) s m #[(.ref o0), (.ref o1)] below meth c s₁ [] 0 0 := Stand.of_body Bd
  have e0 : s₁.heap = h0 := by rw [← hh, Bd.state]; rfl
  have N0 := Fr.nil n0
  have lt_E_o0 : LT.lt (α := Nat) o0 h0.size := E_o0.lt
  have lt_F_ent_o0 : LT.lt (α := Nat) o0 h0.size := F_ent_o0.lt
  have lt_F_line_o0 : LT.lt (α := Nat) o0 h0.size := F_line_o0.lt
  have lt_F_col_o0 : LT.lt (α := Nat) o0 h0.size := F_col_o0.lt
  have lt_E_o1 : LT.lt (α := Nat) o1 h0.size := E_o1.lt
  have lt_F_ent_o1 : LT.lt (α := Nat) o1 h0.size := F_ent_o1.lt
  have lt_F_line_o1 : LT.lt (α := Nat) o1 h0.size := F_line_o1.lt
  have lt_F_col_o1 : LT.lt (α := Nat) o1 h0.size := F_col_o1.lt
  show Go p e below s 0 0 (Q11R Z o0 o1 r x1 x2 h0 n0) (s₁.setTop (entryFrame m #[(.ref o0), (.ref o1)] 3))
  rw [ef_11R m o0 o1]
  refine Go.pre (st' := s₁.setTop (mkF m 1 #[sR o0, sR o1, sU] [(.ref o1)])) (fun target kt => ?_) ?_
  · show Steps p.tables e below (s₁.setTop (mkF m 0 #[sR o0, sR o1, sU] [])) _
    refine XS.aloadN X0.here hx rfl (hb hby d11_0) rfl rfl ?_
    exact kt
  obtain ⟨T1, X1, e1, st1⟩ := instY X0 hx hZ hown (ow hw 82 rfl) e0 (Ins.self E_o1) (g := (mkF m 1 #[sR o0, sR o1, sU] [(.ref o1)])) rfl rfl (hb hby d11_1)
  refine Go.pre st1 ?_
  show Go p e below s _ _ _ (T1.setTop (mkF m 4 #[sR o0, sR o1, sU] [(.int (1 : Int32))]))
  refine Go.pre (st' := T1.setTop (mkF m 8 #[sR o0, sR o1, sU] [(.ref o1)])) (fun target kt => ?_) ?_
  · show Steps p.tables e below (T1.setTop (mkF m 4 #[sR o0, sR o1, sU] [(.int (1 : Int32))])) _
    refine XS.ifNo X1.here hx rfl (hb hby d11_4) rfl ((if0 _ _).trans (feq (by decide)).1) ?_
    refine XS.aloadN X1.here hx rfl (hb hby d11_7) rfl rfl ?_
    exact kt
  obtain ⟨T2, X2, e2, st2⟩ := castY X1 hx hZ hown (ow hw 82 rfl) e1 (Ins.self E_o1) (g := (mkF m 8 #[sR o0, sR o1, sU] [(.ref o1)])) rfl rfl (hb hby d11_8)
  refine Go.pre st2 ?_
  show Go p e below s _ _ _ (T2.setTop (mkF m 11 #[sR o0, sR o1, sU] [(.ref o1)]))
  refine Go.pre (st' := T2.setTop (mkF m 13 #[sR o0, sR o1, sR o1] [(.ref o0)])) (fun target kt => ?_) ?_
  · show Steps p.tables e below (T2.setTop (mkF m 11 #[sR o0, sR o1, sU] [(.ref o1)])) _
    refine XS.astoreN X2.here hx rfl (hb hby d11_11) rfl rfl (l' := #[.val (.ref o0), .val (.ref o1), .val (.ref o1)]) rfl ?_
    refine XS.aloadN X2.here hx rfl (hb hby d11_12) rfl rfl ?_
    exact kt
  obtain ⟨T3, X3, e3, st3⟩ := getF X2 hx hZ hown (host := "") (Or.inl (ow hw 22 rfl)) Via.refl e2 F_ent_o0 (g := (mkF m 13 #[sR o0, sR o1, sR o1] [(.ref o0)])) rfl rfl (hb hby d11_13)
  refine Go.pre st3 ?_
  show Go p e below s _ _ _ (T3.setTop (mkF m 16 #[sR o0, sR o1, sR o1] [(.ref r)]))
  refine Go.pre (st' := T3.setTop (mkF m 17 #[sR o0, sR o1, sR o1] [(.ref o1), (.ref r)])) (fun target kt => ?_) ?_
  · show Steps p.tables e below (T3.setTop (mkF m 16 #[sR o0, sR o1, sR o1] [(.ref r)])) _
    refine XS.aloadN X3.here hx rfl (hb hby d11_16) rfl rfl ?_
    exact kt
  obtain ⟨T4, X4, e4, st4⟩ := getF X3 hx hZ hown (host := "") (Or.inl (ow hw 22 rfl)) Via.refl e3 F_ent_o1 (g := (mkF m 17 #[sR o0, sR o1, sR o1] [(.ref o1), (.ref r)])) rfl rfl (hb hby d11_17)
  refine Go.pre st4 ?_
  show Go p e below s _ _ _ (T4.setTop (mkF m 20 #[sR o0, sR o1, sR o1] [(.ref r), (.ref r)]))
  obtain ⟨_, _, ⟨T5, L5, k5, n5⟩, -, X5, ⟨Lc5, hQ5, l5, y5, z5⟩, st5⟩ := Jvm.LawKit.callS X4 hx (y := (⟨"java/util/Objects", "equals", "(Ljava/lang/Object;Ljava/lang/Object;)Z"⟩ : MethodName)) hown (mvT hZ (ow hw 84 rfl)) (mvT hZ (ow hw 85 rfl)) (mvT hZ (ow hw 86 rfl)) (mvT hZ (ow hw 87 rfl)) (by decide) (backOf (W := 0) (rm12R l Z a0 hw [] r h0 n0 (by omega) ) hZ (ow hw 87 rfl) (ow hw 86 rfl) (by decide) (by decide)) (g := (mkF m 20 #[sR o0, sR o1, sR o1] [(.ref r), (.ref r)])) rfl (by rw [hml]; rfl) (argsL := [(.ref r), (.ref r)]) (rest := []) (lenOf pd11R_0 rfl) rfl (by show 2 * 0 + _ ≤ _; exact Nat.le_of_eq rfl) (hb hby d11_20) (fun vm₁ hvm => ⟨rfl, e4, (by decide : 0 + 0 ≤ _), (by decide : 0 + 0 ≤ _)⟩)
  dsimp only [Pt.U, Pt.locs, Pt.cells, Pt.slots] at X5 l5 y5 z5 st5 hQ5
  subst l5 y5 z5
  obtain ⟨rfl, N5q, e5⟩ := hQ5
  have N5 := Fr.app N0 N5q
  refine Go.pre st5 ?_
  show Go p e below s _ _ _ (T5.setTop (mkF m 23 #[sR o0, sR o1, sR o1] [(.int (1 : Int32))]))
  refine Go.pre (st' := T5.setTop (mkF m 27 #[sR o0, sR o1, sR o1] [(.ref o0)])) (fun target kt => ?_) ?_
  · show Steps p.tables e below (T5.setTop (mkF m 23 #[sR o0, sR o1, sR o1] [(.int (1 : Int32))])) _
    refine XS.ifNo X5.here hx rfl (hb hby d11_23) rfl ((if0 _ _).trans (feq (by decide)).1) ?_
    refine XS.aloadN X5.here hx rfl (hb hby d11_26) rfl rfl ?_
    exact kt
  obtain ⟨T6, X6, e6, st6⟩ := getF X5 hx hZ hown (host := "") (Or.inl (ow hw 24 rfl)) Via.refl e5 F_line_o0 (g := (mkF m 27 #[sR o0, sR o1, sR o1] [(.ref o0)])) rfl rfl (hb hby d11_27)
  refine Go.pre st6 ?_
  show Go p e below s _ _ _ (T6.setTop (mkF m 30 #[sR o0, sR o1, sR o1] [(.long x1)]))
  refine Go.pre (st' := T6.setTop (mkF m 31 #[sR o0, sR o1, sR o1] [(.ref o1), (.long x1)])) (fun target kt => ?_) ?_
  · show Steps p.tables e below (T6.setTop (mkF m 30 #[sR o0, sR o1, sR o1] [(.long x1)])) _
    refine XS.aloadN X6.here hx rfl (hb hby d11_30) rfl rfl ?_
    exact kt
  obtain ⟨T7, X7, e7, st7⟩ := getF X6 hx hZ hown (host := "") (Or.inl (ow hw 24 rfl)) Via.refl e6 F_line_o1 (g := (mkF m 31 #[sR o0, sR o1, sR o1] [(.ref o1), (.long x1)])) rfl rfl (hb hby d11_31)
  refine Go.pre st7 ?_
  show Go p e below s _ _ _ (T7.setTop (mkF m 34 #[sR o0, sR o1, sR o1] [(.long x1), (.long x1)]))
  refine Go.pre (st' := T7.setTop (mkF m 39 #[sR o0, sR o1, sR o1] [(.ref o0)])) (fun target kt => ?_) ?_
  · show Steps p.tables e below (T7.setTop (mkF m 34 #[sR o0, sR o1, sR o1] [(.long x1), (.long x1)])) _
    refine XS.lcmp X7.here hx rfl (hb hby d11_34) rfl ?_
    refine XS.ifNo X7.here hx rfl (hb hby d11_35) rfl ((if0 _ _).trans (teq ((lw_eq _ _).mpr rfl)).2) ?_
    refine XS.aloadN X7.here hx rfl (hb hby d11_38) rfl rfl ?_
    exact kt
  obtain ⟨T8, X8, e8, st8⟩ := getF X7 hx hZ hown (host := "") (Or.inl (ow hw 26 rfl)) Via.refl e7 F_col_o0 (g := (mkF m 39 #[sR o0, sR o1, sR o1] [(.ref o0)])) rfl rfl (hb hby d11_39)
  refine Go.pre st8 ?_
  show Go p e below s _ _ _ (T8.setTop (mkF m 42 #[sR o0, sR o1, sR o1] [(.long x2)]))
  refine Go.pre (st' := T8.setTop (mkF m 43 #[sR o0, sR o1, sR o1] [(.ref o1), (.long x2)])) (fun target kt => ?_) ?_
  · show Steps p.tables e below (T8.setTop (mkF m 42 #[sR o0, sR o1, sR o1] [(.long x2)])) _
    refine XS.aloadN X8.here hx rfl (hb hby d11_42) rfl rfl ?_
    exact kt
  obtain ⟨T9, X9, e9, st9⟩ := getF X8 hx hZ hown (host := "") (Or.inl (ow hw 26 rfl)) Via.refl e8 F_col_o1 (g := (mkF m 43 #[sR o0, sR o1, sR o1] [(.ref o1), (.long x2)])) rfl rfl (hb hby d11_43)
  refine Go.pre st9 ?_
  show Go p e below s _ _ _ (T9.setTop (mkF m 46 #[sR o0, sR o1, sR o1] [(.long x2), (.long x2)]))
  refine Go.pre (st' := T9.setTop (mkF m 55 #[sR o0, sR o1, sR o1] [(.int (1 : Int32))])) (fun target kt => ?_) ?_
  · show Steps p.tables e below (T9.setTop (mkF m 46 #[sR o0, sR o1, sR o1] [(.long x2), (.long x2)])) _
    refine XS.lcmp X9.here hx rfl (hb hby d11_46) rfl ?_
    refine XS.ifNo X9.here hx rfl (hb hby d11_47) rfl ((if0 _ _).trans (teq ((lw_eq _ _).mpr rfl)).2) ?_
    refine XS.iconst X9.here hx rfl (hb hby d11_50) ?_
    refine XS.goto X9.here hx rfl (pc0 := 51) (pc' := 55) rfl (hb hby d11_51) (by decide) (by decide) ?_
    exact kt
  exact Go.retN X9 hx hlk hrt (z' := (1 : Int32)) (by simp) (hb hby d11_55) rfl (by decide) (by decide) (by rw [e9]; exact ⟨rfl, N5, rfl⟩)
theorem pd139A_0 : parseMethodDescriptor "(Ljava/lang/String;JJ)V" = some ⟨[(.object "java/lang/String"), .long, .long], none⟩ := by decide +kernel
theorem pd139A_1 : parseMethodDescriptor "()V" = some ⟨[], none⟩ := by decide +kernel
theorem pd139A_2 : parseMethodDescriptor "(ILcom/example/satzung/satzung/diagnostics/Location;)V" = some ⟨[.int, (.object "com/example/satzung/satzung/diagnostics/Location")], none⟩ := by decide +kernel
theorem pd139A_3 : parseMethodDescriptor "(ILcom/example/satzung/satzung/validate/PlacePage;I)V" = some ⟨[.int, (.object "com/example/satzung/satzung/validate/PlacePage"), .int], none⟩ := by decide +kernel
theorem pd139A_4 : parseMethodDescriptor "(I)Lcom/example/satzung/satzung/diagnostics/Location;" = some ⟨[.int], some (.object "com/example/satzung/satzung/diagnostics/Location")⟩ := by decide +kernel
theorem pd139A_5 : parseMethodDescriptor "(Ljava/lang/Object;)Z" = some ⟨[(.object "java/lang/Object")], some .boolean⟩ := by decide +kernel
set_option maxRecDepth 65536 in
set_option maxHeartbeats 40000000 in
theorem blk139A {p : Program} {l : Launch} {e : Env} {s : State} {m : MethodId} {args : Array Value} {below : List Frame} {meth : Method} {c : Code} {Z : State} {a0 : Array Value} {T : State} {locs : List Loc} {h0 : Heap} {n0 : Nat} {vm0 : Vm} {k0 : Nat} (C : Ctx p (s.setVm vm0) m meth c Z code 28 "com/example/satzung/satzung/validate/PlacePageSetPinLaw" (some .boolean)) (hw : ∀ d ∈ tables_1, d.before a0 Z = true) (hS : s.Since vm0 k0) (hk : k0 ≤ h0.size) (hI : IB Z vm0 ["b", ""]) (hnS : n0 = s.heap.size) (hkp : ∀ (b : Addr) (cl : Cell), Z.heap[b]? = some cl → s.heap[b]? = some cl)
    (X0 : Stand p l e room_1 (s.setVm vm0) m args below meth c T locs 20 200) (e0 : T.heap = h0) (N0 : Fr n0 locs) (p0 : Int32) (p1 : Int32) (p2 : Int32) (q3 : Int64) (q4 : Int64) (p5 : Int32) (i8 : Int32) (i9 : Int32) (i10 : Int32) (i11 : Int32) (i12 : Int32) (rb : Addr) (q15 : Int64) (q17 : Int64) (q19 : Int64) (q21 : Int64) (Z0 : n0 ≤ h0.size) (E_rb : Exa Z h0 rb "java/lang/String") (hin8 : ¬ (i8 < 0 ∨ (1024 : Int32).toNatClampNeg ≤ i8.toNatClampNeg)) (hin9 : ¬ (i9 < 0 ∨ (1024 : Int32).toNatClampNeg ≤ i9.toNatClampNeg)) (hin10 : ¬ (i10 < 0 ∨ (1024 : Int32).toNatClampNeg ≤ i10.toNatClampNeg)) (hq15 : ¬ (q15 < (1 : Int64))) (hq17 : ¬ (q17 < (1 : Int64))) (hq19 : ¬ (q19 < (1 : Int64))) (hq21 : ¬ (q21 < (1 : Int64))) :
    GoW p e below s 48 14528 (fun v vm h L => v = some (.int 1) ∧ Fr n0 L) (T.setTop (mkF m 139 #[sI p0, sI p1, sI p2, sL q3, sS, sL q4, sS, sI p5, sI i8, sI i9, sI i10, sI i11, sI i12, sN, sR rb, sL q15, sS, sL q17, sS, sL q19, sS, sL q21, sS, sU, sU, sU, sU, sU] [])) := by
  obtain ⟨hx, hZ, hby, hml, hown, hrt, hlk⟩ := id C
  have lt_E_rb : LT.lt (α := Nat) rb h0.size := E_rb.lt
  obtain ⟨T1, h1, X1, e1, E1, A1, D1, -, st1⟩ := newO X0 hx hZ hown (ow hw 13 rfl) (ow hw 14 rfl) (ow hw 15 rfl) e0 (g := (mkF m 139 #[sI p0, sI p1, sI p2, sL q3, sS, sL q4, sS, sI p5, sI i8, sI i9, sI i10, sI i11, sI i12, sN, sR rb, sL q15, sS, sL q17, sS, sL q19, sS, sL q21, sS, sU, sU, sU, sU, sU] [])) rfl (hb hby at_139) (by decide) (by decide)
  obtain ⟨b1, g1⟩ : ∃ z, z = h0.size := ⟨_, rfl⟩
  rw [← g1] at A1 D1 st1
  have sz1 : h0.size ≤ h1.size := E1.1
  have lt1 : b1 < h1.size := A1.lt
  have F1_entity : Fld Z h1 b1 "com/example/satzung/satzung/diagnostics/Location" "entity" "Ljava/lang/String;" .null := D1 (Or.inr (ow hw 23 rfl)) (ty := (.object "java/lang/String")) (by decide)
  have F1_line : Fld Z h1 b1 "com/example/satzung/satzung/diagnostics/Location" "line" "J" (.long (0 : Int64)) := D1 (Or.inr (ow hw 25 rfl)) (ty := .long) (by decide)
  have F1_column : Fld Z h1 b1 "com/example/satzung/satzung/diagnostics/Location" "column" "J" (.long (0 : Int64)) := D1 (Or.inr (ow hw 27 rfl)) (ty := .long) (by decide)
  refine GoW.pre st1 ?_
  show GoW p e below s _ _ _ (T1.setTop (mkF m 142 #[sI p0, sI p1, sI p2, sL q3, sS, sL q4, sS, sI p5, sI i8, sI i9, sI i10, sI i11, sI i12, sN, sR rb, sL q15, sS, sL q17, sS, sL q19, sS, sL q21, sS, sU, sU, sU, sU, sU] [(.ref b1)]))
  refine GoW.pre (st' := T1.setTop (mkF m 149 #[sI p0, sI p1, sI p2, sL q3, sS, sL q4, sS, sI p5, sI i8, sI i9, sI i10, sI i11, sI i12, sN, sR rb, sL q15, sS, sL q17, sS, sL q19, sS, sL q21, sS, sU, sU, sU, sU, sU] [(.long q17), (.long q15), .null, (.ref b1), (.ref b1)])) (fun target kt => ?_) ?_
  · show Steps p.tables e below (T1.setTop (mkF m 142 #[sI p0, sI p1, sI p2, sL q3, sS, sL q4, sS, sI p5, sI i8, sI i9, sI i10, sI i11, sI i12, sN, sR rb, sL q15, sS, sL q17, sS, sL q19, sS, sL q21, sS, sU, sU, sU, sU, sU] [(.ref b1)])) _
    refine XS.dup X1.here hx rfl (hb hby at_142) rfl rfl ?_
    refine XS.aload X1.here hx rfl (hb hby at_143) rfl rfl ?_
    refine XS.lload X1.here hx rfl (hb hby at_145) rfl ?_
    refine XS.lload X1.here hx rfl (hb hby at_147) rfl ?_
    exact kt
  obtain ⟨_, _, ⟨T2, L2, k2, n2⟩, -, X2, ⟨Lc2, hQ2, l2, y2, z2⟩, st2⟩ := X1.specialBack hx (y := (⟨"com/example/satzung/satzung/diagnostics/Location", "<init>", "(Ljava/lang/String;JJ)V"⟩ : MethodName)) rfl hown (mvT hZ (ow hw 16 rfl)) (mvT hZ (ow hw 17 rfl)) (mvT hZ (ow hw 18 rfl)) (by decide) (backOf (W := 1) (rm2N l Z a0 hw [] b1 q15 q17 .null (.long (0 : Int64)) (.long (0 : Int64)) h1 n0 (by omega) A1 F1_entity (by omega) F1_line F1_column (by first | assumption | decide) (by first | assumption | decide)) hZ (ow hw 18 rfl) (ow hw 15 rfl) (by decide) (by decide)) (g := (mkF m 149 #[sI p0, sI p1, sI p2, sL q3, sS, sL q4, sS, sI p5, sI i8, sI i9, sI i10, sI i11, sI i12, sN, sR rb, sL q15, sS, sL q17, sS, sL q19, sS, sL q21, sS, sU, sU, sU, sU, sU] [(.long q17), (.long q15), .null, (.ref b1), (.ref b1)])) rfl (by rw [hml]; rfl) (Steps.refl _) (a := b1) (argsL := [.null, (.long q15), (.long q17)]) (rest := [(.ref b1)]) (lenOf pd139A_0 rfl) rfl (by show 2 * 0 + _ ≤ _; exact Nat.le_of_eq rfl) (hb hby at_149) (fun vm₁ hvm => ⟨rfl, e1, (by decide : 21 + 0 ≤ _), (by decide : 203 + 0 ≤ _)⟩)
  dsimp only [Pt.U, Pt.locs, Pt.cells, Pt.slots] at X2 l2 y2 z2 st2 hQ2
  subst l2 y2 z2
  obtain ⟨rfl, N2q, K2, KF2, Y2_0, Y2_1, Y2_2⟩ := hQ2
  have sz2 : h1.size ≤ T2.heap.size := K2.1
  have N2 := Fr.app N0 N2q
  refine GoW.trans st2 ?_
  show GoW p e below s _ _ _ (T2.setTop (mkF m 152 #[sI p0, sI p1, sI p2, sL q3, sS, sL q4, sS, sI p5, sI i8, sI i9, sI i10, sI i11, sI i12, sN, sR rb, sL q15, sS, sL q17, sS, sL q19, sS, sL q21, sS, sU, sU, sU, sU, sU] [(.ref b1)]))
  refine GoW.pre (st' := T2.setTop (mkF m 154 #[sI p0, sI p1, sI p2, sL q3, sS, sL q4, sS, sI p5, sI i8, sI i9, sI i10, sI i11, sI i12, sN, sR rb, sL q15, sS, sL q17, sS, sL q19, sS, sL q21, sS, sR b1, sU, sU, sU, sU] [])) (fun target kt => ?_) ?_
  · show Steps p.tables e below (T2.setTop (mkF m 152 #[sI p0, sI p1, sI p2, sL q3, sS, sL q4, sS, sI p5, sI i8, sI i9, sI i10, sI i11, sI i12, sN, sR rb, sL q15, sS, sL q17, sS, sL q19, sS, sL q21, sS, sU, sU, sU, sU, sU] [(.ref b1)])) _
    refine XS.astore X2.here hx rfl (hb hby at_152) rfl rfl (l' := #[.val (.int p0), .val (.int p1), .val (.int p2), .val (.long q3), .second, .val (.long q4), .second, .val (.int p5), .val (.int i8), .val (.int i9), .val (.int i10), .val (.int i11), .val (.int i12), .val .null, .val (.ref rb), .val (.long q15), .second, .val (.long q17), .second, .val (.long q19), .second, .val (.long q21), .second, .val (.ref b1), .unset, .unset, .unset, .unset]) rfl ?_
    exact kt
  obtain ⟨T3, h3, X3, e3, E3, A3, D3, -, st3⟩ := newO X2 hx hZ hown (ow hw 13 rfl) (ow hw 14 rfl) (ow hw 15 rfl) rfl (g := (mkF m 154 #[sI p0, sI p1, sI p2, sL q3, sS, sL q4, sS, sI p5, sI i8, sI i9, sI i10, sI i11, sI i12, sN, sR rb, sL q15, sS, sL q17, sS, sL q19, sS, sL q21, sS, sR b1, sU, sU, sU, sU] [])) rfl (hb hby at_154) (by decide) (by decide)
  obtain ⟨b3, g3⟩ : ∃ z, z = T2.heap.size := ⟨_, rfl⟩
  rw [← g3] at A3 D3 st3
  have sz3 : T2.heap.size ≤ h3.size := E3.1
  have lt3 : b3 < h3.size := A3.lt
  have F3_entity : Fld Z h3 b3 "com/example/satzung/satzung/diagnostics/Location" "entity" "Ljava/lang/String;" .null := D3 (Or.inr (ow hw 23 rfl)) (ty := (.object "java/lang/String")) (by decide)
  have F3_line : Fld Z h3 b3 "com/example/satzung/satzung/diagnostics/Location" "line" "J" (.long (0 : Int64)) := D3 (Or.inr (ow hw 25 rfl)) (ty := .long) (by decide)
  have F3_column : Fld Z h3 b3 "com/example/satzung/satzung/diagnostics/Location" "column" "J" (.long (0 : Int64)) := D3 (Or.inr (ow hw 27 rfl)) (ty := .long) (by decide)
  refine GoW.pre st3 ?_
  show GoW p e below s _ _ _ (T3.setTop (mkF m 157 #[sI p0, sI p1, sI p2, sL q3, sS, sL q4, sS, sI p5, sI i8, sI i9, sI i10, sI i11, sI i12, sN, sR rb, sL q15, sS, sL q17, sS, sL q19, sS, sL q21, sS, sR b1, sU, sU, sU, sU] [(.ref b3)]))
  refine GoW.pre (st' := T3.setTop (mkF m 164 #[sI p0, sI p1, sI p2, sL q3, sS, sL q4, sS, sI p5, sI i8, sI i9, sI i10, sI i11, sI i12, sN, sR rb, sL q15, sS, sL q17, sS, sL q19, sS, sL q21, sS, sR b1, sU, sU, sU, sU] [(.long q21), (.long q19), (.ref rb), (.ref b3), (.ref b3)])) (fun target kt => ?_) ?_
  · show Steps p.tables e below (T3.setTop (mkF m 157 #[sI p0, sI p1, sI p2, sL q3, sS, sL q4, sS, sI p5, sI i8, sI i9, sI i10, sI i11, sI i12, sN, sR rb, sL q15, sS, sL q17, sS, sL q19, sS, sL q21, sS, sR b1, sU, sU, sU, sU] [(.ref b3)])) _
    refine XS.dup X3.here hx rfl (hb hby at_157) rfl rfl ?_
    refine XS.aload X3.here hx rfl (hb hby at_158) rfl rfl ?_
    refine XS.lload X3.here hx rfl (hb hby at_160) rfl ?_
    refine XS.lload X3.here hx rfl (hb hby at_162) rfl ?_
    exact kt
  obtain ⟨_, _, ⟨T4, L4, k4, n4⟩, -, X4, ⟨Lc4, hQ4, l4, y4, z4⟩, st4⟩ := X3.specialBack hx (y := (⟨"com/example/satzung/satzung/diagnostics/Location", "<init>", "(Ljava/lang/String;JJ)V"⟩ : MethodName)) rfl hown (mvT hZ (ow hw 16 rfl)) (mvT hZ (ow hw 17 rfl)) (mvT hZ (ow hw 18 rfl)) (by decide) (backOf (W := 1) (rm2R l Z a0 hw [] b3 rb q19 q21 .null (.long (0 : Int64)) (.long (0 : Int64)) h3 n0 (by omega) A3 F3_entity (by omega) F3_line F3_column (by first | assumption | decide) (by first | assumption | decide)) hZ (ow hw 18 rfl) (ow hw 15 rfl) (by decide) (by decide)) (g := (mkF m 164 #[sI p0, sI p1, sI p2, sL q3, sS, sL q4, sS, sI p5, sI i8, sI i9, sI i10, sI i11, sI i12, sN, sR rb, sL q15, sS, sL q17, sS, sL q19, sS, sL q21, sS, sR b1, sU, sU, sU, sU] [(.long q21), (.long q19), (.ref rb), (.ref b3), (.ref b3)])) rfl (by rw [hml]; rfl) (Steps.refl _) (a := b3) (argsL := [(.ref rb), (.long q19), (.long q21)]) (rest := [(.ref b3)]) (lenOf pd139A_0 rfl) rfl (by show 2 * 0 + _ ≤ _; exact Nat.le_of_eq rfl) (hb hby at_164) (fun vm₁ hvm => ⟨rfl, e3, (by decide : 22 + 0 ≤ _), (by decide : 206 + 0 ≤ _)⟩)
  dsimp only [Pt.U, Pt.locs, Pt.cells, Pt.slots] at X4 l4 y4 z4 st4 hQ4
  subst l4 y4 z4
  obtain ⟨rfl, N4q, K4, KF4, Y4_0, Y4_1, Y4_2⟩ := hQ4
  have sz4 : h3.size ≤ T4.heap.size := K4.1
  have N4 := Fr.app N2 N4q
  refine GoW.trans st4 ?_
  show GoW p e below s _ _ _ (T4.setTop (mkF m 167 #[sI p0, sI p1, sI p2, sL q3, sS, sL q4, sS, sI p5, sI i8, sI i9, sI i10, sI i11, sI i12, sN, sR rb, sL q15, sS, sL q17, sS, sL q19, sS, sL q21, sS, sR b1, sU, sU, sU, sU] [(.ref b3)]))
  refine GoW.pre (st' := T4.setTop (mkF m 169 #[sI p0, sI p1, sI p2, sL q3, sS, sL q4, sS, sI p5, sI i8, sI i9, sI i10, sI i11, sI i12, sN, sR rb, sL q15, sS, sL q17, sS, sL q19, sS, sL q21, sS, sR b1, sR b3, sU, sU, sU] [])) (fun target kt => ?_) ?_
  · show Steps p.tables e below (T4.setTop (mkF m 167 #[sI p0, sI p1, sI p2, sL q3, sS, sL q4, sS, sI p5, sI i8, sI i9, sI i10, sI i11, sI i12, sN, sR rb, sL q15, sS, sL q17, sS, sL q19, sS, sL q21, sS, sR b1, sU, sU, sU, sU] [(.ref b3)])) _
    refine XS.astore X4.here hx rfl (hb hby at_167) rfl rfl (l' := #[.val (.int p0), .val (.int p1), .val (.int p2), .val (.long q3), .second, .val (.long q4), .second, .val (.int p5), .val (.int i8), .val (.int i9), .val (.int i10), .val (.int i11), .val (.int i12), .val .null, .val (.ref rb), .val (.long q15), .second, .val (.long q17), .second, .val (.long q19), .second, .val (.long q21), .second, .val (.ref b1), .val (.ref b3), .unset, .unset, .unset]) rfl ?_
    exact kt
  obtain ⟨T5, h5, X5, e5, E5, A5, D5, -, st5⟩ := newO X4 hx hZ hown (ow hw 28 rfl) (ow hw 29 rfl) (ow hw 30 rfl) rfl (g := (mkF m 169 #[sI p0, sI p1, sI p2, sL q3, sS, sL q4, sS, sI p5, sI i8, sI i9, sI i10, sI i11, sI i12, sN, sR rb, sL q15, sS, sL q17, sS, sL q19, sS, sL q21, sS, sR b1, sR b3, sU, sU, sU] [])) rfl (hb hby at_169) (by decide) (by decide)
  obtain ⟨b5, g5⟩ : ∃ z, z = T4.heap.size := ⟨_, rfl⟩
  rw [← g5] at A5 D5 st5
  have sz5 : T4.heap.size ≤ h5.size := E5.1
  have lt5 : b5 < h5.size := A5.lt
  have F5_entities : Fld Z h5 b5 "com/example/satzung/satzung/validate/PlacePage" "entities" "[Ljava/lang/String;" .null := D5 (Or.inr (ow hw 38 rfl)) (ty := (.array (.object "java/lang/String"))) (by decide)
  have F5_lines : Fld Z h5 b5 "com/example/satzung/satzung/validate/PlacePage" "lines" "[J" .null := D5 (Or.inr (ow hw 41 rfl)) (ty := (.array .long)) (by decide)
  have F5_columns : Fld Z h5 b5 "com/example/satzung/satzung/validate/PlacePage" "columns" "[J" .null := D5 (Or.inr (ow hw 43 rfl)) (ty := (.array .long)) (by decide)
  refine GoW.pre st5 ?_
  show GoW p e below s _ _ _ (T5.setTop (mkF m 172 #[sI p0, sI p1, sI p2, sL q3, sS, sL q4, sS, sI p5, sI i8, sI i9, sI i10, sI i11, sI i12, sN, sR rb, sL q15, sS, sL q17, sS, sL q19, sS, sL q21, sS, sR b1, sR b3, sU, sU, sU] [(.ref b5)]))
  refine GoW.pre (st' := T5.setTop (mkF m 173 #[sI p0, sI p1, sI p2, sL q3, sS, sL q4, sS, sI p5, sI i8, sI i9, sI i10, sI i11, sI i12, sN, sR rb, sL q15, sS, sL q17, sS, sL q19, sS, sL q21, sS, sR b1, sR b3, sU, sU, sU] [(.ref b5), (.ref b5)])) (fun target kt => ?_) ?_
  · show Steps p.tables e below (T5.setTop (mkF m 172 #[sI p0, sI p1, sI p2, sL q3, sS, sL q4, sS, sI p5, sI i8, sI i9, sI i10, sI i11, sI i12, sN, sR rb, sL q15, sS, sL q17, sS, sL q19, sS, sL q21, sS, sR b1, sR b3, sU, sU, sU] [(.ref b5)])) _
    refine XS.dup X5.here hx rfl (hb hby at_172) rfl rfl ?_
    exact kt
  obtain ⟨_, _, ⟨T6, L6, k6, n6⟩, -, X6, ⟨Lc6, hQ6, l6, y6, z6⟩, st6⟩ := X5.specialBack hx (y := (⟨"com/example/satzung/satzung/validate/PlacePage", "<init>", "()V"⟩ : MethodName)) rfl hown (mvT hZ (ow hw 31 rfl)) (mvT hZ (ow hw 32 rfl)) (mvT hZ (ow hw 33 rfl)) (by decide) (backOf (W := 1) (rm4 l Z a0 hw [] b5 .null .null .null h5 n0 (by omega) A5 F5_entities (by omega) F5_lines F5_columns) hZ (ow hw 33 rfl) (ow hw 30 rfl) (by decide) (by decide)) (g := (mkF m 173 #[sI p0, sI p1, sI p2, sL q3, sS, sL q4, sS, sI p5, sI i8, sI i9, sI i10, sI i11, sI i12, sN, sR rb, sL q15, sS, sL q17, sS, sL q19, sS, sL q21, sS, sR b1, sR b3, sU, sU, sU] [(.ref b5), (.ref b5)])) rfl (by rw [hml]; rfl) (Steps.refl _) (a := b5) (argsL := []) (rest := [(.ref b5)]) (lenOf pd139A_1 rfl) rfl (by show 2 * 0 + _ ≤ _; exact Nat.le_of_eq rfl) (hb hby at_173) (fun vm₁ hvm => ⟨rfl, e5, (by decide : 23 + 3 ≤ _), (by decide : 209 + 3072 ≤ _)⟩)
  dsimp only [Pt.U, Pt.locs, Pt.cells, Pt.slots] at X6 l6 y6 z6 st6 hQ6
  subst l6 y6 z6
  obtain ⟨b6_0, b6_1, b6_2, k6_0, k6_1, k6_2, rfl, N6q, K6, KF6, gb6_0, ltb6_0, gb6_1, ltb6_1, lob6_1, gb6_2, ltb6_2, lob6_2, Y6_0, Y6_1, Y6_2, Y6_3, Y6_4, Y6_5, Y6_6⟩ := hQ6
  have sz6 : h5.size ≤ T6.heap.size := K6.1
  have N6 := Fr.app N4 N6q
  refine GoW.trans st6 ?_
  show GoW p e below s _ _ _ (T6.setTop (mkF m 176 #[sI p0, sI p1, sI p2, sL q3, sS, sL q4, sS, sI p5, sI i8, sI i9, sI i10, sI i11, sI i12, sN, sR rb, sL q15, sS, sL q17, sS, sL q19, sS, sL q21, sS, sR b1, sR b3, sU, sU, sU] [(.ref b5)]))
  refine GoW.pre (st' := T6.setTop (mkF m 180 #[sI p0, sI p1, sI p2, sL q3, sS, sL q4, sS, sI p5, sI i8, sI i9, sI i10, sI i11, sI i12, sN, sR rb, sL q15, sS, sL q17, sS, sL q19, sS, sL q21, sS, sR b1, sR b3, sR b5, sU, sU] [(.int i12)])) (fun target kt => ?_) ?_
  · show Steps p.tables e below (T6.setTop (mkF m 176 #[sI p0, sI p1, sI p2, sL q3, sS, sL q4, sS, sI p5, sI i8, sI i9, sI i10, sI i11, sI i12, sN, sR rb, sL q15, sS, sL q17, sS, sL q19, sS, sL q21, sS, sR b1, sR b3, sU, sU, sU] [(.ref b5)])) _
    refine XS.astore X6.here hx rfl (hb hby at_176) rfl rfl (l' := #[.val (.int p0), .val (.int p1), .val (.int p2), .val (.long q3), .second, .val (.long q4), .second, .val (.int p5), .val (.int i8), .val (.int i9), .val (.int i10), .val (.int i11), .val (.int i12), .val .null, .val (.ref rb), .val (.long q15), .second, .val (.long q17), .second, .val (.long q19), .second, .val (.long q21), .second, .val (.ref b1), .val (.ref b3), .val (.ref b5), .unset, .unset]) rfl ?_
    refine XS.iload X6.here hx rfl (hb hby at_178) rfl ?_
    exact kt
  by_cases h180_7 : i12 = (0 : Int32)
  · refine GoW.pre (st' := T6.setTop (mkF m 188 #[sI p0, sI p1, sI p2, sL q3, sS, sL q4, sS, sI p5, sI i8, sI i9, sI i10, sI i11, sI i12, sN, sR rb, sL q15, sS, sL q17, sS, sL q19, sS, sL q21, sS, sR b1, sR b3, sR b5, sU, sU] [])) (fun target kt => ?_) ?_
    · show Steps p.tables e below (T6.setTop (mkF m 180 #[sI p0, sI p1, sI p2, sL q3, sS, sL q4, sS, sI p5, sI i8, sI i9, sI i10, sI i11, sI i12, sN, sR rb, sL q15, sS, sL q17, sS, sL q19, sS, sL q21, sS, sR b1, sR b3, sR b5, sU, sU] [(.int i12)])) _
      refine XS.ifYes X6.here hx rfl (pc0 := 180) (pc' := 188) rfl (hb hby at_180) rfl ((if0 _ _).trans (teq h180_7).1) (by decide) (by decide) ?_
      exact kt
    obtain ⟨T8, h8, X8, e8, E8, A8, D8, -, st8⟩ := newO X6 hx hZ hown (ow hw 28 rfl) (ow hw 29 rfl) (ow hw 30 rfl) rfl (g := (mkF m 188 #[sI p0, sI p1, sI p2, sL q3, sS, sL q4, sS, sI p5, sI i8, sI i9, sI i10, sI i11, sI i12, sN, sR rb, sL q15, sS, sL q17, sS, sL q19, sS, sL q21, sS, sR b1, sR b3, sR b5, sU, sU] [])) rfl (hb hby at_188) (by decide) (by decide)
    obtain ⟨b8, g8⟩ : ∃ z, z = T6.heap.size := ⟨_, rfl⟩
    rw [← g8] at A8 D8 st8
    have sz8 : T6.heap.size ≤ h8.size := E8.1
    have lt8 : b8 < h8.size := A8.lt
    have F8_entities : Fld Z h8 b8 "com/example/satzung/satzung/validate/PlacePage" "entities" "[Ljava/lang/String;" .null := D8 (Or.inr (ow hw 38 rfl)) (ty := (.array (.object "java/lang/String"))) (by decide)
    have F8_lines : Fld Z h8 b8 "com/example/satzung/satzung/validate/PlacePage" "lines" "[J" .null := D8 (Or.inr (ow hw 41 rfl)) (ty := (.array .long)) (by decide)
    have F8_columns : Fld Z h8 b8 "com/example/satzung/satzung/validate/PlacePage" "columns" "[J" .null := D8 (Or.inr (ow hw 43 rfl)) (ty := (.array .long)) (by decide)
    refine GoW.pre st8 ?_
    show GoW p e below s _ _ _ (T8.setTop (mkF m 191 #[sI p0, sI p1, sI p2, sL q3, sS, sL q4, sS, sI p5, sI i8, sI i9, sI i10, sI i11, sI i12, sN, sR rb, sL q15, sS, sL q17, sS, sL q19, sS, sL q21, sS, sR b1, sR b3, sR b5, sU, sU] [(.ref b8)]))
    refine GoW.pre (st' := T8.setTop (mkF m 192 #[sI p0, sI p1, sI p2, sL q3, sS, sL q4, sS, sI p5, sI i8, sI i9, sI i10, sI i11, sI i12, sN, sR rb, sL q15, sS, sL q17, sS, sL q19, sS, sL q21, sS, sR b1, sR b3, sR b5, sU, sU] [(.ref b8), (.ref b8)])) (fun target kt => ?_) ?_
    · show Steps p.tables e below (T8.setTop (mkF m 191 #[sI p0, sI p1, sI p2, sL q3, sS, sL q4, sS, sI p5, sI i8, sI i9, sI i10, sI i11, sI i12, sN, sR rb, sL q15, sS, sL q17, sS, sL q19, sS, sL q21, sS, sR b1, sR b3, sR b5, sU, sU] [(.ref b8)])) _
      refine XS.dup X8.here hx rfl (hb hby at_191) rfl rfl ?_
      exact kt
    obtain ⟨_, _, ⟨T9, L9, k9, n9⟩, -, X9, ⟨Lc9, hQ9, l9, y9, z9⟩, st9⟩ := X8.specialBack hx (y := (⟨"com/example/satzung/satzung/validate/PlacePage", "<init>", "()V"⟩ : MethodName)) rfl hown (mvT hZ (ow hw 31 rfl)) (mvT hZ (ow hw 32 rfl)) (mvT hZ (ow hw 33 rfl)) (by decide) (backOf (W := 1) (rm4 l Z a0 hw [] b8 .null .null .null h8 n0 (by omega) A8 F8_entities (by omega) F8_lines F8_columns) hZ (ow hw 33 rfl) (ow hw 30 rfl) (by decide) (by decide)) (g := (mkF m 192 #[sI p0, sI p1, sI p2, sL q3, sS, sL q4, sS, sI p5, sI i8, sI i9, sI i10, sI i11, sI i12, sN, sR rb, sL q15, sS, sL q17, sS, sL q19, sS, sL q21, sS, sR b1, sR b3, sR b5, sU, sU] [(.ref b8), (.ref b8)])) rfl (by rw [hml]; rfl) (Steps.refl _) (a := b8) (argsL := []) (rest := [(.ref b8)]) (lenOf pd139A_1 rfl) rfl (by show 2 * 0 + _ ≤ _; exact Nat.le_of_eq rfl) (hb hby at_192) (fun vm₁ hvm => ⟨rfl, e8, (by decide : 27 + 3 ≤ _), (by decide : 3284 + 3072 ≤ _)⟩)
    dsimp only [Pt.U, Pt.locs, Pt.cells, Pt.slots] at X9 l9 y9 z9 st9 hQ9
    subst l9 y9 z9
    obtain ⟨b9_0, b9_1, b9_2, k9_0, k9_1, k9_2, rfl, N9q, K9, KF9, gb9_0, ltb9_0, gb9_1, ltb9_1, lob9_1, gb9_2, ltb9_2, lob9_2, Y9_0, Y9_1, Y9_2, Y9_3, Y9_4, Y9_5, Y9_6⟩ := hQ9
    have sz9 : h8.size ≤ T9.heap.size := K9.1
    have N9 := Fr.app N6 N9q
    refine GoW.trans st9 ?_
    show GoW p e below s _ _ _ (T9.setTop (mkF m 195 #[sI p0, sI p1, sI p2, sL q3, sS, sL q4, sS, sI p5, sI i8, sI i9, sI i10, sI i11, sI i12, sN, sR rb, sL q15, sS, sL q17, sS, sL q19, sS, sL q21, sS, sR b1, sR b3, sR b5, sU, sU] [(.ref b8)]))
    refine GoW.pre (st' := T9.setTop (mkF m 203 #[sI p0, sI p1, sI p2, sL q3, sS, sL q4, sS, sI p5, sI i8, sI i9, sI i10, sI i11, sI i12, sN, sR rb, sL q15, sS, sL q17, sS, sL q19, sS, sL q21, sS, sR b1, sR b3, sR b5, sR b8, sU] [(.ref b3), (.int i10), (.ref b5)])) (fun target kt => ?_) ?_
    · show Steps p.tables e below (T9.setTop (mkF m 195 #[sI p0, sI p1, sI p2, sL q3, sS, sL q4, sS, sI p5, sI i8, sI i9, sI i10, sI i11, sI i12, sN, sR rb, sL q15, sS, sL q17, sS, sL q19, sS, sL q21, sS, sR b1, sR b3, sR b5, sU, sU] [(.ref b8)])) _
      refine XS.astore X9.here hx rfl (hb hby at_195) rfl rfl (l' := #[.val (.int p0), .val (.int p1), .val (.int p2), .val (.long q3), .second, .val (.long q4), .second, .val (.int p5), .val (.int i8), .val (.int i9), .val (.int i10), .val (.int i11), .val (.int i12), .val .null, .val (.ref rb), .val (.long q15), .second, .val (.long q17), .second, .val (.long q19), .second, .val (.long q21), .second, .val (.ref b1), .val (.ref b3), .val (.ref b5), .val (.ref b8), .unset]) rfl ?_
      refine XS.aload X9.here hx rfl (hb hby at_197) rfl rfl ?_
      refine XS.iload X9.here hx rfl (hb hby at_199) rfl ?_
      refine XS.aload X9.here hx rfl (hb hby at_201) rfl rfl ?_
      exact kt
    have Y11 : Exa Z T9.heap b5 "com/example/satzung/satzung/validate/PlacePage" := (((A5.keep K6).ext E8).keep K9)
    have Y12 : Fld Z T9.heap b5 "com/example/satzung/satzung/validate/PlacePage" "entities" "[Ljava/lang/String;" (.ref b6_0) := ((Y6_0.ext E8).keep K9 (ninS (neN (by omega)) nin0))
    have Y13 : Arf Z T9.heap b6_0 k6_0 (.object "java/lang/String") (1024 : Int32) (fun _ => .null) := ((Y6_3.ext E8).keep K9 (ninS (neN (by omega)) nin0))
    have Y14 : Fld Z T9.heap b5 "com/example/satzung/satzung/validate/PlacePage" "lines" "[J" (.ref b6_1) := ((Y6_1.ext E8).keep K9 (ninS (neN (by omega)) nin0))
    have Y15 : Arf Z T9.heap b6_1 k6_1 .long (1024 : Int32) (fun _ => (.long (0 : Int64))) := ((Y6_5.ext E8).keep K9 (ninS (neN (by omega)) nin0))
    have Y16 : Fld Z T9.heap b5 "com/example/satzung/satzung/validate/PlacePage" "columns" "[J" (.ref b6_2) := ((Y6_2.ext E8).keep K9 (ninS (neN (by omega)) nin0))
    have Y17 : Arf Z T9.heap b6_2 k6_2 .long (1024 : Int32) (fun _ => (.long (0 : Int64))) := ((Y6_6.ext E8).keep K9 (ninS (neN (by omega)) nin0))
    have Y18 : Exa Z T9.heap b3 "com/example/satzung/satzung/diagnostics/Location" := (((((A3.keep K4).ext E5).keep K6).ext E8).keep K9)
    have Y19 : Fld Z T9.heap b3 "com/example/satzung/satzung/diagnostics/Location" "entity" "Ljava/lang/String;" (.ref rb) := ((((Y4_0.ext E5).keep K6 (ninS (neN (by omega)) nin0)).ext E8).keep K9 (ninS (neN (by omega)) nin0))
    have Y20 : Fld Z T9.heap b3 "com/example/satzung/satzung/diagnostics/Location" "line" "J" (.long q19) := ((((Y4_1.ext E5).keep K6 (ninS (neN (by omega)) nin0)).ext E8).keep K9 (ninS (neN (by omega)) nin0))
    have Y21 : Fld Z T9.heap b3 "com/example/satzung/satzung/diagnostics/Location" "column" "J" (.long q21) := ((((Y4_2.ext E5).keep K6 (ninS (neN (by omega)) nin0)).ext E8).keep K9 (ninS (neN (by omega)) nin0))
    have Y22 : Exa Z T9.heap rb "java/lang/String" := ((((((((E_rb.ext E1).keep K2).ext E3).keep K4).ext E5).keep K6).ext E8).keep K9)
    obtain ⟨cq10, kq10, q10a, q10b, q10c⟩ := isOf hZ rfl Y11
    obtain ⟨_, _, ⟨T10, L10, k10, n10⟩, -, X10, ⟨Lc10, hQ10, l10, y10, z10⟩, st10⟩ := X9.virtualBack hx (y := (⟨"com/example/satzung/satzung/validate/PlacePage", "set", "(ILcom/example/satzung/satzung/diagnostics/Location;)V"⟩ : MethodName)) (z := (⟨"com/example/satzung/satzung/validate/PlacePage", "set", "(ILcom/example/satzung/satzung/diagnostics/Location;)V"⟩ : MethodName)) hown (mvT hZ (ow hw 44 rfl)) (mvT hZ (ow hw 45 rfl)) (notFace_of_selects (args := #[]) (mvT hZ (ow hw 47 rfl))) (mvT hZ (ow hw 47 rfl)) (mvT hZ (ow hw 46 rfl)) (by decide) (backOf (W := 0) (rm5R l Z a0 hw [] b5 i10 b3 rb q19 q21 b6_0 b6_1 b6_2 k6_0 k6_1 k6_2 (fun _ => .null) (fun _ => (.long (0 : Int64))) (fun _ => (.long (0 : Int64))) T9.heap n0 (by omega) Y11 Y12 Y13 Y14 Y15 Y16 Y17 Y6_4 Y18 Y19 Y20 Y21 Y22 (neN (by omega)) (neN (by omega)) (neN (by omega)) (neN (by omega)) (neN (by omega)) (neN (by omega)) (neN (by omega)) (neN (by omega)) (neN (by omega)) (by omega) (by omega) (by omega) (by first | assumption | decide)) hZ (ow hw 48 rfl) (ow hw 30 rfl) (by decide) (by decide)) q10a q10c (g := (mkF m 203 #[sI p0, sI p1, sI p2, sL q3, sS, sL q4, sS, sI p5, sI i8, sI i9, sI i10, sI i11, sI i12, sN, sR rb, sL q15, sS, sL q17, sS, sL q19, sS, sL q21, sS, sR b1, sR b3, sR b5, sR b8, sU] [(.ref b3), (.int i10), (.ref b5)])) rfl (by rw [hml]; rfl) (Steps.refl _) (argsL := [(.int i10), (.ref b3)]) (rest := []) (lenOf pd139A_2 rfl) rfl (by show 2 * 0 + _ ≤ _; exact Nat.le_of_eq rfl) (hb hby at_203) (fun vm₁ hvm => ⟨rfl, rfl, (by decide : 30 + 0 ≤ _), (by decide : 6356 + 0 ≤ _)⟩)
    dsimp only [Pt.U, Pt.locs, Pt.cells, Pt.slots] at X10 l10 y10 z10 st10 hQ10
    subst l10 y10 z10
    obtain ⟨rfl, N10q, K10, KF10, Y10_0, Y10_1, Y10_2⟩ := hQ10
    have sz10 : T9.heap.size ≤ T10.heap.size := K10.1
    have N10 := Fr.app N9 N10q
    refine GoW.trans st10 ?_
    show GoW p e below s _ _ _ (T10.setTop (mkF m 206 #[sI p0, sI p1, sI p2, sL q3, sS, sL q4, sS, sI p5, sI i8, sI i9, sI i10, sI i11, sI i12, sN, sR rb, sL q15, sS, sL q17, sS, sL q19, sS, sL q21, sS, sR b1, sR b3, sR b5, sR b8, sU] []))
    refine GoW.pre (st' := T10.setTop (mkF m 212 #[sI p0, sI p1, sI p2, sL q3, sS, sL q4, sS, sI p5, sI i8, sI i9, sI i10, sI i11, sI i12, sN, sR rb, sL q15, sS, sL q17, sS, sL q19, sS, sL q21, sS, sR b1, sR b3, sR b5, sR b8, sU] [(.ref b1), (.int i9), (.ref b8)])) (fun target kt => ?_) ?_
    · show Steps p.tables e below (T10.setTop (mkF m 206 #[sI p0, sI p1, sI p2, sL q3, sS, sL q4, sS, sI p5, sI i8, sI i9, sI i10, sI i11, sI i12, sN, sR rb, sL q15, sS, sL q17, sS, sL q19, sS, sL q21, sS, sR b1, sR b3, sR b5, sR b8, sU] [])) _
      refine XS.aload X10.here hx rfl (hb hby at_206) rfl rfl ?_
      refine XS.iload X10.here hx rfl (hb hby at_208) rfl ?_
      refine XS.aload X10.here hx rfl (hb hby at_210) rfl rfl ?_
      exact kt
    have Y24 : Exa Z T10.heap b8 "com/example/satzung/satzung/validate/PlacePage" := ((A8.keep K9).keep K10)
    have Y25 : Fld Z T10.heap b8 "com/example/satzung/satzung/validate/PlacePage" "entities" "[Ljava/lang/String;" (.ref b9_0) := (Y9_0.keep K10 (ninS (neN (by omega)) (ninS (neN (by omega)) (ninS (neN (by omega)) nin0))))
    have Y26 : Arf Z T10.heap b9_0 k9_0 (.object "java/lang/String") (1024 : Int32) (fun _ => .null) := (Y9_3.keep K10 (ninS (neN (by omega)) (ninS (neN (by omega)) (ninS (neN (by omega)) nin0))))
    have Y27 : Fld Z T10.heap b8 "com/example/satzung/satzung/validate/PlacePage" "lines" "[J" (.ref b9_1) := (Y9_1.keep K10 (ninS (neN (by omega)) (ninS (neN (by omega)) (ninS (neN (by omega)) nin0))))
    have Y28 : Arf Z T10.heap b9_1 k9_1 .long (1024 : Int32) (fun _ => (.long (0 : Int64))) := (Y9_5.keep K10 (ninS (neN (by omega)) (ninS (neN (by omega)) (ninS (neN (by omega)) nin0))))
    have Y29 : Fld Z T10.heap b8 "com/example/satzung/satzung/validate/PlacePage" "columns" "[J" (.ref b9_2) := (Y9_2.keep K10 (ninS (neN (by omega)) (ninS (neN (by omega)) (ninS (neN (by omega)) nin0))))
    have Y30 : Arf Z T10.heap b9_2 k9_2 .long (1024 : Int32) (fun _ => (.long (0 : Int64))) := (Y9_6.keep K10 (ninS (neN (by omega)) (ninS (neN (by omega)) (ninS (neN (by omega)) nin0))))
    have Y31 : Exa Z T10.heap b1 "com/example/satzung/satzung/diagnostics/Location" := ((((((((A1.keep K2).ext E3).keep K4).ext E5).keep K6).ext E8).keep K9).keep K10)
    have Y32 : Fld Z T10.heap b1 "com/example/satzung/satzung/diagnostics/Location" "entity" "Ljava/lang/String;" .null := (((((((Y2_0.ext E3).keep K4 (ninS (neN (by omega)) nin0)).ext E5).keep K6 (ninS (neN (by omega)) nin0)).ext E8).keep K9 (ninS (neN (by omega)) nin0)).keep K10 (ninS (neN (by omega)) (ninS (neN (by omega)) (ninS (neN (by omega)) nin0))))
    have Y33 : Fld Z T10.heap b1 "com/example/satzung/satzung/diagnostics/Location" "line" "J" (.long q15) := (((((((Y2_1.ext E3).keep K4 (ninS (neN (by omega)) nin0)).ext E5).keep K6 (ninS (neN (by omega)) nin0)).ext E8).keep K9 (ninS (neN (by omega)) nin0)).keep K10 (ninS (neN (by omega)) (ninS (neN (by omega)) (ninS (neN (by omega)) nin0))))
    have Y34 : Fld Z T10.heap b1 "com/example/satzung/satzung/diagnostics/Location" "column" "J" (.long q17) := (((((((Y2_2.ext E3).keep K4 (ninS (neN (by omega)) nin0)).ext E5).keep K6 (ninS (neN (by omega)) nin0)).ext E8).keep K9 (ninS (neN (by omega)) nin0)).keep K10 (ninS (neN (by omega)) (ninS (neN (by omega)) (ninS (neN (by omega)) nin0))))
    obtain ⟨cq23, kq23, q23a, q23b, q23c⟩ := isOf hZ rfl Y24
    obtain ⟨_, _, ⟨T23, L23, k23, n23⟩, -, X23, ⟨Lc23, hQ23, l23, y23, z23⟩, st23⟩ := X10.virtualBack hx (y := (⟨"com/example/satzung/satzung/validate/PlacePage", "set", "(ILcom/example/satzung/satzung/diagnostics/Location;)V"⟩ : MethodName)) (z := (⟨"com/example/satzung/satzung/validate/PlacePage", "set", "(ILcom/example/satzung/satzung/diagnostics/Location;)V"⟩ : MethodName)) hown (mvT hZ (ow hw 44 rfl)) (mvT hZ (ow hw 45 rfl)) (notFace_of_selects (args := #[]) (mvT hZ (ow hw 47 rfl))) (mvT hZ (ow hw 47 rfl)) (mvT hZ (ow hw 46 rfl)) (by decide) (backOf (W := 0) (rm5N l Z a0 hw [] b8 i9 b1 q15 q17 b9_0 b9_1 b9_2 k9_0 k9_1 k9_2 (fun _ => .null) (fun _ => (.long (0 : Int64))) (fun _ => (.long (0 : Int64))) T10.heap n0 (by omega) Y24 Y25 Y26 Y27 Y28 Y29 Y30 Y9_4 Y31 Y32 Y33 Y34 (neN (by omega)) (neN (by omega)) (neN (by omega)) (neN (by omega)) (neN (by omega)) (neN (by omega)) (neN (by omega)) (neN (by omega)) (neN (by omega)) (by omega) (by omega) (by omega) (by first | assumption | decide)) hZ (ow hw 48 rfl) (ow hw 30 rfl) (by decide) (by decide)) q23a q23c (g := (mkF m 212 #[sI p0, sI p1, sI p2, sL q3, sS, sL q4, sS, sI p5, sI i8, sI i9, sI i10, sI i11, sI i12, sN, sR rb, sL q15, sS, sL q17, sS, sL q19, sS, sL q21, sS, sR b1, sR b3, sR b5, sR b8, sU] [(.ref b1), (.int i9), (.ref b8)])) rfl (by rw [hml]; rfl) (Steps.refl _) (argsL := [(.int i9), (.ref b1)]) (rest := []) (lenOf pd139A_2 rfl) rfl (by show 2 * 0 + _ ≤ _; exact Nat.le_of_eq rfl) (hb hby at_212) (fun vm₁ hvm => ⟨rfl, rfl, (by decide : 30 + 0 ≤ _), (by decide : 6356 + 0 ≤ _)⟩)
    dsimp only [Pt.U, Pt.locs, Pt.cells, Pt.slots] at X23 l23 y23 z23 st23 hQ23
    subst l23 y23 z23
    obtain ⟨rfl, N23q, K23, KF23, Y23_0, Y23_1, Y23_2⟩ := hQ23
    have sz23 : T10.heap.size ≤ T23.heap.size := K23.1
    have N23 := Fr.app N10 N23q
    refine GoW.trans st23 ?_
    show GoW p e below s _ _ _ (T23.setTop (mkF m 215 #[sI p0, sI p1, sI p2, sL q3, sS, sL q4, sS, sI p5, sI i8, sI i9, sI i10, sI i11, sI i12, sN, sR rb, sL q15, sS, sL q17, sS, sL q19, sS, sL q21, sS, sR b1, sR b3, sR b5, sR b8, sU] []))
    refine GoW.pre (st' := T23.setTop (mkF m 223 #[sI p0, sI p1, sI p2, sL q3, sS, sL q4, sS, sI p5, sI i8, sI i9, sI i10, sI i11, sI i12, sN, sR rb, sL q15, sS, sL q17, sS, sL q19, sS, sL q21, sS, sR b1, sR b3, sR b5, sR b8, sU] [(.int i9), (.ref b8), (.int i8), (.ref b5)])) (fun target kt => ?_) ?_
    · show Steps p.tables e below (T23.setTop (mkF m 215 #[sI p0, sI p1, sI p2, sL q3, sS, sL q4, sS, sI p5, sI i8, sI i9, sI i10, sI i11, sI i12, sN, sR rb, sL q15, sS, sL q17, sS, sL q19, sS, sL q21, sS, sR b1, sR b3, sR b5, sR b8, sU] [])) _
      refine XS.aload X23.here hx rfl (hb hby at_215) rfl rfl ?_
      refine XS.iload X23.here hx rfl (hb hby at_217) rfl ?_
      refine XS.aload X23.here hx rfl (hb hby at_219) rfl rfl ?_
      refine XS.iload X23.here hx rfl (hb hby at_221) rfl ?_
      exact kt
    have Y36 : Exa Z T23.heap b5 "com/example/satzung/satzung/validate/PlacePage" := ((Y11.keep K10).keep K23)
    have Y37 : Fld Z T23.heap b5 "com/example/satzung/satzung/validate/PlacePage" "entities" "[Ljava/lang/String;" (.ref b6_0) := ((Y12.keep K10 (ninS (neN (by omega)) (ninS (neN (by omega)) (ninS (neN (by omega)) nin0)))).keep K23 (ninS (neN (by omega)) (ninS (neN (by omega)) (ninS (neN (by omega)) nin0))))
    have Y38 : Arf Z T23.heap b6_0 k6_0 (.object "java/lang/String") (1024 : Int32) (own_upd (fun _ => .null) i10 (.ref rb)) := (Y10_0.keep K23 (ninS (neN (by omega)) (ninS (neN (by omega)) (ninS (neN (by omega)) nin0))))
    have Y39 : Fld Z T23.heap b5 "com/example/satzung/satzung/validate/PlacePage" "lines" "[J" (.ref b6_1) := ((Y14.keep K10 (ninS (neN (by omega)) (ninS (neN (by omega)) (ninS (neN (by omega)) nin0)))).keep K23 (ninS (neN (by omega)) (ninS (neN (by omega)) (ninS (neN (by omega)) nin0))))
    have Y40 : Arf Z T23.heap b6_1 k6_1 .long (1024 : Int32) (own_upd (fun _ => (.long (0 : Int64))) i10 (.long q19)) := (Y10_1.keep K23 (ninS (neN (by omega)) (ninS (neN (by omega)) (ninS (neN (by omega)) nin0))))
    have Y41 : Fld Z T23.heap b5 "com/example/satzung/satzung/validate/PlacePage" "columns" "[J" (.ref b6_2) := ((Y16.keep K10 (ninS (neN (by omega)) (ninS (neN (by omega)) (ninS (neN (by omega)) nin0)))).keep K23 (ninS (neN (by omega)) (ninS (neN (by omega)) (ninS (neN (by omega)) nin0))))
    have Y42 : Arf Z T23.heap b6_2 k6_2 .long (1024 : Int32) (own_upd (fun _ => (.long (0 : Int64))) i10 (.long q21)) := (Y10_2.keep K23 (ninS (neN (by omega)) (ninS (neN (by omega)) (ninS (neN (by omega)) nin0))))
    have Y43 : Exa Z T23.heap b8 "com/example/satzung/satzung/validate/PlacePage" := (Y24.keep K23)
    have Y44 : Fld Z T23.heap b8 "com/example/satzung/satzung/validate/PlacePage" "entities" "[Ljava/lang/String;" (.ref b9_0) := (Y25.keep K23 (ninS (neN (by omega)) (ninS (neN (by omega)) (ninS (neN (by omega)) nin0))))
    have Y45 : Fld Z T23.heap b8 "com/example/satzung/satzung/validate/PlacePage" "lines" "[J" (.ref b9_1) := (Y27.keep K23 (ninS (neN (by omega)) (ninS (neN (by omega)) (ninS (neN (by omega)) nin0))))
    have Y46 : Fld Z T23.heap b8 "com/example/satzung/satzung/validate/PlacePage" "columns" "[J" (.ref b9_2) := (Y29.keep K23 (ninS (neN (by omega)) (ninS (neN (by omega)) (ninS (neN (by omega)) nin0))))
    obtain ⟨cq35, kq35, q35a, q35b, q35c⟩ := isOf hZ rfl Y36
    obtain ⟨_, _, ⟨T35, L35, k35, n35⟩, -, X35, ⟨Lc35, hQ35, l35, y35, z35⟩, st35⟩ := X23.virtualBack hx (y := (⟨"com/example/satzung/satzung/validate/PlacePage", "set", "(ILcom/example/satzung/satzung/validate/PlacePage;I)V"⟩ : MethodName)) (z := (⟨"com/example/satzung/satzung/validate/PlacePage", "set", "(ILcom/example/satzung/satzung/validate/PlacePage;I)V"⟩ : MethodName)) hown (mvT hZ (ow hw 65 rfl)) (mvT hZ (ow hw 66 rfl)) (notFace_of_selects (args := #[]) (mvT hZ (ow hw 68 rfl))) (mvT hZ (ow hw 68 rfl)) (mvT hZ (ow hw 67 rfl)) (by decide) (backOf (W := 0) (rm9dN l Z a0 hw [] b5 i8 b8 i9 q15 q17 b6_0 b6_1 b6_2 k6_0 k6_1 k6_2 (own_upd (fun _ => .null) i10 (.ref rb)) (own_upd (fun _ => (.long (0 : Int64))) i10 (.long q19)) (own_upd (fun _ => (.long (0 : Int64))) i10 (.long q21)) b9_0 b9_1 b9_2 k9_0 k9_1 k9_2 (own_upd (fun _ => .null) i9 .null) (own_upd (fun _ => (.long (0 : Int64))) i9 (.long q15)) (own_upd (fun _ => (.long (0 : Int64))) i9 (.long q17)) T23.heap n0 (by omega) Y36 Y37 Y38 Y39 Y40 Y41 Y42 Y6_4 Y43 Y44 Y23_0 Y45 Y23_1 Y46 Y23_2 Y9_4 (own_hit _ _ _) (own_hit _ _ _) (own_hit _ _ _) (neN (by omega)) (neN (by omega)) (neN (by omega)) (neN (by omega)) (neN (by omega)) (neN (by omega)) (neN (by omega)) (neN (by omega)) (neN (by omega)) (neN (by omega)) (neN (by omega)) (neN (by omega)) (neN (by omega)) (neN (by omega)) (neN (by omega)) (neN (by omega)) (neN (by omega)) (neN (by omega)) (by omega) (by omega) (by omega) (by first | assumption | decide) (by first | assumption | decide)) hZ (ow hw 69 rfl) (ow hw 30 rfl) (by decide) (by decide)) q35a q35c (g := (mkF m 223 #[sI p0, sI p1, sI p2, sL q3, sS, sL q4, sS, sI p5, sI i8, sI i9, sI i10, sI i11, sI i12, sN, sR rb, sL q15, sS, sL q17, sS, sL q19, sS, sL q21, sS, sR b1, sR b3, sR b5, sR b8, sU] [(.int i9), (.ref b8), (.int i8), (.ref b5)])) rfl (by rw [hml]; rfl) (Steps.refl _) (argsL := [(.int i8), (.ref b8), (.int i9)]) (rest := []) (lenOf pd139A_3 rfl) rfl (by show 2 * 0 + _ ≤ _; exact Nat.le_of_eq rfl) (hb hby at_223) (fun vm₁ hvm => ⟨rfl, rfl, (by decide : 30 + 0 ≤ _), (by decide : 6356 + 0 ≤ _)⟩)
    dsimp only [Pt.U, Pt.locs, Pt.cells, Pt.slots] at X35 l35 y35 z35 st35 hQ35
    subst l35 y35 z35
    obtain ⟨rfl, N35q, K35, KF35, Y35_0, Y35_1, Y35_2⟩ := hQ35
    have sz35 : T23.heap.size ≤ T35.heap.size := K35.1
    have N35 := Fr.app N23 N35q
    refine GoW.trans st35 ?_
    show GoW p e below s _ _ _ (T35.setTop (mkF m 226 #[sI p0, sI p1, sI p2, sL q3, sS, sL q4, sS, sI p5, sI i8, sI i9, sI i10, sI i11, sI i12, sN, sR rb, sL q15, sS, sL q17, sS, sL q19, sS, sL q21, sS, sR b1, sR b3, sR b5, sR b8, sU] []))
    refine GoW.pre (st' := T35.setTop (mkF m 230 #[sI p0, sI p1, sI p2, sL q3, sS, sL q4, sS, sI p5, sI i8, sI i9, sI i10, sI i11, sI i12, sN, sR rb, sL q15, sS, sL q17, sS, sL q19, sS, sL q21, sS, sR b1, sR b3, sR b5, sR b8, sU] [(.int i8), (.int i10)])) (fun target kt => ?_) ?_
    · show Steps p.tables e below (T35.setTop (mkF m 226 #[sI p0, sI p1, sI p2, sL q3, sS, sL q4, sS, sI p5, sI i8, sI i9, sI i10, sI i11, sI i12, sN, sR rb, sL q15, sS, sL q17, sS, sL q19, sS, sL q21, sS, sR b1, sR b3, sR b5, sR b8, sU] [])) _
      refine XS.iload X35.here hx rfl (hb hby at_226) rfl ?_
      refine XS.iload X35.here hx rfl (hb hby at_228) rfl ?_
      exact kt
    by_cases h230_47 : i10 = i8
    · refine GoW.pre (st' := T35.setTop (mkF m 245 #[sI p0, sI p1, sI p2, sL q3, sS, sL q4, sS, sI p5, sI i8, sI i9, sI i10, sI i11, sI i12, sN, sR rb, sL q15, sS, sL q17, sS, sL q19, sS, sL q21, sS, sR b1, sR b3, sR b5, sR b8, sU] [])) (fun target kt => ?_) ?_
      · show Steps p.tables e below (T35.setTop (mkF m 230 #[sI p0, sI p1, sI p2, sL q3, sS, sL q4, sS, sI p5, sI i8, sI i9, sI i10, sI i11, sI i12, sN, sR rb, sL q15, sS, sL q17, sS, sL q19, sS, sL q21, sS, sR b1, sR b3, sR b5, sR b8, sU] [(.int i8), (.int i10)])) _
        refine XS.icmpYes X35.here hx rfl (pc0 := 230) (pc' := 245) rfl (hb hby at_230) rfl (teq h230_47).1 (by decide) (by decide) ?_
        exact kt
      refine GoW.pre (st' := T35.setTop (mkF m 258 #[sI p0, sI p1, sI p2, sL q3, sS, sL q4, sS, sI p5, sI i8, sI i9, sI i10, sI i11, sI i12, sN, sR rb, sL q15, sS, sL q17, sS, sL q19, sS, sL q21, sS, sR b1, sR b3, sR b5, sR b8, sR b1] [(.int i8), (.ref b5)])) (fun target kt => ?_) ?_
      · show Steps p.tables e below (T35.setTop (mkF m 245 #[sI p0, sI p1, sI p2, sL q3, sS, sL q4, sS, sI p5, sI i8, sI i9, sI i10, sI i11, sI i12, sN, sR rb, sL q15, sS, sL q17, sS, sL q19, sS, sL q21, sS, sR b1, sR b3, sR b5, sR b8, sU] [])) _
        refine XS.aload X35.here hx rfl (hb hby at_245) rfl rfl ?_
        refine XS.goto X35.here hx rfl (pc0 := 247) (pc' := 252) rfl (hb hby at_247) (by decide) (by decide) ?_
        refine XS.astore X35.here hx rfl (hb hby at_252) rfl rfl (l' := #[.val (.int p0), .val (.int p1), .val (.int p2), .val (.long q3), .second, .val (.long q4), .second, .val (.int p5), .val (.int i8), .val (.int i9), .val (.int i10), .val (.int i11), .val (.int i12), .val .null, .val (.ref rb), .val (.long q15), .second, .val (.long q17), .second, .val (.long q19), .second, .val (.long q21), .second, .val (.ref b1), .val (.ref b3), .val (.ref b5), .val (.ref b8), .val (.ref b1)]) rfl ?_
        refine XS.aload X35.here hx rfl (hb hby at_254) rfl rfl ?_
        refine XS.iload X35.here hx rfl (hb hby at_256) rfl ?_
        exact kt
      have Y49 : Exa Z T35.heap b5 "com/example/satzung/satzung/validate/PlacePage" := (Y36.keep K35)
      have Y50 : Fld Z T35.heap b5 "com/example/satzung/satzung/validate/PlacePage" "entities" "[Ljava/lang/String;" (.ref b6_0) := (Y37.keep K35 (ninS (neN (by omega)) (ninS (neN (by omega)) (ninS (neN (by omega)) nin0))))
      have Y51 : Fld Z T35.heap b5 "com/example/satzung/satzung/validate/PlacePage" "lines" "[J" (.ref b6_1) := (Y39.keep K35 (ninS (neN (by omega)) (ninS (neN (by omega)) (ninS (neN (by omega)) nin0))))
      have Y52 : Fld Z T35.heap b5 "com/example/satzung/satzung/validate/PlacePage" "columns" "[J" (.ref b6_2) := (Y41.keep K35 (ninS (neN (by omega)) (ninS (neN (by omega)) (ninS (neN (by omega)) nin0))))
      obtain ⟨cq48, kq48, q48a, q48b, q48c⟩ := isOf hZ rfl Y49
      obtain ⟨_, _, ⟨T48, L48, k48, n48⟩, -, X48, ⟨Lc48, hQ48, l48, y48, z48⟩, st48⟩ := X35.virtualBack hx (y := (⟨"com/example/satzung/satzung/validate/PlacePage", "get", "(I)Lcom/example/satzung/satzung/diagnostics/Location;"⟩ : MethodName)) (z := (⟨"com/example/satzung/satzung/validate/PlacePage", "get", "(I)Lcom/example/satzung/satzung/diagnostics/Location;"⟩ : MethodName)) hown (mvT hZ (ow hw 70 rfl)) (mvT hZ (ow hw 71 rfl)) (notFace_of_selects (args := #[]) (mvT hZ (ow hw 73 rfl))) (mvT hZ (ow hw 73 rfl)) (mvT hZ (ow hw 72 rfl)) (by decide) (backOf (W := 0) (rm10N l Z a0 hw [] b5 i8 q15 q17 b6_0 b6_1 b6_2 k6_0 k6_1 k6_2 (own_upd (own_upd (fun _ => .null) i10 (.ref rb)) i8 .null) (own_upd (own_upd (fun _ => (.long (0 : Int64))) i10 (.long q19)) i8 (.long q15)) (own_upd (own_upd (fun _ => (.long (0 : Int64))) i10 (.long q21)) i8 (.long q17)) T35.heap n0 (by omega) Y49 Y50 Y35_0 Y51 Y35_1 Y52 Y35_2 Y6_4 (own_hit _ _ _) (own_hit _ _ _) (own_hit _ _ _) (by first | assumption | decide) (by first | assumption | decide) (by first | assumption | decide)) hZ (ow hw 74 rfl) (ow hw 30 rfl) (by decide) (by decide)) q48a q48c (g := (mkF m 258 #[sI p0, sI p1, sI p2, sL q3, sS, sL q4, sS, sI p5, sI i8, sI i9, sI i10, sI i11, sI i12, sN, sR rb, sL q15, sS, sL q17, sS, sL q19, sS, sL q21, sS, sR b1, sR b3, sR b5, sR b8, sR b1] [(.int i8), (.ref b5)])) rfl (by rw [hml]; rfl) (Steps.refl _) (argsL := [(.int i8)]) (rest := []) (lenOf pd139A_4 rfl) rfl (by show 2 * 0 + _ ≤ _; exact Nat.le_of_eq rfl) (hb hby at_258) (fun vm₁ hvm => ⟨rfl, rfl, (by decide : 30 + 1 ≤ _), (by decide : 6356 + 3 ≤ _)⟩)
      dsimp only [Pt.U, Pt.locs, Pt.cells, Pt.slots] at X48 l48 y48 z48 st48 hQ48
      subst l48 y48 z48
      obtain ⟨b48_0, rfl, N48q, K48, KF48, gb48_0, ltb48_0, Y48_0, Y48_1, Y48_2, Y48_3⟩ := hQ48
      have sz48 : T35.heap.size ≤ T48.heap.size := K48.1
      have N48 := Fr.app N35 N48q
      refine GoW.trans st48 ?_
      show GoW p e below s _ _ _ (T48.setTop (mkF m 261 #[sI p0, sI p1, sI p2, sL q3, sS, sL q4, sS, sI p5, sI i8, sI i9, sI i10, sI i11, sI i12, sN, sR rb, sL q15, sS, sL q17, sS, sL q19, sS, sL q21, sS, sR b1, sR b3, sR b5, sR b8, sR b1] [(.ref b48_0)]))
      refine GoW.pre (st' := T48.setTop (mkF m 263 #[sI p0, sI p1, sI p2, sL q3, sS, sL q4, sS, sI p5, sI i8, sI i9, sI i10, sI i11, sI i12, sN, sR rb, sL q15, sS, sL q17, sS, sL q19, sS, sL q21, sS, sR b1, sR b3, sR b5, sR b8, sR b1] [(.ref b1), (.ref b48_0)])) (fun target kt => ?_) ?_
      · show Steps p.tables e below (T48.setTop (mkF m 261 #[sI p0, sI p1, sI p2, sL q3, sS, sL q4, sS, sI p5, sI i8, sI i9, sI i10, sI i11, sI i12, sN, sR rb, sL q15, sS, sL q17, sS, sL q19, sS, sL q21, sS, sR b1, sR b3, sR b5, sR b8, sR b1] [(.ref b48_0)])) _
        refine XS.aload X48.here hx rfl (hb hby at_261) rfl rfl ?_
        exact kt
      have Y54 : Exa Z T48.heap b1 "com/example/satzung/satzung/diagnostics/Location" := (((Y31.keep K23).keep K35).keep K48)
      have Y55 : Fld Z T48.heap b1 "com/example/satzung/satzung/diagnostics/Location" "entity" "Ljava/lang/String;" .null := (((Y32.keep K23 (ninS (neN (by omega)) (ninS (neN (by omega)) (ninS (neN (by omega)) nin0)))).keep K35 (ninS (neN (by omega)) (ninS (neN (by omega)) (ninS (neN (by omega)) nin0)))).keep K48 nin0)
      have Y56 : Fld Z T48.heap b1 "com/example/satzung/satzung/diagnostics/Location" "line" "J" (.long q15) := (((Y33.keep K23 (ninS (neN (by omega)) (ninS (neN (by omega)) (ninS (neN (by omega)) nin0)))).keep K35 (ninS (neN (by omega)) (ninS (neN (by omega)) (ninS (neN (by omega)) nin0)))).keep K48 nin0)
      have Y57 : Fld Z T48.heap b1 "com/example/satzung/satzung/diagnostics/Location" "column" "J" (.long q17) := (((Y34.keep K23 (ninS (neN (by omega)) (ninS (neN (by omega)) (ninS (neN (by omega)) nin0)))).keep K35 (ninS (neN (by omega)) (ninS (neN (by omega)) (ninS (neN (by omega)) nin0)))).keep K48 nin0)
      obtain ⟨cq53, kq53, q53a, q53b, q53c⟩ := isOf hZ rfl Y48_0
      obtain ⟨_, _, ⟨T53, L53, k53, n53⟩, -, X53, ⟨Lc53, hQ53, l53, y53, z53⟩, st53⟩ := X48.virtualBack hx (y := (⟨"com/example/satzung/satzung/diagnostics/Location", "equals", "(Ljava/lang/Object;)Z"⟩ : MethodName)) (z := (⟨"com/example/satzung/satzung/diagnostics/Location", "equals", "(Ljava/lang/Object;)Z"⟩ : MethodName)) hown (mvT hZ (ow hw 77 rfl)) (mvT hZ (ow hw 78 rfl)) (notFace_of_selects (args := #[]) (mvT hZ (ow hw 80 rfl))) (mvT hZ (ow hw 80 rfl)) (mvT hZ (ow hw 79 rfl)) (by decide) (backOf (W := 0) (rm11N l Z a0 hw [] b48_0 b1 q15 q17 T48.heap n0 (by omega) Y48_0 Y48_1 Y48_2 Y48_3 Y54 Y55 Y56 Y57) hZ (ow hw 81 rfl) (ow hw 15 rfl) (by decide) (by decide)) q53a q53c (g := (mkF m 263 #[sI p0, sI p1, sI p2, sL q3, sS, sL q4, sS, sI p5, sI i8, sI i9, sI i10, sI i11, sI i12, sN, sR rb, sL q15, sS, sL q17, sS, sL q19, sS, sL q21, sS, sR b1, sR b3, sR b5, sR b8, sR b1] [(.ref b1), (.ref b48_0)])) rfl (by rw [hml]; rfl) (Steps.refl _) (argsL := [(.ref b1)]) (rest := []) (lenOf pd139A_5 rfl) rfl (by show 2 * 0 + _ ≤ _; exact Nat.le_of_eq rfl) (hb hby at_263) (fun vm₁ hvm => ⟨rfl, rfl, (by decide : 31 + 0 ≤ _), (by decide : 6359 + 0 ≤ _)⟩)
      dsimp only [Pt.U, Pt.locs, Pt.cells, Pt.slots] at X53 l53 y53 z53 st53 hQ53
      subst l53 y53 z53
      obtain ⟨rfl, N53q, e53⟩ := hQ53
      have N53 := Fr.app N48 N53q
      refine GoW.trans st53 ?_
      show GoW p e below s _ _ _ (T53.setTop (mkF m 266 #[sI p0, sI p1, sI p2, sL q3, sS, sL q4, sS, sI p5, sI i8, sI i9, sI i10, sI i11, sI i12, sN, sR rb, sL q15, sS, sL q17, sS, sL q19, sS, sL q21, sS, sR b1, sR b3, sR b5, sR b8, sR b1] [(.int (1 : Int32))]))
      refine GoW.pre (st' := T53.setTop (mkF m 273 #[sI p0, sI p1, sI p2, sL q3, sS, sL q4, sS, sI p5, sI i8, sI i9, sI i10, sI i11, sI i12, sN, sR rb, sL q15, sS, sL q17, sS, sL q19, sS, sL q21, sS, sR b1, sR b3, sR b5, sR b8, sR b1] [(.int i10), (.ref b5)])) (fun target kt => ?_) ?_
      · show Steps p.tables e below (T53.setTop (mkF m 266 #[sI p0, sI p1, sI p2, sL q3, sS, sL q4, sS, sI p5, sI i8, sI i9, sI i10, sI i11, sI i12, sN, sR rb, sL q15, sS, sL q17, sS, sL q19, sS, sL q21, sS, sR b1, sR b3, sR b5, sR b8, sR b1] [(.int (1 : Int32))])) _
        refine XS.ifNo X53.here hx rfl (hb hby at_266) rfl ((if0 _ _).trans (feq (by decide)).1) ?_
        refine XS.aload X53.here hx rfl (hb hby at_269) rfl rfl ?_
        refine XS.iload X53.here hx rfl (hb hby at_271) rfl ?_
        exact kt
      have Y59 : Exa Z T48.heap b5 "com/example/satzung/satzung/validate/PlacePage" := (Y49.keep K48)
      have Y60 : Fld Z T48.heap b5 "com/example/satzung/satzung/validate/PlacePage" "entities" "[Ljava/lang/String;" (.ref b6_0) := (Y50.keep K48 nin0)
      have Y61 : Arf Z T48.heap b6_0 k6_0 (.object "java/lang/String") (1024 : Int32) (own_upd (own_upd (fun _ => .null) i10 (.ref rb)) i8 .null) := (Y35_0.keep K48 nin0)
      have Y62 : Fld Z T48.heap b5 "com/example/satzung/satzung/validate/PlacePage" "lines" "[J" (.ref b6_1) := (Y51.keep K48 nin0)
      have Y63 : Arf Z T48.heap b6_1 k6_1 .long (1024 : Int32) (own_upd (own_upd (fun _ => (.long (0 : Int64))) i10 (.long q19)) i8 (.long q15)) := (Y35_1.keep K48 nin0)
      have Y64 : Fld Z T48.heap b5 "com/example/satzung/satzung/validate/PlacePage" "columns" "[J" (.ref b6_2) := (Y52.keep K48 nin0)
      have Y65 : Arf Z T48.heap b6_2 k6_2 .long (1024 : Int32) (own_upd (own_upd (fun _ => (.long (0 : Int64))) i10 (.long q21)) i8 (.long q17)) := (Y35_2.keep K48 nin0)
      obtain ⟨cq58, kq58, q58a, q58b, q58c⟩ := isOf hZ e53 Y59
      obtain ⟨_, _, ⟨T58, L58, k58, n58⟩, -, X58, ⟨Lc58, hQ58, l58, y58, z58⟩, st58⟩ := X53.virtualBack hx (y := (⟨"com/example/satzung/satzung/validate/PlacePage", "get", "(I)Lcom/example/satzung/satzung/diagnostics/Location;"⟩ : MethodName)) (z := (⟨"com/example/satzung/satzung/validate/PlacePage", "get", "(I)Lcom/example/satzung/satzung/diagnostics/Location;"⟩ : MethodName)) hown (mvT hZ (ow hw 70 rfl)) (mvT hZ (ow hw 71 rfl)) (notFace_of_selects (args := #[]) (mvT hZ (ow hw 73 rfl))) (mvT hZ (ow hw 73 rfl)) (mvT hZ (ow hw 72 rfl)) (by decide) (backOf (W := 0) (rm10N l Z a0 hw [] b5 i10 q15 q17 b6_0 b6_1 b6_2 k6_0 k6_1 k6_2 (own_upd (own_upd (fun _ => .null) i10 (.ref rb)) i8 .null) (own_upd (own_upd (fun _ => (.long (0 : Int64))) i10 (.long q19)) i8 (.long q15)) (own_upd (own_upd (fun _ => (.long (0 : Int64))) i10 (.long q21)) i8 (.long q17)) T48.heap n0 (by omega) Y59 Y60 Y61 Y62 Y63 Y64 Y65 Y6_4 (own_at h230_47) (own_at h230_47) (own_at h230_47) (by first | assumption | decide) (by first | assumption | decide) (by first | assumption | decide)) hZ (ow hw 74 rfl) (ow hw 30 rfl) (by decide) (by decide)) q58a q58c (g := (mkF m 273 #[sI p0, sI p1, sI p2, sL q3, sS, sL q4, sS, sI p5, sI i8, sI i9, sI i10, sI i11, sI i12, sN, sR rb, sL q15, sS, sL q17, sS, sL q19, sS, sL q21, sS, sR b1, sR b3, sR b5, sR b8, sR b1] [(.int i10), (.ref b5)])) rfl (by rw [hml]; rfl) (Steps.refl _) (argsL := [(.int i10)]) (rest := []) (lenOf pd139A_4 rfl) rfl (by show 2 * 0 + _ ≤ _; exact Nat.le_of_eq rfl) (hb hby at_273) (fun vm₁ hvm => ⟨rfl, e53, (by decide : 31 + 1 ≤ _), (by decide : 6359 + 3 ≤ _)⟩)
      dsimp only [Pt.U, Pt.locs, Pt.cells, Pt.slots] at X58 l58 y58 z58 st58 hQ58
      subst l58 y58 z58
      obtain ⟨b58_0, rfl, N58q, K58, KF58, gb58_0, ltb58_0, Y58_0, Y58_1, Y58_2, Y58_3⟩ := hQ58
      have sz58 : T48.heap.size ≤ T58.heap.size := K58.1
      have N58 := Fr.app N53 N58q
      refine GoW.trans st58 ?_
      show GoW p e below s _ _ _ (T58.setTop (mkF m 276 #[sI p0, sI p1, sI p2, sL q3, sS, sL q4, sS, sI p5, sI i8, sI i9, sI i10, sI i11, sI i12, sN, sR rb, sL q15, sS, sL q17, sS, sL q19, sS, sL q21, sS, sR b1, sR b3, sR b5, sR b8, sR b1] [(.ref b58_0)]))
      refine GoW.pre (st' := T58.setTop (mkF m 278 #[sI p0, sI p1, sI p2, sL q3, sS, sL q4, sS, sI p5, sI i8, sI i9, sI i10, sI i11, sI i12, sN, sR rb, sL q15, sS, sL q17, sS, sL q19, sS, sL q21, sS, sR b1, sR b3, sR b5, sR b8, sR b1] [(.ref b1), (.ref b58_0)])) (fun target kt => ?_) ?_
      · show Steps p.tables e below (T58.setTop (mkF m 276 #[sI p0, sI p1, sI p2, sL q3, sS, sL q4, sS, sI p5, sI i8, sI i9, sI i10, sI i11, sI i12, sN, sR rb, sL q15, sS, sL q17, sS, sL q19, sS, sL q21, sS, sR b1, sR b3, sR b5, sR b8, sR b1] [(.ref b58_0)])) _
        refine XS.aload X58.here hx rfl (hb hby at_276) rfl rfl ?_
        exact kt
      have Y67 : Exa Z T58.heap b1 "com/example/satzung/satzung/diagnostics/Location" := (Y54.keep K58)
      have Y68 : Fld Z T58.heap b1 "com/example/satzung/satzung/diagnostics/Location" "entity" "Ljava/lang/String;" .null := (Y55.keep K58 nin0)
      have Y69 : Fld Z T58.heap b1 "com/example/satzung/satzung/diagnostics/Location" "line" "J" (.long q15) := (Y56.keep K58 nin0)
      have Y70 : Fld Z T58.heap b1 "com/example/satzung/satzung/diagnostics/Location" "column" "J" (.long q17) := (Y57.keep K58 nin0)
      obtain ⟨cq66, kq66, q66a, q66b, q66c⟩ := isOf hZ rfl Y58_0
      obtain ⟨_, _, ⟨T66, L66, k66, n66⟩, -, X66, ⟨Lc66, hQ66, l66, y66, z66⟩, st66⟩ := X58.virtualBack hx (y := (⟨"com/example/satzung/satzung/diagnostics/Location", "equals", "(Ljava/lang/Object;)Z"⟩ : MethodName)) (z := (⟨"com/example/satzung/satzung/diagnostics/Location", "equals", "(Ljava/lang/Object;)Z"⟩ : MethodName)) hown (mvT hZ (ow hw 77 rfl)) (mvT hZ (ow hw 78 rfl)) (notFace_of_selects (args := #[]) (mvT hZ (ow hw 80 rfl))) (mvT hZ (ow hw 80 rfl)) (mvT hZ (ow hw 79 rfl)) (by decide) (backOf (W := 0) (rm11N l Z a0 hw [] b58_0 b1 q15 q17 T58.heap n0 (by omega) Y58_0 Y58_1 Y58_2 Y58_3 Y67 Y68 Y69 Y70) hZ (ow hw 81 rfl) (ow hw 15 rfl) (by decide) (by decide)) q66a q66c (g := (mkF m 278 #[sI p0, sI p1, sI p2, sL q3, sS, sL q4, sS, sI p5, sI i8, sI i9, sI i10, sI i11, sI i12, sN, sR rb, sL q15, sS, sL q17, sS, sL q19, sS, sL q21, sS, sR b1, sR b3, sR b5, sR b8, sR b1] [(.ref b1), (.ref b58_0)])) rfl (by rw [hml]; rfl) (Steps.refl _) (argsL := [(.ref b1)]) (rest := []) (lenOf pd139A_5 rfl) rfl (by show 2 * 0 + _ ≤ _; exact Nat.le_of_eq rfl) (hb hby at_278) (fun vm₁ hvm => ⟨rfl, rfl, (by decide : 32 + 0 ≤ _), (by decide : 6362 + 0 ≤ _)⟩)
      dsimp only [Pt.U, Pt.locs, Pt.cells, Pt.slots] at X66 l66 y66 z66 st66 hQ66
      subst l66 y66 z66
      obtain ⟨rfl, N66q, e66⟩ := hQ66
      have N66 := Fr.app N58 N66q
      refine GoW.trans st66 ?_
      show GoW p e below s _ _ _ (T66.setTop (mkF m 281 #[sI p0, sI p1, sI p2, sL q3, sS, sL q4, sS, sI p5, sI i8, sI i9, sI i10, sI i11, sI i12, sN, sR rb, sL q15, sS, sL q17, sS, sL q19, sS, sL q21, sS, sR b1, sR b3, sR b5, sR b8, sR b1] [(.int (1 : Int32))]))
      refine GoW.pre (st' := T66.setTop (mkF m 288 #[sI p0, sI p1, sI p2, sL q3, sS, sL q4, sS, sI p5, sI i8, sI i9, sI i10, sI i11, sI i12, sN, sR rb, sL q15, sS, sL q17, sS, sL q19, sS, sL q21, sS, sR b1, sR b3, sR b5, sR b8, sR b1] [(.int i9), (.ref b8)])) (fun target kt => ?_) ?_
      · show Steps p.tables e below (T66.setTop (mkF m 281 #[sI p0, sI p1, sI p2, sL q3, sS, sL q4, sS, sI p5, sI i8, sI i9, sI i10, sI i11, sI i12, sN, sR rb, sL q15, sS, sL q17, sS, sL q19, sS, sL q21, sS, sR b1, sR b3, sR b5, sR b8, sR b1] [(.int (1 : Int32))])) _
        refine XS.ifNo X66.here hx rfl (hb hby at_281) rfl ((if0 _ _).trans (feq (by decide)).1) ?_
        refine XS.aload X66.here hx rfl (hb hby at_284) rfl rfl ?_
        refine XS.iload X66.here hx rfl (hb hby at_286) rfl ?_
        exact kt
      have Y72 : Exa Z T58.heap b8 "com/example/satzung/satzung/validate/PlacePage" := (((Y43.keep K35).keep K48).keep K58)
      have Y73 : Fld Z T58.heap b8 "com/example/satzung/satzung/validate/PlacePage" "entities" "[Ljava/lang/String;" (.ref b9_0) := (((Y44.keep K35 (ninS (neN (by omega)) (ninS (neN (by omega)) (ninS (neN (by omega)) nin0)))).keep K48 nin0).keep K58 nin0)
      have Y74 : Arf Z T58.heap b9_0 k9_0 (.object "java/lang/String") (1024 : Int32) (own_upd (fun _ => .null) i9 .null) := (((Y23_0.keep K35 (ninS (neN (by omega)) (ninS (neN (by omega)) (ninS (neN (by omega)) nin0)))).keep K48 nin0).keep K58 nin0)
      have Y75 : Fld Z T58.heap b8 "com/example/satzung/satzung/validate/PlacePage" "lines" "[J" (.ref b9_1) := (((Y45.keep K35 (ninS (neN (by omega)) (ninS (neN (by omega)) (ninS (neN (by omega)) nin0)))).keep K48 nin0).keep K58 nin0)
      have Y76 : Arf Z T58.heap b9_1 k9_1 .long (1024 : Int32) (own_upd (fun _ => (.long (0 : Int64))) i9 (.long q15)) := (((Y23_1.keep K35 (ninS (neN (by omega)) (ninS (neN (by omega)) (ninS (neN (by omega)) nin0)))).keep K48 nin0).keep K58 nin0)
      have Y77 : Fld Z T58.heap b8 "com/example/satzung/satzung/validate/PlacePage" "columns" "[J" (.ref b9_2) := (((Y46.keep K35 (ninS (neN (by omega)) (ninS (neN (by omega)) (ninS (neN (by omega)) nin0)))).keep K48 nin0).keep K58 nin0)
      have Y78 : Arf Z T58.heap b9_2 k9_2 .long (1024 : Int32) (own_upd (fun _ => (.long (0 : Int64))) i9 (.long q17)) := (((Y23_2.keep K35 (ninS (neN (by omega)) (ninS (neN (by omega)) (ninS (neN (by omega)) nin0)))).keep K48 nin0).keep K58 nin0)
      obtain ⟨cq71, kq71, q71a, q71b, q71c⟩ := isOf hZ e66 Y72
      obtain ⟨_, _, ⟨T71, L71, k71, n71⟩, -, X71, ⟨Lc71, hQ71, l71, y71, z71⟩, st71⟩ := X66.virtualBack hx (y := (⟨"com/example/satzung/satzung/validate/PlacePage", "get", "(I)Lcom/example/satzung/satzung/diagnostics/Location;"⟩ : MethodName)) (z := (⟨"com/example/satzung/satzung/validate/PlacePage", "get", "(I)Lcom/example/satzung/satzung/diagnostics/Location;"⟩ : MethodName)) hown (mvT hZ (ow hw 70 rfl)) (mvT hZ (ow hw 71 rfl)) (notFace_of_selects (args := #[]) (mvT hZ (ow hw 73 rfl))) (mvT hZ (ow hw 73 rfl)) (mvT hZ (ow hw 72 rfl)) (by decide) (backOf (W := 0) (rm10N l Z a0 hw [] b8 i9 q15 q17 b9_0 b9_1 b9_2 k9_0 k9_1 k9_2 (own_upd (fun _ => .null) i9 .null) (own_upd (fun _ => (.long (0 : Int64))) i9 (.long q15)) (own_upd (fun _ => (.long (0 : Int64))) i9 (.long q17)) T58.heap n0 (by omega) Y72 Y73 Y74 Y75 Y76 Y77 Y78 Y9_4 (own_hit _ _ _) (own_hit _ _ _) (own_hit _ _ _) (by first | assumption | decide) (by first | assumption | decide) (by first | assumption | decide)) hZ (ow hw 74 rfl) (ow hw 30 rfl) (by decide) (by decide)) q71a q71c (g := (mkF m 288 #[sI p0, sI p1, sI p2, sL q3, sS, sL q4, sS, sI p5, sI i8, sI i9, sI i10, sI i11, sI i12, sN, sR rb, sL q15, sS, sL q17, sS, sL q19, sS, sL q21, sS, sR b1, sR b3, sR b5, sR b8, sR b1] [(.int i9), (.ref b8)])) rfl (by rw [hml]; rfl) (Steps.refl _) (argsL := [(.int i9)]) (rest := []) (lenOf pd139A_4 rfl) rfl (by show 2 * 0 + _ ≤ _; exact Nat.le_of_eq rfl) (hb hby at_288) (fun vm₁ hvm => ⟨rfl, e66, (by decide : 32 + 1 ≤ _), (by decide : 6362 + 3 ≤ _)⟩)
      dsimp only [Pt.U, Pt.locs, Pt.cells, Pt.slots] at X71 l71 y71 z71 st71 hQ71
      subst l71 y71 z71
      obtain ⟨b71_0, rfl, N71q, K71, KF71, gb71_0, ltb71_0, Y71_0, Y71_1, Y71_2, Y71_3⟩ := hQ71
      have sz71 : T58.heap.size ≤ T71.heap.size := K71.1
      have N71 := Fr.app N66 N71q
      refine GoW.trans st71 ?_
      show GoW p e below s _ _ _ (T71.setTop (mkF m 291 #[sI p0, sI p1, sI p2, sL q3, sS, sL q4, sS, sI p5, sI i8, sI i9, sI i10, sI i11, sI i12, sN, sR rb, sL q15, sS, sL q17, sS, sL q19, sS, sL q21, sS, sR b1, sR b3, sR b5, sR b8, sR b1] [(.ref b71_0)]))
      refine GoW.pre (st' := T71.setTop (mkF m 293 #[sI p0, sI p1, sI p2, sL q3, sS, sL q4, sS, sI p5, sI i8, sI i9, sI i10, sI i11, sI i12, sN, sR rb, sL q15, sS, sL q17, sS, sL q19, sS, sL q21, sS, sR b1, sR b3, sR b5, sR b8, sR b1] [(.ref b1), (.ref b71_0)])) (fun target kt => ?_) ?_
      · show Steps p.tables e below (T71.setTop (mkF m 291 #[sI p0, sI p1, sI p2, sL q3, sS, sL q4, sS, sI p5, sI i8, sI i9, sI i10, sI i11, sI i12, sN, sR rb, sL q15, sS, sL q17, sS, sL q19, sS, sL q21, sS, sR b1, sR b3, sR b5, sR b8, sR b1] [(.ref b71_0)])) _
        refine XS.aload X71.here hx rfl (hb hby at_291) rfl rfl ?_
        exact kt
      have Y80 : Exa Z T71.heap b1 "com/example/satzung/satzung/diagnostics/Location" := (Y67.keep K71)
      have Y81 : Fld Z T71.heap b1 "com/example/satzung/satzung/diagnostics/Location" "entity" "Ljava/lang/String;" .null := (Y68.keep K71 nin0)
      have Y82 : Fld Z T71.heap b1 "com/example/satzung/satzung/diagnostics/Location" "line" "J" (.long q15) := (Y69.keep K71 nin0)
      have Y83 : Fld Z T71.heap b1 "com/example/satzung/satzung/diagnostics/Location" "column" "J" (.long q17) := (Y70.keep K71 nin0)
      obtain ⟨cq79, kq79, q79a, q79b, q79c⟩ := isOf hZ rfl Y71_0
      obtain ⟨_, _, ⟨T79, L79, k79, n79⟩, -, X79, ⟨Lc79, hQ79, l79, y79, z79⟩, st79⟩ := X71.virtualBack hx (y := (⟨"com/example/satzung/satzung/diagnostics/Location", "equals", "(Ljava/lang/Object;)Z"⟩ : MethodName)) (z := (⟨"com/example/satzung/satzung/diagnostics/Location", "equals", "(Ljava/lang/Object;)Z"⟩ : MethodName)) hown (mvT hZ (ow hw 77 rfl)) (mvT hZ (ow hw 78 rfl)) (notFace_of_selects (args := #[]) (mvT hZ (ow hw 80 rfl))) (mvT hZ (ow hw 80 rfl)) (mvT hZ (ow hw 79 rfl)) (by decide) (backOf (W := 0) (rm11N l Z a0 hw [] b71_0 b1 q15 q17 T71.heap n0 (by omega) Y71_0 Y71_1 Y71_2 Y71_3 Y80 Y81 Y82 Y83) hZ (ow hw 81 rfl) (ow hw 15 rfl) (by decide) (by decide)) q79a q79c (g := (mkF m 293 #[sI p0, sI p1, sI p2, sL q3, sS, sL q4, sS, sI p5, sI i8, sI i9, sI i10, sI i11, sI i12, sN, sR rb, sL q15, sS, sL q17, sS, sL q19, sS, sL q21, sS, sR b1, sR b3, sR b5, sR b8, sR b1] [(.ref b1), (.ref b71_0)])) rfl (by rw [hml]; rfl) (Steps.refl _) (argsL := [(.ref b1)]) (rest := []) (lenOf pd139A_5 rfl) rfl (by show 2 * 0 + _ ≤ _; exact Nat.le_of_eq rfl) (hb hby at_293) (fun vm₁ hvm => ⟨rfl, rfl, (by decide : 33 + 0 ≤ _), (by decide : 6365 + 0 ≤ _)⟩)
      dsimp only [Pt.U, Pt.locs, Pt.cells, Pt.slots] at X79 l79 y79 z79 st79 hQ79
      subst l79 y79 z79
      obtain ⟨rfl, N79q, e79⟩ := hQ79
      have N79 := Fr.app N71 N79q
      refine GoW.trans st79 ?_
      show GoW p e below s _ _ _ (T79.setTop (mkF m 296 #[sI p0, sI p1, sI p2, sL q3, sS, sL q4, sS, sI p5, sI i8, sI i9, sI i10, sI i11, sI i12, sN, sR rb, sL q15, sS, sL q17, sS, sL q19, sS, sL q21, sS, sR b1, sR b3, sR b5, sR b8, sR b1] [(.int (1 : Int32))]))
      refine GoW.pre (st' := T79.setTop (mkF m 304 #[sI p0, sI p1, sI p2, sL q3, sS, sL q4, sS, sI p5, sI i8, sI i9, sI i10, sI i11, sI i12, sN, sR rb, sL q15, sS, sL q17, sS, sL q19, sS, sL q21, sS, sR b1, sR b3, sR b5, sR b8, sR b1] [(.int (1 : Int32))])) (fun target kt => ?_) ?_
      · show Steps p.tables e below (T79.setTop (mkF m 296 #[sI p0, sI p1, sI p2, sL q3, sS, sL q4, sS, sI p5, sI i8, sI i9, sI i10, sI i11, sI i12, sN, sR rb, sL q15, sS, sL q17, sS, sL q19, sS, sL q21, sS, sR b1, sR b3, sR b5, sR b8, sR b1] [(.int (1 : Int32))])) _
        refine XS.ifNo X79.here hx rfl (hb hby at_296) rfl ((if0 _ _).trans (feq (by decide)).1) ?_
        refine XS.iconst X79.here hx rfl (hb hby at_299) ?_
        refine XS.goto X79.here hx rfl (pc0 := 300) (pc' := 304) rfl (hb hby at_300) (by decide) (by decide) ?_
        exact kt
      exact GoW.retN X79 hS (leH e79 (by omega)) hx hlk hrt (z' := (1 : Int32)) (by simp) (hb hby at_304) rfl (by decide) (by decide) (by first | exact ⟨rfl, N79⟩ | (rw [e79]; exact ⟨rfl, N79⟩))
    · refine GoW.pre (st' := T35.setTop (mkF m 233 #[sI p0, sI p1, sI p2, sL q3, sS, sL q4, sS, sI p5, sI i8, sI i9, sI i10, sI i11, sI i12, sN, sR rb, sL q15, sS, sL q17, sS, sL q19, sS, sL q21, sS, sR b1, sR b3, sR b5, sR b8, sU] [])) (fun target kt => ?_) ?_
      · show Steps p.tables e below (T35.setTop (mkF m 230 #[sI p0, sI p1, sI p2, sL q3, sS, sL q4, sS, sI p5, sI i8, sI i9, sI i10, sI i11, sI i12, sN, sR rb, sL q15, sS, sL q17, sS, sL q19, sS, sL q21, sS, sR b1, sR b3, sR b5, sR b8, sU] [(.int i8), (.int i10)])) _
        refine XS.icmpNo X35.here hx rfl (hb hby at_230) rfl (feq h230_47).1 ?_
        exact kt
      refine GoW.pre (st' := T35.setTop (mkF m 258 #[sI p0, sI p1, sI p2, sL q3, sS, sL q4, sS, sI p5, sI i8, sI i9, sI i10, sI i11, sI i12, sN, sR rb, sL q15, sS, sL q17, sS, sL q19, sS, sL q21, sS, sR b1, sR b3, sR b5, sR b8, sR b3] [(.int i8), (.ref b5)])) (fun target kt => ?_) ?_
      · show Steps p.tables e below (T35.setTop (mkF m 233 #[sI p0, sI p1, sI p2, sL q3, sS, sL q4, sS, sI p5, sI i8, sI i9, sI i10, sI i11, sI i12, sN, sR rb, sL q15, sS, sL q17, sS, sL q19, sS, sL q21, sS, sR b1, sR b3, sR b5, sR b8, sU] [])) _
        refine XS.iload X35.here hx rfl (hb hby at_233) rfl ?_
        refine XS.ifYes X35.here hx rfl (pc0 := 235) (pc' := 250) rfl (hb hby at_235) rfl ((if0 _ _).trans (teq h180_7).1) (by decide) (by decide) ?_
        refine XS.aload X35.here hx rfl (hb hby at_250) rfl rfl ?_
        refine XS.astore X35.here hx rfl (hb hby at_252) rfl rfl (l' := #[.val (.int p0), .val (.int p1), .val (.int p2), .val (.long q3), .second, .val (.long q4), .second, .val (.int p5), .val (.int i8), .val (.int i9), .val (.int i10), .val (.int i11), .val (.int i12), .val .null, .val (.ref rb), .val (.long q15), .second, .val (.long q17), .second, .val (.long q19), .second, .val (.long q21), .second, .val (.ref b1), .val (.ref b3), .val (.ref b5), .val (.ref b8), .val (.ref b3)]) rfl ?_
        refine XS.aload X35.here hx rfl (hb hby at_254) rfl rfl ?_
        refine XS.iload X35.here hx rfl (hb hby at_256) rfl ?_
        exact kt
      have Y85 : Exa Z T35.heap b5 "com/example/satzung/satzung/validate/PlacePage" := (Y36.keep K35)
      have Y86 : Fld Z T35.heap b5 "com/example/satzung/satzung/validate/PlacePage" "entities" "[Ljava/lang/String;" (.ref b6_0) := (Y37.keep K35 (ninS (neN (by omega)) (ninS (neN (by omega)) (ninS (neN (by omega)) nin0))))
      have Y87 : Fld Z T35.heap b5 "com/example/satzung/satzung/validate/PlacePage" "lines" "[J" (.ref b6_1) := (Y39.keep K35 (ninS (neN (by omega)) (ninS (neN (by omega)) (ninS (neN (by omega)) nin0))))
      have Y88 : Fld Z T35.heap b5 "com/example/satzung/satzung/validate/PlacePage" "columns" "[J" (.ref b6_2) := (Y41.keep K35 (ninS (neN (by omega)) (ninS (neN (by omega)) (ninS (neN (by omega)) nin0))))
      obtain ⟨cq84, kq84, q84a, q84b, q84c⟩ := isOf hZ rfl Y85
      obtain ⟨_, _, ⟨T84, L84, k84, n84⟩, -, X84, ⟨Lc84, hQ84, l84, y84, z84⟩, st84⟩ := X35.virtualBack hx (y := (⟨"com/example/satzung/satzung/validate/PlacePage", "get", "(I)Lcom/example/satzung/satzung/diagnostics/Location;"⟩ : MethodName)) (z := (⟨"com/example/satzung/satzung/validate/PlacePage", "get", "(I)Lcom/example/satzung/satzung/diagnostics/Location;"⟩ : MethodName)) hown (mvT hZ (ow hw 70 rfl)) (mvT hZ (ow hw 71 rfl)) (notFace_of_selects (args := #[]) (mvT hZ (ow hw 73 rfl))) (mvT hZ (ow hw 73 rfl)) (mvT hZ (ow hw 72 rfl)) (by decide) (backOf (W := 0) (rm10N l Z a0 hw [] b5 i8 q15 q17 b6_0 b6_1 b6_2 k6_0 k6_1 k6_2 (own_upd (own_upd (fun _ => .null) i10 (.ref rb)) i8 .null) (own_upd (own_upd (fun _ => (.long (0 : Int64))) i10 (.long q19)) i8 (.long q15)) (own_upd (own_upd (fun _ => (.long (0 : Int64))) i10 (.long q21)) i8 (.long q17)) T35.heap n0 (by omega) Y85 Y86 Y35_0 Y87 Y35_1 Y88 Y35_2 Y6_4 (own_hit _ _ _) (own_hit _ _ _) (own_hit _ _ _) (by first | assumption | decide) (by first | assumption | decide) (by first | assumption | decide)) hZ (ow hw 74 rfl) (ow hw 30 rfl) (by decide) (by decide)) q84a q84c (g := (mkF m 258 #[sI p0, sI p1, sI p2, sL q3, sS, sL q4, sS, sI p5, sI i8, sI i9, sI i10, sI i11, sI i12, sN, sR rb, sL q15, sS, sL q17, sS, sL q19, sS, sL q21, sS, sR b1, sR b3, sR b5, sR b8, sR b3] [(.int i8), (.ref b5)])) rfl (by rw [hml]; rfl) (Steps.refl _) (argsL := [(.int i8)]) (rest := []) (lenOf pd139A_4 rfl) rfl (by show 2 * 0 + _ ≤ _; exact Nat.le_of_eq rfl) (hb hby at_258) (fun vm₁ hvm => ⟨rfl, rfl, (by decide : 30 + 1 ≤ _), (by decide : 6356 + 3 ≤ _)⟩)
      dsimp only [Pt.U, Pt.locs, Pt.cells, Pt.slots] at X84 l84 y84 z84 st84 hQ84
      subst l84 y84 z84
      obtain ⟨b84_0, rfl, N84q, K84, KF84, gb84_0, ltb84_0, Y84_0, Y84_1, Y84_2, Y84_3⟩ := hQ84
      have sz84 : T35.heap.size ≤ T84.heap.size := K84.1
      have N84 := Fr.app N35 N84q
      refine GoW.trans st84 ?_
      show GoW p e below s _ _ _ (T84.setTop (mkF m 261 #[sI p0, sI p1, sI p2, sL q3, sS, sL q4, sS, sI p5, sI i8, sI i9, sI i10, sI i11, sI i12, sN, sR rb, sL q15, sS, sL q17, sS, sL q19, sS, sL q21, sS, sR b1, sR b3, sR b5, sR b8, sR b3] [(.ref b84_0)]))
      refine GoW.pre (st' := T84.setTop (mkF m 263 #[sI p0, sI p1, sI p2, sL q3, sS, sL q4, sS, sI p5, sI i8, sI i9, sI i10, sI i11, sI i12, sN, sR rb, sL q15, sS, sL q17, sS, sL q19, sS, sL q21, sS, sR b1, sR b3, sR b5, sR b8, sR b3] [(.ref b1), (.ref b84_0)])) (fun target kt => ?_) ?_
      · show Steps p.tables e below (T84.setTop (mkF m 261 #[sI p0, sI p1, sI p2, sL q3, sS, sL q4, sS, sI p5, sI i8, sI i9, sI i10, sI i11, sI i12, sN, sR rb, sL q15, sS, sL q17, sS, sL q19, sS, sL q21, sS, sR b1, sR b3, sR b5, sR b8, sR b3] [(.ref b84_0)])) _
        refine XS.aload X84.here hx rfl (hb hby at_261) rfl rfl ?_
        exact kt
      have Y90 : Exa Z T84.heap b1 "com/example/satzung/satzung/diagnostics/Location" := (((Y31.keep K23).keep K35).keep K84)
      have Y91 : Fld Z T84.heap b1 "com/example/satzung/satzung/diagnostics/Location" "entity" "Ljava/lang/String;" .null := (((Y32.keep K23 (ninS (neN (by omega)) (ninS (neN (by omega)) (ninS (neN (by omega)) nin0)))).keep K35 (ninS (neN (by omega)) (ninS (neN (by omega)) (ninS (neN (by omega)) nin0)))).keep K84 nin0)
      have Y92 : Fld Z T84.heap b1 "com/example/satzung/satzung/diagnostics/Location" "line" "J" (.long q15) := (((Y33.keep K23 (ninS (neN (by omega)) (ninS (neN (by omega)) (ninS (neN (by omega)) nin0)))).keep K35 (ninS (neN (by omega)) (ninS (neN (by omega)) (ninS (neN (by omega)) nin0)))).keep K84 nin0)
      have Y93 : Fld Z T84.heap b1 "com/example/satzung/satzung/diagnostics/Location" "column" "J" (.long q17) := (((Y34.keep K23 (ninS (neN (by omega)) (ninS (neN (by omega)) (ninS (neN (by omega)) nin0)))).keep K35 (ninS (neN (by omega)) (ninS (neN (by omega)) (ninS (neN (by omega)) nin0)))).keep K84 nin0)
      obtain ⟨cq89, kq89, q89a, q89b, q89c⟩ := isOf hZ rfl Y84_0
      obtain ⟨_, _, ⟨T89, L89, k89, n89⟩, -, X89, ⟨Lc89, hQ89, l89, y89, z89⟩, st89⟩ := X84.virtualBack hx (y := (⟨"com/example/satzung/satzung/diagnostics/Location", "equals", "(Ljava/lang/Object;)Z"⟩ : MethodName)) (z := (⟨"com/example/satzung/satzung/diagnostics/Location", "equals", "(Ljava/lang/Object;)Z"⟩ : MethodName)) hown (mvT hZ (ow hw 77 rfl)) (mvT hZ (ow hw 78 rfl)) (notFace_of_selects (args := #[]) (mvT hZ (ow hw 80 rfl))) (mvT hZ (ow hw 80 rfl)) (mvT hZ (ow hw 79 rfl)) (by decide) (backOf (W := 0) (rm11N l Z a0 hw [] b84_0 b1 q15 q17 T84.heap n0 (by omega) Y84_0 Y84_1 Y84_2 Y84_3 Y90 Y91 Y92 Y93) hZ (ow hw 81 rfl) (ow hw 15 rfl) (by decide) (by decide)) q89a q89c (g := (mkF m 263 #[sI p0, sI p1, sI p2, sL q3, sS, sL q4, sS, sI p5, sI i8, sI i9, sI i10, sI i11, sI i12, sN, sR rb, sL q15, sS, sL q17, sS, sL q19, sS, sL q21, sS, sR b1, sR b3, sR b5, sR b8, sR b3] [(.ref b1), (.ref b84_0)])) rfl (by rw [hml]; rfl) (Steps.refl _) (argsL := [(.ref b1)]) (rest := []) (lenOf pd139A_5 rfl) rfl (by show 2 * 0 + _ ≤ _; exact Nat.le_of_eq rfl) (hb hby at_263) (fun vm₁ hvm => ⟨rfl, rfl, (by decide : 31 + 0 ≤ _), (by decide : 6359 + 0 ≤ _)⟩)
      dsimp only [Pt.U, Pt.locs, Pt.cells, Pt.slots] at X89 l89 y89 z89 st89 hQ89
      subst l89 y89 z89
      obtain ⟨rfl, N89q, e89⟩ := hQ89
      have N89 := Fr.app N84 N89q
      refine GoW.trans st89 ?_
      show GoW p e below s _ _ _ (T89.setTop (mkF m 266 #[sI p0, sI p1, sI p2, sL q3, sS, sL q4, sS, sI p5, sI i8, sI i9, sI i10, sI i11, sI i12, sN, sR rb, sL q15, sS, sL q17, sS, sL q19, sS, sL q21, sS, sR b1, sR b3, sR b5, sR b8, sR b3] [(.int (1 : Int32))]))
      refine GoW.pre (st' := T89.setTop (mkF m 273 #[sI p0, sI p1, sI p2, sL q3, sS, sL q4, sS, sI p5, sI i8, sI i9, sI i10, sI i11, sI i12, sN, sR rb, sL q15, sS, sL q17, sS, sL q19, sS, sL q21, sS, sR b1, sR b3, sR b5, sR b8, sR b3] [(.int i10), (.ref b5)])) (fun target kt => ?_) ?_
      · show Steps p.tables e below (T89.setTop (mkF m 266 #[sI p0, sI p1, sI p2, sL q3, sS, sL q4, sS, sI p5, sI i8, sI i9, sI i10, sI i11, sI i12, sN, sR rb, sL q15, sS, sL q17, sS, sL q19, sS, sL q21, sS, sR b1, sR b3, sR b5, sR b8, sR b3] [(.int (1 : Int32))])) _
        refine XS.ifNo X89.here hx rfl (hb hby at_266) rfl ((if0 _ _).trans (feq (by decide)).1) ?_
        refine XS.aload X89.here hx rfl (hb hby at_269) rfl rfl ?_
        refine XS.iload X89.here hx rfl (hb hby at_271) rfl ?_
        exact kt
      have Y95 : Exa Z T84.heap b5 "com/example/satzung/satzung/validate/PlacePage" := (Y85.keep K84)
      have Y96 : Fld Z T84.heap b5 "com/example/satzung/satzung/validate/PlacePage" "entities" "[Ljava/lang/String;" (.ref b6_0) := (Y86.keep K84 nin0)
      have Y97 : Arf Z T84.heap b6_0 k6_0 (.object "java/lang/String") (1024 : Int32) (own_upd (own_upd (fun _ => .null) i10 (.ref rb)) i8 .null) := (Y35_0.keep K84 nin0)
      have Y98 : Fld Z T84.heap b5 "com/example/satzung/satzung/validate/PlacePage" "lines" "[J" (.ref b6_1) := (Y87.keep K84 nin0)
      have Y99 : Arf Z T84.heap b6_1 k6_1 .long (1024 : Int32) (own_upd (own_upd (fun _ => (.long (0 : Int64))) i10 (.long q19)) i8 (.long q15)) := (Y35_1.keep K84 nin0)
      have Y100 : Fld Z T84.heap b5 "com/example/satzung/satzung/validate/PlacePage" "columns" "[J" (.ref b6_2) := (Y88.keep K84 nin0)
      have Y101 : Arf Z T84.heap b6_2 k6_2 .long (1024 : Int32) (own_upd (own_upd (fun _ => (.long (0 : Int64))) i10 (.long q21)) i8 (.long q17)) := (Y35_2.keep K84 nin0)
      obtain ⟨cq94, kq94, q94a, q94b, q94c⟩ := isOf hZ e89 Y95
      obtain ⟨_, _, ⟨T94, L94, k94, n94⟩, -, X94, ⟨Lc94, hQ94, l94, y94, z94⟩, st94⟩ := X89.virtualBack hx (y := (⟨"com/example/satzung/satzung/validate/PlacePage", "get", "(I)Lcom/example/satzung/satzung/diagnostics/Location;"⟩ : MethodName)) (z := (⟨"com/example/satzung/satzung/validate/PlacePage", "get", "(I)Lcom/example/satzung/satzung/diagnostics/Location;"⟩ : MethodName)) hown (mvT hZ (ow hw 70 rfl)) (mvT hZ (ow hw 71 rfl)) (notFace_of_selects (args := #[]) (mvT hZ (ow hw 73 rfl))) (mvT hZ (ow hw 73 rfl)) (mvT hZ (ow hw 72 rfl)) (by decide) (backOf (W := 0) (rm10R l Z a0 hw [] b5 i10 rb q19 q21 b6_0 b6_1 b6_2 k6_0 k6_1 k6_2 (own_upd (own_upd (fun _ => .null) i10 (.ref rb)) i8 .null) (own_upd (own_upd (fun _ => (.long (0 : Int64))) i10 (.long q19)) i8 (.long q15)) (own_upd (own_upd (fun _ => (.long (0 : Int64))) i10 (.long q21)) i8 (.long q17)) T84.heap n0 (by omega) Y95 Y96 Y97 Y98 Y99 Y100 Y101 Y6_4 (own_miss h230_47 (own_hit _ _ _)) (own_miss h230_47 (own_hit _ _ _)) (own_miss h230_47 (own_hit _ _ _)) (by first | assumption | decide) (by first | assumption | decide) (by first | assumption | decide)) hZ (ow hw 74 rfl) (ow hw 30 rfl) (by decide) (by decide)) q94a q94c (g := (mkF m 273 #[sI p0, sI p1, sI p2, sL q3, sS, sL q4, sS, sI p5, sI i8, sI i9, sI i10, sI i11, sI i12, sN, sR rb, sL q15, sS, sL q17, sS, sL q19, sS, sL q21, sS, sR b1, sR b3, sR b5, sR b8, sR b3] [(.int i10), (.ref b5)])) rfl (by rw [hml]; rfl) (Steps.refl _) (argsL := [(.int i10)]) (rest := []) (lenOf pd139A_4 rfl) rfl (by show 2 * 0 + _ ≤ _; exact Nat.le_of_eq rfl) (hb hby at_273) (fun vm₁ hvm => ⟨rfl, e89, (by decide : 31 + 1 ≤ _), (by decide : 6359 + 3 ≤ _)⟩)
      dsimp only [Pt.U, Pt.locs, Pt.cells, Pt.slots] at X94 l94 y94 z94 st94 hQ94
      subst l94 y94 z94
      obtain ⟨b94_0, rfl, N94q, K94, KF94, gb94_0, ltb94_0, Y94_0, Y94_1, Y94_2, Y94_3⟩ := hQ94
      have sz94 : T84.heap.size ≤ T94.heap.size := K94.1
      have N94 := Fr.app N89 N94q
      refine GoW.trans st94 ?_
      show GoW p e below s _ _ _ (T94.setTop (mkF m 276 #[sI p0, sI p1, sI p2, sL q3, sS, sL q4, sS, sI p5, sI i8, sI i9, sI i10, sI i11, sI i12, sN, sR rb, sL q15, sS, sL q17, sS, sL q19, sS, sL q21, sS, sR b1, sR b3, sR b5, sR b8, sR b3] [(.ref b94_0)]))
      refine GoW.pre (st' := T94.setTop (mkF m 278 #[sI p0, sI p1, sI p2, sL q3, sS, sL q4, sS, sI p5, sI i8, sI i9, sI i10, sI i11, sI i12, sN, sR rb, sL q15, sS, sL q17, sS, sL q19, sS, sL q21, sS, sR b1, sR b3, sR b5, sR b8, sR b3] [(.ref b3), (.ref b94_0)])) (fun target kt => ?_) ?_
      · show Steps p.tables e below (T94.setTop (mkF m 276 #[sI p0, sI p1, sI p2, sL q3, sS, sL q4, sS, sI p5, sI i8, sI i9, sI i10, sI i11, sI i12, sN, sR rb, sL q15, sS, sL q17, sS, sL q19, sS, sL q21, sS, sR b1, sR b3, sR b5, sR b8, sR b3] [(.ref b94_0)])) _
        refine XS.aload X94.here hx rfl (hb hby at_276) rfl rfl ?_
        exact kt
      have Y103 : Exa Z T94.heap b3 "com/example/satzung/satzung/diagnostics/Location" := (((((Y18.keep K10).keep K23).keep K35).keep K84).keep K94)
      have Y104 : Fld Z T94.heap b3 "com/example/satzung/satzung/diagnostics/Location" "entity" "Ljava/lang/String;" (.ref rb) := (((((Y19.keep K10 (ninS (neN (by omega)) (ninS (neN (by omega)) (ninS (neN (by omega)) nin0)))).keep K23 (ninS (neN (by omega)) (ninS (neN (by omega)) (ninS (neN (by omega)) nin0)))).keep K35 (ninS (neN (by omega)) (ninS (neN (by omega)) (ninS (neN (by omega)) nin0)))).keep K84 nin0).keep K94 nin0)
      have Y105 : Fld Z T94.heap b3 "com/example/satzung/satzung/diagnostics/Location" "line" "J" (.long q19) := (((((Y20.keep K10 (ninS (neN (by omega)) (ninS (neN (by omega)) (ninS (neN (by omega)) nin0)))).keep K23 (ninS (neN (by omega)) (ninS (neN (by omega)) (ninS (neN (by omega)) nin0)))).keep K35 (ninS (neN (by omega)) (ninS (neN (by omega)) (ninS (neN (by omega)) nin0)))).keep K84 nin0).keep K94 nin0)
      have Y106 : Fld Z T94.heap b3 "com/example/satzung/satzung/diagnostics/Location" "column" "J" (.long q21) := (((((Y21.keep K10 (ninS (neN (by omega)) (ninS (neN (by omega)) (ninS (neN (by omega)) nin0)))).keep K23 (ninS (neN (by omega)) (ninS (neN (by omega)) (ninS (neN (by omega)) nin0)))).keep K35 (ninS (neN (by omega)) (ninS (neN (by omega)) (ninS (neN (by omega)) nin0)))).keep K84 nin0).keep K94 nin0)
      obtain ⟨cq102, kq102, q102a, q102b, q102c⟩ := isOf hZ rfl Y94_0
      obtain ⟨_, _, ⟨T102, L102, k102, n102⟩, -, X102, ⟨Lc102, hQ102, l102, y102, z102⟩, st102⟩ := X94.virtualBack hx (y := (⟨"com/example/satzung/satzung/diagnostics/Location", "equals", "(Ljava/lang/Object;)Z"⟩ : MethodName)) (z := (⟨"com/example/satzung/satzung/diagnostics/Location", "equals", "(Ljava/lang/Object;)Z"⟩ : MethodName)) hown (mvT hZ (ow hw 77 rfl)) (mvT hZ (ow hw 78 rfl)) (notFace_of_selects (args := #[]) (mvT hZ (ow hw 80 rfl))) (mvT hZ (ow hw 80 rfl)) (mvT hZ (ow hw 79 rfl)) (by decide) (backOf (W := 0) (rm11R l Z a0 hw [] b94_0 b3 rb q19 q21 T94.heap n0 (by omega) Y94_0 Y94_1 Y94_2 Y94_3 Y103 Y104 Y105 Y106) hZ (ow hw 81 rfl) (ow hw 15 rfl) (by decide) (by decide)) q102a q102c (g := (mkF m 278 #[sI p0, sI p1, sI p2, sL q3, sS, sL q4, sS, sI p5, sI i8, sI i9, sI i10, sI i11, sI i12, sN, sR rb, sL q15, sS, sL q17, sS, sL q19, sS, sL q21, sS, sR b1, sR b3, sR b5, sR b8, sR b3] [(.ref b3), (.ref b94_0)])) rfl (by rw [hml]; rfl) (Steps.refl _) (argsL := [(.ref b3)]) (rest := []) (lenOf pd139A_5 rfl) rfl (by show 2 * 0 + _ ≤ _; exact Nat.le_of_eq rfl) (hb hby at_278) (fun vm₁ hvm => ⟨rfl, rfl, (by decide : 32 + 0 ≤ _), (by decide : 6362 + 0 ≤ _)⟩)
      dsimp only [Pt.U, Pt.locs, Pt.cells, Pt.slots] at X102 l102 y102 z102 st102 hQ102
      subst l102 y102 z102
      obtain ⟨rfl, N102q, e102⟩ := hQ102
      have N102 := Fr.app N94 N102q
      refine GoW.trans st102 ?_
      show GoW p e below s _ _ _ (T102.setTop (mkF m 281 #[sI p0, sI p1, sI p2, sL q3, sS, sL q4, sS, sI p5, sI i8, sI i9, sI i10, sI i11, sI i12, sN, sR rb, sL q15, sS, sL q17, sS, sL q19, sS, sL q21, sS, sR b1, sR b3, sR b5, sR b8, sR b3] [(.int (1 : Int32))]))
      refine GoW.pre (st' := T102.setTop (mkF m 288 #[sI p0, sI p1, sI p2, sL q3, sS, sL q4, sS, sI p5, sI i8, sI i9, sI i10, sI i11, sI i12, sN, sR rb, sL q15, sS, sL q17, sS, sL q19, sS, sL q21, sS, sR b1, sR b3, sR b5, sR b8, sR b3] [(.int i9), (.ref b8)])) (fun target kt => ?_) ?_
      · show Steps p.tables e below (T102.setTop (mkF m 281 #[sI p0, sI p1, sI p2, sL q3, sS, sL q4, sS, sI p5, sI i8, sI i9, sI i10, sI i11, sI i12, sN, sR rb, sL q15, sS, sL q17, sS, sL q19, sS, sL q21, sS, sR b1, sR b3, sR b5, sR b8, sR b3] [(.int (1 : Int32))])) _
        refine XS.ifNo X102.here hx rfl (hb hby at_281) rfl ((if0 _ _).trans (feq (by decide)).1) ?_
        refine XS.aload X102.here hx rfl (hb hby at_284) rfl rfl ?_
        refine XS.iload X102.here hx rfl (hb hby at_286) rfl ?_
        exact kt
      have Y108 : Exa Z T94.heap b8 "com/example/satzung/satzung/validate/PlacePage" := (((Y43.keep K35).keep K84).keep K94)
      have Y109 : Fld Z T94.heap b8 "com/example/satzung/satzung/validate/PlacePage" "entities" "[Ljava/lang/String;" (.ref b9_0) := (((Y44.keep K35 (ninS (neN (by omega)) (ninS (neN (by omega)) (ninS (neN (by omega)) nin0)))).keep K84 nin0).keep K94 nin0)
      have Y110 : Arf Z T94.heap b9_0 k9_0 (.object "java/lang/String") (1024 : Int32) (own_upd (fun _ => .null) i9 .null) := (((Y23_0.keep K35 (ninS (neN (by omega)) (ninS (neN (by omega)) (ninS (neN (by omega)) nin0)))).keep K84 nin0).keep K94 nin0)
      have Y111 : Fld Z T94.heap b8 "com/example/satzung/satzung/validate/PlacePage" "lines" "[J" (.ref b9_1) := (((Y45.keep K35 (ninS (neN (by omega)) (ninS (neN (by omega)) (ninS (neN (by omega)) nin0)))).keep K84 nin0).keep K94 nin0)
      have Y112 : Arf Z T94.heap b9_1 k9_1 .long (1024 : Int32) (own_upd (fun _ => (.long (0 : Int64))) i9 (.long q15)) := (((Y23_1.keep K35 (ninS (neN (by omega)) (ninS (neN (by omega)) (ninS (neN (by omega)) nin0)))).keep K84 nin0).keep K94 nin0)
      have Y113 : Fld Z T94.heap b8 "com/example/satzung/satzung/validate/PlacePage" "columns" "[J" (.ref b9_2) := (((Y46.keep K35 (ninS (neN (by omega)) (ninS (neN (by omega)) (ninS (neN (by omega)) nin0)))).keep K84 nin0).keep K94 nin0)
      have Y114 : Arf Z T94.heap b9_2 k9_2 .long (1024 : Int32) (own_upd (fun _ => (.long (0 : Int64))) i9 (.long q17)) := (((Y23_2.keep K35 (ninS (neN (by omega)) (ninS (neN (by omega)) (ninS (neN (by omega)) nin0)))).keep K84 nin0).keep K94 nin0)
      obtain ⟨cq107, kq107, q107a, q107b, q107c⟩ := isOf hZ e102 Y108
      obtain ⟨_, _, ⟨T107, L107, k107, n107⟩, -, X107, ⟨Lc107, hQ107, l107, y107, z107⟩, st107⟩ := X102.virtualBack hx (y := (⟨"com/example/satzung/satzung/validate/PlacePage", "get", "(I)Lcom/example/satzung/satzung/diagnostics/Location;"⟩ : MethodName)) (z := (⟨"com/example/satzung/satzung/validate/PlacePage", "get", "(I)Lcom/example/satzung/satzung/diagnostics/Location;"⟩ : MethodName)) hown (mvT hZ (ow hw 70 rfl)) (mvT hZ (ow hw 71 rfl)) (notFace_of_selects (args := #[]) (mvT hZ (ow hw 73 rfl))) (mvT hZ (ow hw 73 rfl)) (mvT hZ (ow hw 72 rfl)) (by decide) (backOf (W := 0) (rm10N l Z a0 hw [] b8 i9 q15 q17 b9_0 b9_1 b9_2 k9_0 k9_1 k9_2 (own_upd (fun _ => .null) i9 .null) (own_upd (fun _ => (.long (0 : Int64))) i9 (.long q15)) (own_upd (fun _ => (.long (0 : Int64))) i9 (.long q17)) T94.heap n0 (by omega) Y108 Y109 Y110 Y111 Y112 Y113 Y114 Y9_4 (own_hit _ _ _) (own_hit _ _ _) (own_hit _ _ _) (by first | assumption | decide) (by first | assumption | decide) (by first | assumption | decide)) hZ (ow hw 74 rfl) (ow hw 30 rfl) (by decide) (by decide)) q107a q107c (g := (mkF m 288 #[sI p0, sI p1, sI p2, sL q3, sS, sL q4, sS, sI p5, sI i8, sI i9, sI i10, sI i11, sI i12, sN, sR rb, sL q15, sS, sL q17, sS, sL q19, sS, sL q21, sS, sR b1, sR b3, sR b5, sR b8, sR b3] [(.int i9), (.ref b8)])) rfl (by rw [hml]; rfl) (Steps.refl _) (argsL := [(.int i9)]) (rest := []) (lenOf pd139A_4 rfl) rfl (by show 2 * 0 + _ ≤ _; exact Nat.le_of_eq rfl) (hb hby at_288) (fun vm₁ hvm => ⟨rfl, e102, (by decide : 32 + 1 ≤ _), (by decide : 6362 + 3 ≤ _)⟩)
      dsimp only [Pt.U, Pt.locs, Pt.cells, Pt.slots] at X107 l107 y107 z107 st107 hQ107
      subst l107 y107 z107
      obtain ⟨b107_0, rfl, N107q, K107, KF107, gb107_0, ltb107_0, Y107_0, Y107_1, Y107_2, Y107_3⟩ := hQ107
      have sz107 : T94.heap.size ≤ T107.heap.size := K107.1
      have N107 := Fr.app N102 N107q
      refine GoW.trans st107 ?_
      show GoW p e below s _ _ _ (T107.setTop (mkF m 291 #[sI p0, sI p1, sI p2, sL q3, sS, sL q4, sS, sI p5, sI i8, sI i9, sI i10, sI i11, sI i12, sN, sR rb, sL q15, sS, sL q17, sS, sL q19, sS, sL q21, sS, sR b1, sR b3, sR b5, sR b8, sR b3] [(.ref b107_0)]))
      refine GoW.pre (st' := T107.setTop (mkF m 293 #[sI p0, sI p1, sI p2, sL q3, sS, sL q4, sS, sI p5, sI i8, sI i9, sI i10, sI i11, sI i12, sN, sR rb, sL q15, sS, sL q17, sS, sL q19, sS, sL q21, sS, sR b1, sR b3, sR b5, sR b8, sR b3] [(.ref b1), (.ref b107_0)])) (fun target kt => ?_) ?_
      · show Steps p.tables e below (T107.setTop (mkF m 291 #[sI p0, sI p1, sI p2, sL q3, sS, sL q4, sS, sI p5, sI i8, sI i9, sI i10, sI i11, sI i12, sN, sR rb, sL q15, sS, sL q17, sS, sL q19, sS, sL q21, sS, sR b1, sR b3, sR b5, sR b8, sR b3] [(.ref b107_0)])) _
        refine XS.aload X107.here hx rfl (hb hby at_291) rfl rfl ?_
        exact kt
      have Y116 : Exa Z T107.heap b1 "com/example/satzung/satzung/diagnostics/Location" := ((Y90.keep K94).keep K107)
      have Y117 : Fld Z T107.heap b1 "com/example/satzung/satzung/diagnostics/Location" "entity" "Ljava/lang/String;" .null := ((Y91.keep K94 nin0).keep K107 nin0)
      have Y118 : Fld Z T107.heap b1 "com/example/satzung/satzung/diagnostics/Location" "line" "J" (.long q15) := ((Y92.keep K94 nin0).keep K107 nin0)
      have Y119 : Fld Z T107.heap b1 "com/example/satzung/satzung/diagnostics/Location" "column" "J" (.long q17) := ((Y93.keep K94 nin0).keep K107 nin0)
      obtain ⟨cq115, kq115, q115a, q115b, q115c⟩ := isOf hZ rfl Y107_0
      obtain ⟨_, _, ⟨T115, L115, k115, n115⟩, -, X115, ⟨Lc115, hQ115, l115, y115, z115⟩, st115⟩ := X107.virtualBack hx (y := (⟨"com/example/satzung/satzung/diagnostics/Location", "equals", "(Ljava/lang/Object;)Z"⟩ : MethodName)) (z := (⟨"com/example/satzung/satzung/diagnostics/Location", "equals", "(Ljava/lang/Object;)Z"⟩ : MethodName)) hown (mvT hZ (ow hw 77 rfl)) (mvT hZ (ow hw 78 rfl)) (notFace_of_selects (args := #[]) (mvT hZ (ow hw 80 rfl))) (mvT hZ (ow hw 80 rfl)) (mvT hZ (ow hw 79 rfl)) (by decide) (backOf (W := 0) (rm11N l Z a0 hw [] b107_0 b1 q15 q17 T107.heap n0 (by omega) Y107_0 Y107_1 Y107_2 Y107_3 Y116 Y117 Y118 Y119) hZ (ow hw 81 rfl) (ow hw 15 rfl) (by decide) (by decide)) q115a q115c (g := (mkF m 293 #[sI p0, sI p1, sI p2, sL q3, sS, sL q4, sS, sI p5, sI i8, sI i9, sI i10, sI i11, sI i12, sN, sR rb, sL q15, sS, sL q17, sS, sL q19, sS, sL q21, sS, sR b1, sR b3, sR b5, sR b8, sR b3] [(.ref b1), (.ref b107_0)])) rfl (by rw [hml]; rfl) (Steps.refl _) (argsL := [(.ref b1)]) (rest := []) (lenOf pd139A_5 rfl) rfl (by show 2 * 0 + _ ≤ _; exact Nat.le_of_eq rfl) (hb hby at_293) (fun vm₁ hvm => ⟨rfl, rfl, (by decide : 33 + 0 ≤ _), (by decide : 6365 + 0 ≤ _)⟩)
      dsimp only [Pt.U, Pt.locs, Pt.cells, Pt.slots] at X115 l115 y115 z115 st115 hQ115
      subst l115 y115 z115
      obtain ⟨rfl, N115q, e115⟩ := hQ115
      have N115 := Fr.app N107 N115q
      refine GoW.trans st115 ?_
      show GoW p e below s _ _ _ (T115.setTop (mkF m 296 #[sI p0, sI p1, sI p2, sL q3, sS, sL q4, sS, sI p5, sI i8, sI i9, sI i10, sI i11, sI i12, sN, sR rb, sL q15, sS, sL q17, sS, sL q19, sS, sL q21, sS, sR b1, sR b3, sR b5, sR b8, sR b3] [(.int (1 : Int32))]))
      refine GoW.pre (st' := T115.setTop (mkF m 304 #[sI p0, sI p1, sI p2, sL q3, sS, sL q4, sS, sI p5, sI i8, sI i9, sI i10, sI i11, sI i12, sN, sR rb, sL q15, sS, sL q17, sS, sL q19, sS, sL q21, sS, sR b1, sR b3, sR b5, sR b8, sR b3] [(.int (1 : Int32))])) (fun target kt => ?_) ?_
      · show Steps p.tables e below (T115.setTop (mkF m 296 #[sI p0, sI p1, sI p2, sL q3, sS, sL q4, sS, sI p5, sI i8, sI i9, sI i10, sI i11, sI i12, sN, sR rb, sL q15, sS, sL q17, sS, sL q19, sS, sL q21, sS, sR b1, sR b3, sR b5, sR b8, sR b3] [(.int (1 : Int32))])) _
        refine XS.ifNo X115.here hx rfl (hb hby at_296) rfl ((if0 _ _).trans (feq (by decide)).1) ?_
        refine XS.iconst X115.here hx rfl (hb hby at_299) ?_
        refine XS.goto X115.here hx rfl (pc0 := 300) (pc' := 304) rfl (hb hby at_300) (by decide) (by decide) ?_
        exact kt
      exact GoW.retN X115 hS (leH e115 (by omega)) hx hlk hrt (z' := (1 : Int32)) (by simp) (hb hby at_304) rfl (by decide) (by decide) (by first | exact ⟨rfl, N115⟩ | (rw [e115]; exact ⟨rfl, N115⟩))
  · refine GoW.pre (st' := T6.setTop (mkF m 183 #[sI p0, sI p1, sI p2, sL q3, sS, sL q4, sS, sI p5, sI i8, sI i9, sI i10, sI i11, sI i12, sN, sR rb, sL q15, sS, sL q17, sS, sL q19, sS, sL q21, sS, sR b1, sR b3, sR b5, sU, sU] [])) (fun target kt => ?_) ?_
    · show Steps p.tables e below (T6.setTop (mkF m 180 #[sI p0, sI p1, sI p2, sL q3, sS, sL q4, sS, sI p5, sI i8, sI i9, sI i10, sI i11, sI i12, sN, sR rb, sL q15, sS, sL q17, sS, sL q19, sS, sL q21, sS, sR b1, sR b3, sR b5, sU, sU] [(.int i12)])) _
      refine XS.ifNo X6.here hx rfl (hb hby at_180) rfl ((if0 _ _).trans (feq h180_7).1) ?_
      exact kt
    refine GoW.pre (st' := T6.setTop (mkF m 203 #[sI p0, sI p1, sI p2, sL q3, sS, sL q4, sS, sI p5, sI i8, sI i9, sI i10, sI i11, sI i12, sN, sR rb, sL q15, sS, sL q17, sS, sL q19, sS, sL q21, sS, sR b1, sR b3, sR b5, sR b5, sU] [(.ref b3), (.int i10), (.ref b5)])) (fun target kt => ?_) ?_
    · show Steps p.tables e below (T6.setTop (mkF m 183 #[sI p0, sI p1, sI p2, sL q3, sS, sL q4, sS, sI p5, sI i8, sI i9, sI i10, sI i11, sI i12, sN, sR rb, sL q15, sS, sL q17, sS, sL q19, sS, sL q21, sS, sR b1, sR b3, sR b5, sU, sU] [])) _
      refine XS.aload X6.here hx rfl (hb hby at_183) rfl rfl ?_
      refine XS.goto X6.here hx rfl (pc0 := 185) (pc' := 195) rfl (hb hby at_185) (by decide) (by decide) ?_
      refine XS.astore X6.here hx rfl (hb hby at_195) rfl rfl (l' := #[.val (.int p0), .val (.int p1), .val (.int p2), .val (.long q3), .second, .val (.long q4), .second, .val (.int p5), .val (.int i8), .val (.int i9), .val (.int i10), .val (.int i11), .val (.int i12), .val .null, .val (.ref rb), .val (.long q15), .second, .val (.long q17), .second, .val (.long q19), .second, .val (.long q21), .second, .val (.ref b1), .val (.ref b3), .val (.ref b5), .val (.ref b5), .unset]) rfl ?_
      refine XS.aload X6.here hx rfl (hb hby at_197) rfl rfl ?_
      refine XS.iload X6.here hx rfl (hb hby at_199) rfl ?_
      refine XS.aload X6.here hx rfl (hb hby at_201) rfl rfl ?_
      exact kt
    have Y121 : Exa Z T6.heap b5 "com/example/satzung/satzung/validate/PlacePage" := (A5.keep K6)
    have Y122 : Exa Z T6.heap b3 "com/example/satzung/satzung/diagnostics/Location" := (((A3.keep K4).ext E5).keep K6)
    have Y123 : Fld Z T6.heap b3 "com/example/satzung/satzung/diagnostics/Location" "entity" "Ljava/lang/String;" (.ref rb) := ((Y4_0.ext E5).keep K6 (ninS (neN (by omega)) nin0))
    have Y124 : Fld Z T6.heap b3 "com/example/satzung/satzung/diagnostics/Location" "line" "J" (.long q19) := ((Y4_1.ext E5).keep K6 (ninS (neN (by omega)) nin0))
    have Y125 : Fld Z T6.heap b3 "com/example/satzung/satzung/diagnostics/Location" "column" "J" (.long q21) := ((Y4_2.ext E5).keep K6 (ninS (neN (by omega)) nin0))
    have Y126 : Exa Z T6.heap rb "java/lang/String" := ((((((E_rb.ext E1).keep K2).ext E3).keep K4).ext E5).keep K6)
    obtain ⟨cq120, kq120, q120a, q120b, q120c⟩ := isOf hZ rfl Y121
    obtain ⟨_, _, ⟨T120, L120, k120, n120⟩, -, X120, ⟨Lc120, hQ120, l120, y120, z120⟩, st120⟩ := X6.virtualBack hx (y := (⟨"com/example/satzung/satzung/validate/PlacePage", "set", "(ILcom/example/satzung/satzung/diagnostics/Location;)V"⟩ : MethodName)) (z := (⟨"com/example/satzung/satzung/validate/PlacePage", "set", "(ILcom/example/satzung/satzung/diagnostics/Location;)V"⟩ : MethodName)) hown (mvT hZ (ow hw 44 rfl)) (mvT hZ (ow hw 45 rfl)) (notFace_of_selects (args := #[]) (mvT hZ (ow hw 47 rfl))) (mvT hZ (ow hw 47 rfl)) (mvT hZ (ow hw 46 rfl)) (by decide) (backOf (W := 0) (rm5R l Z a0 hw [] b5 i10 b3 rb q19 q21 b6_0 b6_1 b6_2 k6_0 k6_1 k6_2 (fun _ => .null) (fun _ => (.long (0 : Int64))) (fun _ => (.long (0 : Int64))) T6.heap n0 (by omega) Y121 Y6_0 Y6_3 Y6_1 Y6_5 Y6_2 Y6_6 Y6_4 Y122 Y123 Y124 Y125 Y126 (neN (by omega)) (neN (by omega)) (neN (by omega)) (neN (by omega)) (neN (by omega)) (neN (by omega)) (neN (by omega)) (neN (by omega)) (neN (by omega)) (by omega) (by omega) (by omega) (by first | assumption | decide)) hZ (ow hw 48 rfl) (ow hw 30 rfl) (by decide) (by decide)) q120a q120c (g := (mkF m 203 #[sI p0, sI p1, sI p2, sL q3, sS, sL q4, sS, sI p5, sI i8, sI i9, sI i10, sI i11, sI i12, sN, sR rb, sL q15, sS, sL q17, sS, sL q19, sS, sL q21, sS, sR b1, sR b3, sR b5, sR b5, sU] [(.ref b3), (.int i10), (.ref b5)])) rfl (by rw [hml]; rfl) (Steps.refl _) (argsL := [(.int i10), (.ref b3)]) (rest := []) (lenOf pd139A_2 rfl) rfl (by show 2 * 0 + _ ≤ _; exact Nat.le_of_eq rfl) (hb hby at_203) (fun vm₁ hvm => ⟨rfl, rfl, (by decide : 26 + 0 ≤ _), (by decide : 3281 + 0 ≤ _)⟩)
    dsimp only [Pt.U, Pt.locs, Pt.cells, Pt.slots] at X120 l120 y120 z120 st120 hQ120
    subst l120 y120 z120
    obtain ⟨rfl, N120q, K120, KF120, Y120_0, Y120_1, Y120_2⟩ := hQ120
    have sz120 : T6.heap.size ≤ T120.heap.size := K120.1
    have N120 := Fr.app N6 N120q
    refine GoW.trans st120 ?_
    show GoW p e below s _ _ _ (T120.setTop (mkF m 206 #[sI p0, sI p1, sI p2, sL q3, sS, sL q4, sS, sI p5, sI i8, sI i9, sI i10, sI i11, sI i12, sN, sR rb, sL q15, sS, sL q17, sS, sL q19, sS, sL q21, sS, sR b1, sR b3, sR b5, sR b5, sU] []))
    refine GoW.pre (st' := T120.setTop (mkF m 212 #[sI p0, sI p1, sI p2, sL q3, sS, sL q4, sS, sI p5, sI i8, sI i9, sI i10, sI i11, sI i12, sN, sR rb, sL q15, sS, sL q17, sS, sL q19, sS, sL q21, sS, sR b1, sR b3, sR b5, sR b5, sU] [(.ref b1), (.int i9), (.ref b5)])) (fun target kt => ?_) ?_
    · show Steps p.tables e below (T120.setTop (mkF m 206 #[sI p0, sI p1, sI p2, sL q3, sS, sL q4, sS, sI p5, sI i8, sI i9, sI i10, sI i11, sI i12, sN, sR rb, sL q15, sS, sL q17, sS, sL q19, sS, sL q21, sS, sR b1, sR b3, sR b5, sR b5, sU] [])) _
      refine XS.aload X120.here hx rfl (hb hby at_206) rfl rfl ?_
      refine XS.iload X120.here hx rfl (hb hby at_208) rfl ?_
      refine XS.aload X120.here hx rfl (hb hby at_210) rfl rfl ?_
      exact kt
    have Y128 : Exa Z T120.heap b5 "com/example/satzung/satzung/validate/PlacePage" := (Y121.keep K120)
    have Y129 : Fld Z T120.heap b5 "com/example/satzung/satzung/validate/PlacePage" "entities" "[Ljava/lang/String;" (.ref b6_0) := (Y6_0.keep K120 (ninS (neN (by omega)) (ninS (neN (by omega)) (ninS (neN (by omega)) nin0))))
    have Y130 : Fld Z T120.heap b5 "com/example/satzung/satzung/validate/PlacePage" "lines" "[J" (.ref b6_1) := (Y6_1.keep K120 (ninS (neN (by omega)) (ninS (neN (by omega)) (ninS (neN (by omega)) nin0))))
    have Y131 : Fld Z T120.heap b5 "com/example/satzung/satzung/validate/PlacePage" "columns" "[J" (.ref b6_2) := (Y6_2.keep K120 (ninS (neN (by omega)) (ninS (neN (by omega)) (ninS (neN (by omega)) nin0))))
    have Y132 : Exa Z T120.heap b1 "com/example/satzung/satzung/diagnostics/Location" := ((((((A1.keep K2).ext E3).keep K4).ext E5).keep K6).keep K120)
    have Y133 : Fld Z T120.heap b1 "com/example/satzung/satzung/diagnostics/Location" "entity" "Ljava/lang/String;" .null := (((((Y2_0.ext E3).keep K4 (ninS (neN (by omega)) nin0)).ext E5).keep K6 (ninS (neN (by omega)) nin0)).keep K120 (ninS (neN (by omega)) (ninS (neN (by omega)) (ninS (neN (by omega)) nin0))))
    have Y134 : Fld Z T120.heap b1 "com/example/satzung/satzung/diagnostics/Location" "line" "J" (.long q15) := (((((Y2_1.ext E3).keep K4 (ninS (neN (by omega)) nin0)).ext E5).keep K6 (ninS (neN (by omega)) nin0)).keep K120 (ninS (neN (by omega)) (ninS (neN (by omega)) (ninS (neN (by omega)) nin0))))
    have Y135 : Fld Z T120.heap b1 "com/example/satzung/satzung/diagnostics/Location" "column" "J" (.long q17) := (((((Y2_2.ext E3).keep K4 (ninS (neN (by omega)) nin0)).ext E5).keep K6 (ninS (neN (by omega)) nin0)).keep K120 (ninS (neN (by omega)) (ninS (neN (by omega)) (ninS (neN (by omega)) nin0))))
    obtain ⟨cq127, kq127, q127a, q127b, q127c⟩ := isOf hZ rfl Y128
    obtain ⟨_, _, ⟨T127, L127, k127, n127⟩, -, X127, ⟨Lc127, hQ127, l127, y127, z127⟩, st127⟩ := X120.virtualBack hx (y := (⟨"com/example/satzung/satzung/validate/PlacePage", "set", "(ILcom/example/satzung/satzung/diagnostics/Location;)V"⟩ : MethodName)) (z := (⟨"com/example/satzung/satzung/validate/PlacePage", "set", "(ILcom/example/satzung/satzung/diagnostics/Location;)V"⟩ : MethodName)) hown (mvT hZ (ow hw 44 rfl)) (mvT hZ (ow hw 45 rfl)) (notFace_of_selects (args := #[]) (mvT hZ (ow hw 47 rfl))) (mvT hZ (ow hw 47 rfl)) (mvT hZ (ow hw 46 rfl)) (by decide) (backOf (W := 0) (rm5N l Z a0 hw [] b5 i9 b1 q15 q17 b6_0 b6_1 b6_2 k6_0 k6_1 k6_2 (own_upd (fun _ => .null) i10 (.ref rb)) (own_upd (fun _ => (.long (0 : Int64))) i10 (.long q19)) (own_upd (fun _ => (.long (0 : Int64))) i10 (.long q21)) T120.heap n0 (by omega) Y128 Y129 Y120_0 Y130 Y120_1 Y131 Y120_2 Y6_4 Y132 Y133 Y134 Y135 (neN (by omega)) (neN (by omega)) (neN (by omega)) (neN (by omega)) (neN (by omega)) (neN (by omega)) (neN (by omega)) (neN (by omega)) (neN (by omega)) (by omega) (by omega) (by omega) (by first | assumption | decide)) hZ (ow hw 48 rfl) (ow hw 30 rfl) (by decide) (by decide)) q127a q127c (g := (mkF m 212 #[sI p0, sI p1, sI p2, sL q3, sS, sL q4, sS, sI p5, sI i8, sI i9, sI i10, sI i11, sI i12, sN, sR rb, sL q15, sS, sL q17, sS, sL q19, sS, sL q21, sS, sR b1, sR b3, sR b5, sR b5, sU] [(.ref b1), (.int i9), (.ref b5)])) rfl (by rw [hml]; rfl) (Steps.refl _) (argsL := [(.int i9), (.ref b1)]) (rest := []) (lenOf pd139A_2 rfl) rfl (by show 2 * 0 + _ ≤ _; exact Nat.le_of_eq rfl) (hb hby at_212) (fun vm₁ hvm => ⟨rfl, rfl, (by decide : 26 + 0 ≤ _), (by decide : 3281 + 0 ≤ _)⟩)
    dsimp only [Pt.U, Pt.locs, Pt.cells, Pt.slots] at X127 l127 y127 z127 st127 hQ127
    subst l127 y127 z127
    obtain ⟨rfl, N127q, K127, KF127, Y127_0, Y127_1, Y127_2⟩ := hQ127
    have sz127 : T120.heap.size ≤ T127.heap.size := K127.1
    have N127 := Fr.app N120 N127q
    refine GoW.trans st127 ?_
    show GoW p e below s _ _ _ (T127.setTop (mkF m 215 #[sI p0, sI p1, sI p2, sL q3, sS, sL q4, sS, sI p5, sI i8, sI i9, sI i10, sI i11, sI i12, sN, sR rb, sL q15, sS, sL q17, sS, sL q19, sS, sL q21, sS, sR b1, sR b3, sR b5, sR b5, sU] []))
    refine GoW.pre (st' := T127.setTop (mkF m 223 #[sI p0, sI p1, sI p2, sL q3, sS, sL q4, sS, sI p5, sI i8, sI i9, sI i10, sI i11, sI i12, sN, sR rb, sL q15, sS, sL q17, sS, sL q19, sS, sL q21, sS, sR b1, sR b3, sR b5, sR b5, sU] [(.int i9), (.ref b5), (.int i8), (.ref b5)])) (fun target kt => ?_) ?_
    · show Steps p.tables e below (T127.setTop (mkF m 215 #[sI p0, sI p1, sI p2, sL q3, sS, sL q4, sS, sI p5, sI i8, sI i9, sI i10, sI i11, sI i12, sN, sR rb, sL q15, sS, sL q17, sS, sL q19, sS, sL q21, sS, sR b1, sR b3, sR b5, sR b5, sU] [])) _
      refine XS.aload X127.here hx rfl (hb hby at_215) rfl rfl ?_
      refine XS.iload X127.here hx rfl (hb hby at_217) rfl ?_
      refine XS.aload X127.here hx rfl (hb hby at_219) rfl rfl ?_
      refine XS.iload X127.here hx rfl (hb hby at_221) rfl ?_
      exact kt
    have Y137 : Exa Z T127.heap b5 "com/example/satzung/satzung/validate/PlacePage" := (Y128.keep K127)
    have Y138 : Fld Z T127.heap b5 "com/example/satzung/satzung/validate/PlacePage" "entities" "[Ljava/lang/String;" (.ref b6_0) := (Y129.keep K127 (ninS (neN (by omega)) (ninS (neN (by omega)) (ninS (neN (by omega)) nin0))))
    have Y139 : Fld Z T127.heap b5 "com/example/satzung/satzung/validate/PlacePage" "lines" "[J" (.ref b6_1) := (Y130.keep K127 (ninS (neN (by omega)) (ninS (neN (by omega)) (ninS (neN (by omega)) nin0))))
    have Y140 : Fld Z T127.heap b5 "com/example/satzung/satzung/validate/PlacePage" "columns" "[J" (.ref b6_2) := (Y131.keep K127 (ninS (neN (by omega)) (ninS (neN (by omega)) (ninS (neN (by omega)) nin0))))
    obtain ⟨cq136, kq136, q136a, q136b, q136c⟩ := isOf hZ rfl Y137
    obtain ⟨_, _, ⟨T136, L136, k136, n136⟩, -, X136, ⟨Lc136, hQ136, l136, y136, z136⟩, st136⟩ := X127.virtualBack hx (y := (⟨"com/example/satzung/satzung/validate/PlacePage", "set", "(ILcom/example/satzung/satzung/validate/PlacePage;I)V"⟩ : MethodName)) (z := (⟨"com/example/satzung/satzung/validate/PlacePage", "set", "(ILcom/example/satzung/satzung/validate/PlacePage;I)V"⟩ : MethodName)) hown (mvT hZ (ow hw 65 rfl)) (mvT hZ (ow hw 66 rfl)) (notFace_of_selects (args := #[]) (mvT hZ (ow hw 68 rfl))) (mvT hZ (ow hw 68 rfl)) (mvT hZ (ow hw 67 rfl)) (by decide) (backOf (W := 0) (rm9sN l Z a0 hw [] b5 i8 i9 q15 q17 b6_0 b6_1 b6_2 k6_0 k6_1 k6_2 (own_upd (own_upd (fun _ => .null) i10 (.ref rb)) i9 .null) (own_upd (own_upd (fun _ => (.long (0 : Int64))) i10 (.long q19)) i9 (.long q15)) (own_upd (own_upd (fun _ => (.long (0 : Int64))) i10 (.long q21)) i9 (.long q17)) T127.heap n0 (by omega) Y137 Y138 Y127_0 Y139 Y127_1 Y140 Y127_2 Y6_4 (own_hit _ _ _) (own_hit _ _ _) (own_hit _ _ _) (neN (by omega)) (neN (by omega)) (neN (by omega)) (neN (by omega)) (neN (by omega)) (neN (by omega)) (by omega) (by omega) (by omega) (by first | assumption | decide) (by first | assumption | decide)) hZ (ow hw 69 rfl) (ow hw 30 rfl) (by decide) (by decide)) q136a q136c (g := (mkF m 223 #[sI p0, sI p1, sI p2, sL q3, sS, sL q4, sS, sI p5, sI i8, sI i9, sI i10, sI i11, sI i12, sN, sR rb, sL q15, sS, sL q17, sS, sL q19, sS, sL q21, sS, sR b1, sR b3, sR b5, sR b5, sU] [(.int i9), (.ref b5), (.int i8), (.ref b5)])) rfl (by rw [hml]; rfl) (Steps.refl _) (argsL := [(.int i8), (.ref b5), (.int i9)]) (rest := []) (lenOf pd139A_3 rfl) rfl (by show 2 * 0 + _ ≤ _; exact Nat.le_of_eq rfl) (hb hby at_223) (fun vm₁ hvm => ⟨rfl, rfl, (by decide : 26 + 0 ≤ _), (by decide : 3281 + 0 ≤ _)⟩)
    dsimp only [Pt.U, Pt.locs, Pt.cells, Pt.slots] at X136 l136 y136 z136 st136 hQ136
    subst l136 y136 z136
    obtain ⟨rfl, N136q, K136, KF136, Y136_0, Y136_1, Y136_2⟩ := hQ136
    have sz136 : T127.heap.size ≤ T136.heap.size := K136.1
    have N136 := Fr.app N127 N136q
    refine GoW.trans st136 ?_
    show GoW p e below s _ _ _ (T136.setTop (mkF m 226 #[sI p0, sI p1, sI p2, sL q3, sS, sL q4, sS, sI p5, sI i8, sI i9, sI i10, sI i11, sI i12, sN, sR rb, sL q15, sS, sL q17, sS, sL q19, sS, sL q21, sS, sR b1, sR b3, sR b5, sR b5, sU] []))
    refine GoW.pre (st' := T136.setTop (mkF m 230 #[sI p0, sI p1, sI p2, sL q3, sS, sL q4, sS, sI p5, sI i8, sI i9, sI i10, sI i11, sI i12, sN, sR rb, sL q15, sS, sL q17, sS, sL q19, sS, sL q21, sS, sR b1, sR b3, sR b5, sR b5, sU] [(.int i8), (.int i10)])) (fun target kt => ?_) ?_
    · show Steps p.tables e below (T136.setTop (mkF m 226 #[sI p0, sI p1, sI p2, sL q3, sS, sL q4, sS, sI p5, sI i8, sI i9, sI i10, sI i11, sI i12, sN, sR rb, sL q15, sS, sL q17, sS, sL q19, sS, sL q21, sS, sR b1, sR b3, sR b5, sR b5, sU] [])) _
      refine XS.iload X136.here hx rfl (hb hby at_226) rfl ?_
      refine XS.iload X136.here hx rfl (hb hby at_228) rfl ?_
      exact kt
    by_cases h230_141 : i10 = i8
    · refine GoW.pre (st' := T136.setTop (mkF m 245 #[sI p0, sI p1, sI p2, sL q3, sS, sL q4, sS, sI p5, sI i8, sI i9, sI i10, sI i11, sI i12, sN, sR rb, sL q15, sS, sL q17, sS, sL q19, sS, sL q21, sS, sR b1, sR b3, sR b5, sR b5, sU] [])) (fun target kt => ?_) ?_
      · show Steps p.tables e below (T136.setTop (mkF m 230 #[sI p0, sI p1, sI p2, sL q3, sS, sL q4, sS, sI p5, sI i8, sI i9, sI i10, sI i11, sI i12, sN, sR rb, sL q15, sS, sL q17, sS, sL q19, sS, sL q21, sS, sR b1, sR b3, sR b5, sR b5, sU] [(.int i8), (.int i10)])) _
        refine XS.icmpYes X136.here hx rfl (pc0 := 230) (pc' := 245) rfl (hb hby at_230) rfl (teq h230_141).1 (by decide) (by decide) ?_
        exact kt
      refine GoW.pre (st' := T136.setTop (mkF m 258 #[sI p0, sI p1, sI p2, sL q3, sS, sL q4, sS, sI p5, sI i8, sI i9, sI i10, sI i11, sI i12, sN, sR rb, sL q15, sS, sL q17, sS, sL q19, sS, sL q21, sS, sR b1, sR b3, sR b5, sR b5, sR b1] [(.int i8), (.ref b5)])) (fun target kt => ?_) ?_
      · show Steps p.tables e below (T136.setTop (mkF m 245 #[sI p0, sI p1, sI p2, sL q3, sS, sL q4, sS, sI p5, sI i8, sI i9, sI i10, sI i11, sI i12, sN, sR rb, sL q15, sS, sL q17, sS, sL q19, sS, sL q21, sS, sR b1, sR b3, sR b5, sR b5, sU] [])) _
        refine XS.aload X136.here hx rfl (hb hby at_245) rfl rfl ?_
        refine XS.goto X136.here hx rfl (pc0 := 247) (pc' := 252) rfl (hb hby at_247) (by decide) (by decide) ?_
        refine XS.astore X136.here hx rfl (hb hby at_252) rfl rfl (l' := #[.val (.int p0), .val (.int p1), .val (.int p2), .val (.long q3), .second, .val (.long q4), .second, .val (.int p5), .val (.int i8), .val (.int i9), .val (.int i10), .val (.int i11), .val (.int i12), .val .null, .val (.ref rb), .val (.long q15), .second, .val (.long q17), .second, .val (.long q19), .second, .val (.long q21), .second, .val (.ref b1), .val (.ref b3), .val (.ref b5), .val (.ref b5), .val (.ref b1)]) rfl ?_
        refine XS.aload X136.here hx rfl (hb hby at_254) rfl rfl ?_
        refine XS.iload X136.here hx rfl (hb hby at_256) rfl ?_
        exact kt
      have Y143 : Exa Z T136.heap b5 "com/example/satzung/satzung/validate/PlacePage" := (Y137.keep K136)
      have Y144 : Fld Z T136.heap b5 "com/example/satzung/satzung/validate/PlacePage" "entities" "[Ljava/lang/String;" (.ref b6_0) := (Y138.keep K136 (ninS (neN (by omega)) (ninS (neN (by omega)) (ninS (neN (by omega)) nin0))))
      have Y145 : Fld Z T136.heap b5 "com/example/satzung/satzung/validate/PlacePage" "lines" "[J" (.ref b6_1) := (Y139.keep K136 (ninS (neN (by omega)) (ninS (neN (by omega)) (ninS (neN (by omega)) nin0))))
      have Y146 : Fld Z T136.heap b5 "com/example/satzung/satzung/validate/PlacePage" "columns" "[J" (.ref b6_2) := (Y140.keep K136 (ninS (neN (by omega)) (ninS (neN (by omega)) (ninS (neN (by omega)) nin0))))
      obtain ⟨cq142, kq142, q142a, q142b, q142c⟩ := isOf hZ rfl Y143
      obtain ⟨_, _, ⟨T142, L142, k142, n142⟩, -, X142, ⟨Lc142, hQ142, l142, y142, z142⟩, st142⟩ := X136.virtualBack hx (y := (⟨"com/example/satzung/satzung/validate/PlacePage", "get", "(I)Lcom/example/satzung/satzung/diagnostics/Location;"⟩ : MethodName)) (z := (⟨"com/example/satzung/satzung/validate/PlacePage", "get", "(I)Lcom/example/satzung/satzung/diagnostics/Location;"⟩ : MethodName)) hown (mvT hZ (ow hw 70 rfl)) (mvT hZ (ow hw 71 rfl)) (notFace_of_selects (args := #[]) (mvT hZ (ow hw 73 rfl))) (mvT hZ (ow hw 73 rfl)) (mvT hZ (ow hw 72 rfl)) (by decide) (backOf (W := 0) (rm10N l Z a0 hw [] b5 i8 q15 q17 b6_0 b6_1 b6_2 k6_0 k6_1 k6_2 (own_upd (own_upd (own_upd (fun _ => .null) i10 (.ref rb)) i9 .null) i8 .null) (own_upd (own_upd (own_upd (fun _ => (.long (0 : Int64))) i10 (.long q19)) i9 (.long q15)) i8 (.long q15)) (own_upd (own_upd (own_upd (fun _ => (.long (0 : Int64))) i10 (.long q21)) i9 (.long q17)) i8 (.long q17)) T136.heap n0 (by omega) Y143 Y144 Y136_0 Y145 Y136_1 Y146 Y136_2 Y6_4 (own_hit _ _ _) (own_hit _ _ _) (own_hit _ _ _) (by first | assumption | decide) (by first | assumption | decide) (by first | assumption | decide)) hZ (ow hw 74 rfl) (ow hw 30 rfl) (by decide) (by decide)) q142a q142c (g := (mkF m 258 #[sI p0, sI p1, sI p2, sL q3, sS, sL q4, sS, sI p5, sI i8, sI i9, sI i10, sI i11, sI i12, sN, sR rb, sL q15, sS, sL q17, sS, sL q19, sS, sL q21, sS, sR b1, sR b3, sR b5, sR b5, sR b1] [(.int i8), (.ref b5)])) rfl (by rw [hml]; rfl) (Steps.refl _) (argsL := [(.int i8)]) (rest := []) (lenOf pd139A_4 rfl) rfl (by show 2 * 0 + _ ≤ _; exact Nat.le_of_eq rfl) (hb hby at_258) (fun vm₁ hvm => ⟨rfl, rfl, (by decide : 26 + 1 ≤ _), (by decide : 3281 + 3 ≤ _)⟩)
      dsimp only [Pt.U, Pt.locs, Pt.cells, Pt.slots] at X142 l142 y142 z142 st142 hQ142
      subst l142 y142 z142
      obtain ⟨b142_0, rfl, N142q, K142, KF142, gb142_0, ltb142_0, Y142_0, Y142_1, Y142_2, Y142_3⟩ := hQ142
      have sz142 : T136.heap.size ≤ T142.heap.size := K142.1
      have N142 := Fr.app N136 N142q
      refine GoW.trans st142 ?_
      show GoW p e below s _ _ _ (T142.setTop (mkF m 261 #[sI p0, sI p1, sI p2, sL q3, sS, sL q4, sS, sI p5, sI i8, sI i9, sI i10, sI i11, sI i12, sN, sR rb, sL q15, sS, sL q17, sS, sL q19, sS, sL q21, sS, sR b1, sR b3, sR b5, sR b5, sR b1] [(.ref b142_0)]))
      refine GoW.pre (st' := T142.setTop (mkF m 263 #[sI p0, sI p1, sI p2, sL q3, sS, sL q4, sS, sI p5, sI i8, sI i9, sI i10, sI i11, sI i12, sN, sR rb, sL q15, sS, sL q17, sS, sL q19, sS, sL q21, sS, sR b1, sR b3, sR b5, sR b5, sR b1] [(.ref b1), (.ref b142_0)])) (fun target kt => ?_) ?_
      · show Steps p.tables e below (T142.setTop (mkF m 261 #[sI p0, sI p1, sI p2, sL q3, sS, sL q4, sS, sI p5, sI i8, sI i9, sI i10, sI i11, sI i12, sN, sR rb, sL q15, sS, sL q17, sS, sL q19, sS, sL q21, sS, sR b1, sR b3, sR b5, sR b5, sR b1] [(.ref b142_0)])) _
        refine XS.aload X142.here hx rfl (hb hby at_261) rfl rfl ?_
        exact kt
      have Y148 : Exa Z T142.heap b1 "com/example/satzung/satzung/diagnostics/Location" := (((Y132.keep K127).keep K136).keep K142)
      have Y149 : Fld Z T142.heap b1 "com/example/satzung/satzung/diagnostics/Location" "entity" "Ljava/lang/String;" .null := (((Y133.keep K127 (ninS (neN (by omega)) (ninS (neN (by omega)) (ninS (neN (by omega)) nin0)))).keep K136 (ninS (neN (by omega)) (ninS (neN (by omega)) (ninS (neN (by omega)) nin0)))).keep K142 nin0)
      have Y150 : Fld Z T142.heap b1 "com/example/satzung/satzung/diagnostics/Location" "line" "J" (.long q15) := (((Y134.keep K127 (ninS (neN (by omega)) (ninS (neN (by omega)) (ninS (neN (by omega)) nin0)))).keep K136 (ninS (neN (by omega)) (ninS (neN (by omega)) (ninS (neN (by omega)) nin0)))).keep K142 nin0)
      have Y151 : Fld Z T142.heap b1 "com/example/satzung/satzung/diagnostics/Location" "column" "J" (.long q17) := (((Y135.keep K127 (ninS (neN (by omega)) (ninS (neN (by omega)) (ninS (neN (by omega)) nin0)))).keep K136 (ninS (neN (by omega)) (ninS (neN (by omega)) (ninS (neN (by omega)) nin0)))).keep K142 nin0)
      obtain ⟨cq147, kq147, q147a, q147b, q147c⟩ := isOf hZ rfl Y142_0
      obtain ⟨_, _, ⟨T147, L147, k147, n147⟩, -, X147, ⟨Lc147, hQ147, l147, y147, z147⟩, st147⟩ := X142.virtualBack hx (y := (⟨"com/example/satzung/satzung/diagnostics/Location", "equals", "(Ljava/lang/Object;)Z"⟩ : MethodName)) (z := (⟨"com/example/satzung/satzung/diagnostics/Location", "equals", "(Ljava/lang/Object;)Z"⟩ : MethodName)) hown (mvT hZ (ow hw 77 rfl)) (mvT hZ (ow hw 78 rfl)) (notFace_of_selects (args := #[]) (mvT hZ (ow hw 80 rfl))) (mvT hZ (ow hw 80 rfl)) (mvT hZ (ow hw 79 rfl)) (by decide) (backOf (W := 0) (rm11N l Z a0 hw [] b142_0 b1 q15 q17 T142.heap n0 (by omega) Y142_0 Y142_1 Y142_2 Y142_3 Y148 Y149 Y150 Y151) hZ (ow hw 81 rfl) (ow hw 15 rfl) (by decide) (by decide)) q147a q147c (g := (mkF m 263 #[sI p0, sI p1, sI p2, sL q3, sS, sL q4, sS, sI p5, sI i8, sI i9, sI i10, sI i11, sI i12, sN, sR rb, sL q15, sS, sL q17, sS, sL q19, sS, sL q21, sS, sR b1, sR b3, sR b5, sR b5, sR b1] [(.ref b1), (.ref b142_0)])) rfl (by rw [hml]; rfl) (Steps.refl _) (argsL := [(.ref b1)]) (rest := []) (lenOf pd139A_5 rfl) rfl (by show 2 * 0 + _ ≤ _; exact Nat.le_of_eq rfl) (hb hby at_263) (fun vm₁ hvm => ⟨rfl, rfl, (by decide : 27 + 0 ≤ _), (by decide : 3284 + 0 ≤ _)⟩)
      dsimp only [Pt.U, Pt.locs, Pt.cells, Pt.slots] at X147 l147 y147 z147 st147 hQ147
      subst l147 y147 z147
      obtain ⟨rfl, N147q, e147⟩ := hQ147
      have N147 := Fr.app N142 N147q
      refine GoW.trans st147 ?_
      show GoW p e below s _ _ _ (T147.setTop (mkF m 266 #[sI p0, sI p1, sI p2, sL q3, sS, sL q4, sS, sI p5, sI i8, sI i9, sI i10, sI i11, sI i12, sN, sR rb, sL q15, sS, sL q17, sS, sL q19, sS, sL q21, sS, sR b1, sR b3, sR b5, sR b5, sR b1] [(.int (1 : Int32))]))
      refine GoW.pre (st' := T147.setTop (mkF m 273 #[sI p0, sI p1, sI p2, sL q3, sS, sL q4, sS, sI p5, sI i8, sI i9, sI i10, sI i11, sI i12, sN, sR rb, sL q15, sS, sL q17, sS, sL q19, sS, sL q21, sS, sR b1, sR b3, sR b5, sR b5, sR b1] [(.int i10), (.ref b5)])) (fun target kt => ?_) ?_
      · show Steps p.tables e below (T147.setTop (mkF m 266 #[sI p0, sI p1, sI p2, sL q3, sS, sL q4, sS, sI p5, sI i8, sI i9, sI i10, sI i11, sI i12, sN, sR rb, sL q15, sS, sL q17, sS, sL q19, sS, sL q21, sS, sR b1, sR b3, sR b5, sR b5, sR b1] [(.int (1 : Int32))])) _
        refine XS.ifNo X147.here hx rfl (hb hby at_266) rfl ((if0 _ _).trans (feq (by decide)).1) ?_
        refine XS.aload X147.here hx rfl (hb hby at_269) rfl rfl ?_
        refine XS.iload X147.here hx rfl (hb hby at_271) rfl ?_
        exact kt
      have Y153 : Exa Z T142.heap b5 "com/example/satzung/satzung/validate/PlacePage" := (Y143.keep K142)
      have Y154 : Fld Z T142.heap b5 "com/example/satzung/satzung/validate/PlacePage" "entities" "[Ljava/lang/String;" (.ref b6_0) := (Y144.keep K142 nin0)
      have Y155 : Arf Z T142.heap b6_0 k6_0 (.object "java/lang/String") (1024 : Int32) (own_upd (own_upd (own_upd (fun _ => .null) i10 (.ref rb)) i9 .null) i8 .null) := (Y136_0.keep K142 nin0)
      have Y156 : Fld Z T142.heap b5 "com/example/satzung/satzung/validate/PlacePage" "lines" "[J" (.ref b6_1) := (Y145.keep K142 nin0)
      have Y157 : Arf Z T142.heap b6_1 k6_1 .long (1024 : Int32) (own_upd (own_upd (own_upd (fun _ => (.long (0 : Int64))) i10 (.long q19)) i9 (.long q15)) i8 (.long q15)) := (Y136_1.keep K142 nin0)
      have Y158 : Fld Z T142.heap b5 "com/example/satzung/satzung/validate/PlacePage" "columns" "[J" (.ref b6_2) := (Y146.keep K142 nin0)
      have Y159 : Arf Z T142.heap b6_2 k6_2 .long (1024 : Int32) (own_upd (own_upd (own_upd (fun _ => (.long (0 : Int64))) i10 (.long q21)) i9 (.long q17)) i8 (.long q17)) := (Y136_2.keep K142 nin0)
      obtain ⟨cq152, kq152, q152a, q152b, q152c⟩ := isOf hZ e147 Y153
      obtain ⟨_, _, ⟨T152, L152, k152, n152⟩, -, X152, ⟨Lc152, hQ152, l152, y152, z152⟩, st152⟩ := X147.virtualBack hx (y := (⟨"com/example/satzung/satzung/validate/PlacePage", "get", "(I)Lcom/example/satzung/satzung/diagnostics/Location;"⟩ : MethodName)) (z := (⟨"com/example/satzung/satzung/validate/PlacePage", "get", "(I)Lcom/example/satzung/satzung/diagnostics/Location;"⟩ : MethodName)) hown (mvT hZ (ow hw 70 rfl)) (mvT hZ (ow hw 71 rfl)) (notFace_of_selects (args := #[]) (mvT hZ (ow hw 73 rfl))) (mvT hZ (ow hw 73 rfl)) (mvT hZ (ow hw 72 rfl)) (by decide) (backOf (W := 0) (rm10N l Z a0 hw [] b5 i10 q15 q17 b6_0 b6_1 b6_2 k6_0 k6_1 k6_2 (own_upd (own_upd (own_upd (fun _ => .null) i10 (.ref rb)) i9 .null) i8 .null) (own_upd (own_upd (own_upd (fun _ => (.long (0 : Int64))) i10 (.long q19)) i9 (.long q15)) i8 (.long q15)) (own_upd (own_upd (own_upd (fun _ => (.long (0 : Int64))) i10 (.long q21)) i9 (.long q17)) i8 (.long q17)) T142.heap n0 (by omega) Y153 Y154 Y155 Y156 Y157 Y158 Y159 Y6_4 (own_at h230_141) (own_at h230_141) (own_at h230_141) (by first | assumption | decide) (by first | assumption | decide) (by first | assumption | decide)) hZ (ow hw 74 rfl) (ow hw 30 rfl) (by decide) (by decide)) q152a q152c (g := (mkF m 273 #[sI p0, sI p1, sI p2, sL q3, sS, sL q4, sS, sI p5, sI i8, sI i9, sI i10, sI i11, sI i12, sN, sR rb, sL q15, sS, sL q17, sS, sL q19, sS, sL q21, sS, sR b1, sR b3, sR b5, sR b5, sR b1] [(.int i10), (.ref b5)])) rfl (by rw [hml]; rfl) (Steps.refl _) (argsL := [(.int i10)]) (rest := []) (lenOf pd139A_4 rfl) rfl (by show 2 * 0 + _ ≤ _; exact Nat.le_of_eq rfl) (hb hby at_273) (fun vm₁ hvm => ⟨rfl, e147, (by decide : 27 + 1 ≤ _), (by decide : 3284 + 3 ≤ _)⟩)
      dsimp only [Pt.U, Pt.locs, Pt.cells, Pt.slots] at X152 l152 y152 z152 st152 hQ152
      subst l152 y152 z152
      obtain ⟨b152_0, rfl, N152q, K152, KF152, gb152_0, ltb152_0, Y152_0, Y152_1, Y152_2, Y152_3⟩ := hQ152
      have sz152 : T142.heap.size ≤ T152.heap.size := K152.1
      have N152 := Fr.app N147 N152q
      refine GoW.trans st152 ?_
      show GoW p e below s _ _ _ (T152.setTop (mkF m 276 #[sI p0, sI p1, sI p2, sL q3, sS, sL q4, sS, sI p5, sI i8, sI i9, sI i10, sI i11, sI i12, sN, sR rb, sL q15, sS, sL q17, sS, sL q19, sS, sL q21, sS, sR b1, sR b3, sR b5, sR b5, sR b1] [(.ref b152_0)]))
      refine GoW.pre (st' := T152.setTop (mkF m 278 #[sI p0, sI p1, sI p2, sL q3, sS, sL q4, sS, sI p5, sI i8, sI i9, sI i10, sI i11, sI i12, sN, sR rb, sL q15, sS, sL q17, sS, sL q19, sS, sL q21, sS, sR b1, sR b3, sR b5, sR b5, sR b1] [(.ref b1), (.ref b152_0)])) (fun target kt => ?_) ?_
      · show Steps p.tables e below (T152.setTop (mkF m 276 #[sI p0, sI p1, sI p2, sL q3, sS, sL q4, sS, sI p5, sI i8, sI i9, sI i10, sI i11, sI i12, sN, sR rb, sL q15, sS, sL q17, sS, sL q19, sS, sL q21, sS, sR b1, sR b3, sR b5, sR b5, sR b1] [(.ref b152_0)])) _
        refine XS.aload X152.here hx rfl (hb hby at_276) rfl rfl ?_
        exact kt
      have Y161 : Exa Z T152.heap b1 "com/example/satzung/satzung/diagnostics/Location" := (Y148.keep K152)
      have Y162 : Fld Z T152.heap b1 "com/example/satzung/satzung/diagnostics/Location" "entity" "Ljava/lang/String;" .null := (Y149.keep K152 nin0)
      have Y163 : Fld Z T152.heap b1 "com/example/satzung/satzung/diagnostics/Location" "line" "J" (.long q15) := (Y150.keep K152 nin0)
      have Y164 : Fld Z T152.heap b1 "com/example/satzung/satzung/diagnostics/Location" "column" "J" (.long q17) := (Y151.keep K152 nin0)
      obtain ⟨cq160, kq160, q160a, q160b, q160c⟩ := isOf hZ rfl Y152_0
      obtain ⟨_, _, ⟨T160, L160, k160, n160⟩, -, X160, ⟨Lc160, hQ160, l160, y160, z160⟩, st160⟩ := X152.virtualBack hx (y := (⟨"com/example/satzung/satzung/diagnostics/Location", "equals", "(Ljava/lang/Object;)Z"⟩ : MethodName)) (z := (⟨"com/example/satzung/satzung/diagnostics/Location", "equals", "(Ljava/lang/Object;)Z"⟩ : MethodName)) hown (mvT hZ (ow hw 77 rfl)) (mvT hZ (ow hw 78 rfl)) (notFace_of_selects (args := #[]) (mvT hZ (ow hw 80 rfl))) (mvT hZ (ow hw 80 rfl)) (mvT hZ (ow hw 79 rfl)) (by decide) (backOf (W := 0) (rm11N l Z a0 hw [] b152_0 b1 q15 q17 T152.heap n0 (by omega) Y152_0 Y152_1 Y152_2 Y152_3 Y161 Y162 Y163 Y164) hZ (ow hw 81 rfl) (ow hw 15 rfl) (by decide) (by decide)) q160a q160c (g := (mkF m 278 #[sI p0, sI p1, sI p2, sL q3, sS, sL q4, sS, sI p5, sI i8, sI i9, sI i10, sI i11, sI i12, sN, sR rb, sL q15, sS, sL q17, sS, sL q19, sS, sL q21, sS, sR b1, sR b3, sR b5, sR b5, sR b1] [(.ref b1), (.ref b152_0)])) rfl (by rw [hml]; rfl) (Steps.refl _) (argsL := [(.ref b1)]) (rest := []) (lenOf pd139A_5 rfl) rfl (by show 2 * 0 + _ ≤ _; exact Nat.le_of_eq rfl) (hb hby at_278) (fun vm₁ hvm => ⟨rfl, rfl, (by decide : 28 + 0 ≤ _), (by decide : 3287 + 0 ≤ _)⟩)
      dsimp only [Pt.U, Pt.locs, Pt.cells, Pt.slots] at X160 l160 y160 z160 st160 hQ160
      subst l160 y160 z160
      obtain ⟨rfl, N160q, e160⟩ := hQ160
      have N160 := Fr.app N152 N160q
      refine GoW.trans st160 ?_
      show GoW p e below s _ _ _ (T160.setTop (mkF m 281 #[sI p0, sI p1, sI p2, sL q3, sS, sL q4, sS, sI p5, sI i8, sI i9, sI i10, sI i11, sI i12, sN, sR rb, sL q15, sS, sL q17, sS, sL q19, sS, sL q21, sS, sR b1, sR b3, sR b5, sR b5, sR b1] [(.int (1 : Int32))]))
      refine GoW.pre (st' := T160.setTop (mkF m 288 #[sI p0, sI p1, sI p2, sL q3, sS, sL q4, sS, sI p5, sI i8, sI i9, sI i10, sI i11, sI i12, sN, sR rb, sL q15, sS, sL q17, sS, sL q19, sS, sL q21, sS, sR b1, sR b3, sR b5, sR b5, sR b1] [(.int i9), (.ref b5)])) (fun target kt => ?_) ?_
      · show Steps p.tables e below (T160.setTop (mkF m 281 #[sI p0, sI p1, sI p2, sL q3, sS, sL q4, sS, sI p5, sI i8, sI i9, sI i10, sI i11, sI i12, sN, sR rb, sL q15, sS, sL q17, sS, sL q19, sS, sL q21, sS, sR b1, sR b3, sR b5, sR b5, sR b1] [(.int (1 : Int32))])) _
        refine XS.ifNo X160.here hx rfl (hb hby at_281) rfl ((if0 _ _).trans (feq (by decide)).1) ?_
        refine XS.aload X160.here hx rfl (hb hby at_284) rfl rfl ?_
        refine XS.iload X160.here hx rfl (hb hby at_286) rfl ?_
        exact kt
      have Y166 : Exa Z T152.heap b5 "com/example/satzung/satzung/validate/PlacePage" := (Y153.keep K152)
      have Y167 : Fld Z T152.heap b5 "com/example/satzung/satzung/validate/PlacePage" "entities" "[Ljava/lang/String;" (.ref b6_0) := (Y154.keep K152 nin0)
      have Y168 : Arf Z T152.heap b6_0 k6_0 (.object "java/lang/String") (1024 : Int32) (own_upd (own_upd (own_upd (fun _ => .null) i10 (.ref rb)) i9 .null) i8 .null) := (Y155.keep K152 nin0)
      have Y169 : Fld Z T152.heap b5 "com/example/satzung/satzung/validate/PlacePage" "lines" "[J" (.ref b6_1) := (Y156.keep K152 nin0)
      have Y170 : Arf Z T152.heap b6_1 k6_1 .long (1024 : Int32) (own_upd (own_upd (own_upd (fun _ => (.long (0 : Int64))) i10 (.long q19)) i9 (.long q15)) i8 (.long q15)) := (Y157.keep K152 nin0)
      have Y171 : Fld Z T152.heap b5 "com/example/satzung/satzung/validate/PlacePage" "columns" "[J" (.ref b6_2) := (Y158.keep K152 nin0)
      have Y172 : Arf Z T152.heap b6_2 k6_2 .long (1024 : Int32) (own_upd (own_upd (own_upd (fun _ => (.long (0 : Int64))) i10 (.long q21)) i9 (.long q17)) i8 (.long q17)) := (Y159.keep K152 nin0)
      obtain ⟨cq165, kq165, q165a, q165b, q165c⟩ := isOf hZ e160 Y166
      obtain ⟨_, _, ⟨T165, L165, k165, n165⟩, -, X165, ⟨Lc165, hQ165, l165, y165, z165⟩, st165⟩ := X160.virtualBack hx (y := (⟨"com/example/satzung/satzung/validate/PlacePage", "get", "(I)Lcom/example/satzung/satzung/diagnostics/Location;"⟩ : MethodName)) (z := (⟨"com/example/satzung/satzung/validate/PlacePage", "get", "(I)Lcom/example/satzung/satzung/diagnostics/Location;"⟩ : MethodName)) hown (mvT hZ (ow hw 70 rfl)) (mvT hZ (ow hw 71 rfl)) (notFace_of_selects (args := #[]) (mvT hZ (ow hw 73 rfl))) (mvT hZ (ow hw 73 rfl)) (mvT hZ (ow hw 72 rfl)) (by decide) (backOf (W := 0) (rm10N l Z a0 hw [] b5 i9 q15 q17 b6_0 b6_1 b6_2 k6_0 k6_1 k6_2 (own_upd (own_upd (own_upd (fun _ => .null) i10 (.ref rb)) i9 .null) i8 .null) (own_upd (own_upd (own_upd (fun _ => (.long (0 : Int64))) i10 (.long q19)) i9 (.long q15)) i8 (.long q15)) (own_upd (own_upd (own_upd (fun _ => (.long (0 : Int64))) i10 (.long q21)) i9 (.long q17)) i8 (.long q17)) T152.heap n0 (by omega) Y166 Y167 Y168 Y169 Y170 Y171 Y172 Y6_4 (own_or (own_hit _ _ _)) (own_or (own_hit _ _ _)) (own_or (own_hit _ _ _)) (by first | assumption | decide) (by first | assumption | decide) (by first | assumption | decide)) hZ (ow hw 74 rfl) (ow hw 30 rfl) (by decide) (by decide)) q165a q165c (g := (mkF m 288 #[sI p0, sI p1, sI p2, sL q3, sS, sL q4, sS, sI p5, sI i8, sI i9, sI i10, sI i11, sI i12, sN, sR rb, sL q15, sS, sL q17, sS, sL q19, sS, sL q21, sS, sR b1, sR b3, sR b5, sR b5, sR b1] [(.int i9), (.ref b5)])) rfl (by rw [hml]; rfl) (Steps.refl _) (argsL := [(.int i9)]) (rest := []) (lenOf pd139A_4 rfl) rfl (by show 2 * 0 + _ ≤ _; exact Nat.le_of_eq rfl) (hb hby at_288) (fun vm₁ hvm => ⟨rfl, e160, (by decide : 28 + 1 ≤ _), (by decide : 3287 + 3 ≤ _)⟩)
      dsimp only [Pt.U, Pt.locs, Pt.cells, Pt.slots] at X165 l165 y165 z165 st165 hQ165
      subst l165 y165 z165
      obtain ⟨b165_0, rfl, N165q, K165, KF165, gb165_0, ltb165_0, Y165_0, Y165_1, Y165_2, Y165_3⟩ := hQ165
      have sz165 : T152.heap.size ≤ T165.heap.size := K165.1
      have N165 := Fr.app N160 N165q
      refine GoW.trans st165 ?_
      show GoW p e below s _ _ _ (T165.setTop (mkF m 291 #[sI p0, sI p1, sI p2, sL q3, sS, sL q4, sS, sI p5, sI i8, sI i9, sI i10, sI i11, sI i12, sN, sR rb, sL q15, sS, sL q17, sS, sL q19, sS, sL q21, sS, sR b1, sR b3, sR b5, sR b5, sR b1] [(.ref b165_0)]))
      refine GoW.pre (st' := T165.setTop (mkF m 293 #[sI p0, sI p1, sI p2, sL q3, sS, sL q4, sS, sI p5, sI i8, sI i9, sI i10, sI i11, sI i12, sN, sR rb, sL q15, sS, sL q17, sS, sL q19, sS, sL q21, sS, sR b1, sR b3, sR b5, sR b5, sR b1] [(.ref b1), (.ref b165_0)])) (fun target kt => ?_) ?_
      · show Steps p.tables e below (T165.setTop (mkF m 291 #[sI p0, sI p1, sI p2, sL q3, sS, sL q4, sS, sI p5, sI i8, sI i9, sI i10, sI i11, sI i12, sN, sR rb, sL q15, sS, sL q17, sS, sL q19, sS, sL q21, sS, sR b1, sR b3, sR b5, sR b5, sR b1] [(.ref b165_0)])) _
        refine XS.aload X165.here hx rfl (hb hby at_291) rfl rfl ?_
        exact kt
      have Y174 : Exa Z T165.heap b1 "com/example/satzung/satzung/diagnostics/Location" := (Y161.keep K165)
      have Y175 : Fld Z T165.heap b1 "com/example/satzung/satzung/diagnostics/Location" "entity" "Ljava/lang/String;" .null := (Y162.keep K165 nin0)
      have Y176 : Fld Z T165.heap b1 "com/example/satzung/satzung/diagnostics/Location" "line" "J" (.long q15) := (Y163.keep K165 nin0)
      have Y177 : Fld Z T165.heap b1 "com/example/satzung/satzung/diagnostics/Location" "column" "J" (.long q17) := (Y164.keep K165 nin0)
      obtain ⟨cq173, kq173, q173a, q173b, q173c⟩ := isOf hZ rfl Y165_0
      obtain ⟨_, _, ⟨T173, L173, k173, n173⟩, -, X173, ⟨Lc173, hQ173, l173, y173, z173⟩, st173⟩ := X165.virtualBack hx (y := (⟨"com/example/satzung/satzung/diagnostics/Location", "equals", "(Ljava/lang/Object;)Z"⟩ : MethodName)) (z := (⟨"com/example/satzung/satzung/diagnostics/Location", "equals", "(Ljava/lang/Object;)Z"⟩ : MethodName)) hown (mvT hZ (ow hw 77 rfl)) (mvT hZ (ow hw 78 rfl)) (notFace_of_selects (args := #[]) (mvT hZ (ow hw 80 rfl))) (mvT hZ (ow hw 80 rfl)) (mvT hZ (ow hw 79 rfl)) (by decide) (backOf (W := 0) (rm11N l Z a0 hw [] b165_0 b1 q15 q17 T165.heap n0 (by omega) Y165_0 Y165_1 Y165_2 Y165_3 Y174 Y175 Y176 Y177) hZ (ow hw 81 rfl) (ow hw 15 rfl) (by decide) (by decide)) q173a q173c (g := (mkF m 293 #[sI p0, sI p1, sI p2, sL q3, sS, sL q4, sS, sI p5, sI i8, sI i9, sI i10, sI i11, sI i12, sN, sR rb, sL q15, sS, sL q17, sS, sL q19, sS, sL q21, sS, sR b1, sR b3, sR b5, sR b5, sR b1] [(.ref b1), (.ref b165_0)])) rfl (by rw [hml]; rfl) (Steps.refl _) (argsL := [(.ref b1)]) (rest := []) (lenOf pd139A_5 rfl) rfl (by show 2 * 0 + _ ≤ _; exact Nat.le_of_eq rfl) (hb hby at_293) (fun vm₁ hvm => ⟨rfl, rfl, (by decide : 29 + 0 ≤ _), (by decide : 3290 + 0 ≤ _)⟩)
      dsimp only [Pt.U, Pt.locs, Pt.cells, Pt.slots] at X173 l173 y173 z173 st173 hQ173
      subst l173 y173 z173
      obtain ⟨rfl, N173q, e173⟩ := hQ173
      have N173 := Fr.app N165 N173q
      refine GoW.trans st173 ?_
      show GoW p e below s _ _ _ (T173.setTop (mkF m 296 #[sI p0, sI p1, sI p2, sL q3, sS, sL q4, sS, sI p5, sI i8, sI i9, sI i10, sI i11, sI i12, sN, sR rb, sL q15, sS, sL q17, sS, sL q19, sS, sL q21, sS, sR b1, sR b3, sR b5, sR b5, sR b1] [(.int (1 : Int32))]))
      refine GoW.pre (st' := T173.setTop (mkF m 304 #[sI p0, sI p1, sI p2, sL q3, sS, sL q4, sS, sI p5, sI i8, sI i9, sI i10, sI i11, sI i12, sN, sR rb, sL q15, sS, sL q17, sS, sL q19, sS, sL q21, sS, sR b1, sR b3, sR b5, sR b5, sR b1] [(.int (1 : Int32))])) (fun target kt => ?_) ?_
      · show Steps p.tables e below (T173.setTop (mkF m 296 #[sI p0, sI p1, sI p2, sL q3, sS, sL q4, sS, sI p5, sI i8, sI i9, sI i10, sI i11, sI i12, sN, sR rb, sL q15, sS, sL q17, sS, sL q19, sS, sL q21, sS, sR b1, sR b3, sR b5, sR b5, sR b1] [(.int (1 : Int32))])) _
        refine XS.ifNo X173.here hx rfl (hb hby at_296) rfl ((if0 _ _).trans (feq (by decide)).1) ?_
        refine XS.iconst X173.here hx rfl (hb hby at_299) ?_
        refine XS.goto X173.here hx rfl (pc0 := 300) (pc' := 304) rfl (hb hby at_300) (by decide) (by decide) ?_
        exact kt
      exact GoW.retN X173 hS (leH e173 (by omega)) hx hlk hrt (z' := (1 : Int32)) (by simp) (hb hby at_304) rfl (by decide) (by decide) (by first | exact ⟨rfl, N173⟩ | (rw [e173]; exact ⟨rfl, N173⟩))
    · refine GoW.pre (st' := T136.setTop (mkF m 233 #[sI p0, sI p1, sI p2, sL q3, sS, sL q4, sS, sI p5, sI i8, sI i9, sI i10, sI i11, sI i12, sN, sR rb, sL q15, sS, sL q17, sS, sL q19, sS, sL q21, sS, sR b1, sR b3, sR b5, sR b5, sU] [])) (fun target kt => ?_) ?_
      · show Steps p.tables e below (T136.setTop (mkF m 230 #[sI p0, sI p1, sI p2, sL q3, sS, sL q4, sS, sI p5, sI i8, sI i9, sI i10, sI i11, sI i12, sN, sR rb, sL q15, sS, sL q17, sS, sL q19, sS, sL q21, sS, sR b1, sR b3, sR b5, sR b5, sU] [(.int i8), (.int i10)])) _
        refine XS.icmpNo X136.here hx rfl (hb hby at_230) rfl (feq h230_141).1 ?_
        exact kt
      refine GoW.pre (st' := T136.setTop (mkF m 242 #[sI p0, sI p1, sI p2, sL q3, sS, sL q4, sS, sI p5, sI i8, sI i9, sI i10, sI i11, sI i12, sN, sR rb, sL q15, sS, sL q17, sS, sL q19, sS, sL q21, sS, sR b1, sR b3, sR b5, sR b5, sU] [(.int i9), (.int i10)])) (fun target kt => ?_) ?_
      · show Steps p.tables e below (T136.setTop (mkF m 233 #[sI p0, sI p1, sI p2, sL q3, sS, sL q4, sS, sI p5, sI i8, sI i9, sI i10, sI i11, sI i12, sN, sR rb, sL q15, sS, sL q17, sS, sL q19, sS, sL q21, sS, sR b1, sR b3, sR b5, sR b5, sU] [])) _
        refine XS.iload X136.here hx rfl (hb hby at_233) rfl ?_
        refine XS.ifNo X136.here hx rfl (hb hby at_235) rfl ((if0 _ _).trans (feq h180_7).1) ?_
        refine XS.iload X136.here hx rfl (hb hby at_238) rfl ?_
        refine XS.iload X136.here hx rfl (hb hby at_240) rfl ?_
        exact kt
      by_cases h242_178 : i10 = i9
      · refine GoW.pre (st' := T136.setTop (mkF m 245 #[sI p0, sI p1, sI p2, sL q3, sS, sL q4, sS, sI p5, sI i8, sI i9, sI i10, sI i11, sI i12, sN, sR rb, sL q15, sS, sL q17, sS, sL q19, sS, sL q21, sS, sR b1, sR b3, sR b5, sR b5, sU] [])) (fun target kt => ?_) ?_
        · show Steps p.tables e below (T136.setTop (mkF m 242 #[sI p0, sI p1, sI p2, sL q3, sS, sL q4, sS, sI p5, sI i8, sI i9, sI i10, sI i11, sI i12, sN, sR rb, sL q15, sS, sL q17, sS, sL q19, sS, sL q21, sS, sR b1, sR b3, sR b5, sR b5, sU] [(.int i9), (.int i10)])) _
          refine XS.icmpNo X136.here hx rfl (hb hby at_242) rfl (teq h242_178).2 ?_
          exact kt
        refine GoW.pre (st' := T136.setTop (mkF m 258 #[sI p0, sI p1, sI p2, sL q3, sS, sL q4, sS, sI p5, sI i8, sI i9, sI i10, sI i11, sI i12, sN, sR rb, sL q15, sS, sL q17, sS, sL q19, sS, sL q21, sS, sR b1, sR b3, sR b5, sR b5, sR b1] [(.int i8), (.ref b5)])) (fun target kt => ?_) ?_
        · show Steps p.tables e below (T136.setTop (mkF m 245 #[sI p0, sI p1, sI p2, sL q3, sS, sL q4, sS, sI p5, sI i8, sI i9, sI i10, sI i11, sI i12, sN, sR rb, sL q15, sS, sL q17, sS, sL q19, sS, sL q21, sS, sR b1, sR b3, sR b5, sR b5, sU] [])) _
          refine XS.aload X136.here hx rfl (hb hby at_245) rfl rfl ?_
          refine XS.goto X136.here hx rfl (pc0 := 247) (pc' := 252) rfl (hb hby at_247) (by decide) (by decide) ?_
          refine XS.astore X136.here hx rfl (hb hby at_252) rfl rfl (l' := #[.val (.int p0), .val (.int p1), .val (.int p2), .val (.long q3), .second, .val (.long q4), .second, .val (.int p5), .val (.int i8), .val (.int i9), .val (.int i10), .val (.int i11), .val (.int i12), .val .null, .val (.ref rb), .val (.long q15), .second, .val (.long q17), .second, .val (.long q19), .second, .val (.long q21), .second, .val (.ref b1), .val (.ref b3), .val (.ref b5), .val (.ref b5), .val (.ref b1)]) rfl ?_
          refine XS.aload X136.here hx rfl (hb hby at_254) rfl rfl ?_
          refine XS.iload X136.here hx rfl (hb hby at_256) rfl ?_
          exact kt
        have Y180 : Exa Z T136.heap b5 "com/example/satzung/satzung/validate/PlacePage" := (Y137.keep K136)
        have Y181 : Fld Z T136.heap b5 "com/example/satzung/satzung/validate/PlacePage" "entities" "[Ljava/lang/String;" (.ref b6_0) := (Y138.keep K136 (ninS (neN (by omega)) (ninS (neN (by omega)) (ninS (neN (by omega)) nin0))))
        have Y182 : Fld Z T136.heap b5 "com/example/satzung/satzung/validate/PlacePage" "lines" "[J" (.ref b6_1) := (Y139.keep K136 (ninS (neN (by omega)) (ninS (neN (by omega)) (ninS (neN (by omega)) nin0))))
        have Y183 : Fld Z T136.heap b5 "com/example/satzung/satzung/validate/PlacePage" "columns" "[J" (.ref b6_2) := (Y140.keep K136 (ninS (neN (by omega)) (ninS (neN (by omega)) (ninS (neN (by omega)) nin0))))
        obtain ⟨cq179, kq179, q179a, q179b, q179c⟩ := isOf hZ rfl Y180
        obtain ⟨_, _, ⟨T179, L179, k179, n179⟩, -, X179, ⟨Lc179, hQ179, l179, y179, z179⟩, st179⟩ := X136.virtualBack hx (y := (⟨"com/example/satzung/satzung/validate/PlacePage", "get", "(I)Lcom/example/satzung/satzung/diagnostics/Location;"⟩ : MethodName)) (z := (⟨"com/example/satzung/satzung/validate/PlacePage", "get", "(I)Lcom/example/satzung/satzung/diagnostics/Location;"⟩ : MethodName)) hown (mvT hZ (ow hw 70 rfl)) (mvT hZ (ow hw 71 rfl)) (notFace_of_selects (args := #[]) (mvT hZ (ow hw 73 rfl))) (mvT hZ (ow hw 73 rfl)) (mvT hZ (ow hw 72 rfl)) (by decide) (backOf (W := 0) (rm10N l Z a0 hw [] b5 i8 q15 q17 b6_0 b6_1 b6_2 k6_0 k6_1 k6_2 (own_upd (own_upd (own_upd (fun _ => .null) i10 (.ref rb)) i9 .null) i8 .null) (own_upd (own_upd (own_upd (fun _ => (.long (0 : Int64))) i10 (.long q19)) i9 (.long q15)) i8 (.long q15)) (own_upd (own_upd (own_upd (fun _ => (.long (0 : Int64))) i10 (.long q21)) i9 (.long q17)) i8 (.long q17)) T136.heap n0 (by omega) Y180 Y181 Y136_0 Y182 Y136_1 Y183 Y136_2 Y6_4 (own_hit _ _ _) (own_hit _ _ _) (own_hit _ _ _) (by first | assumption | decide) (by first | assumption | decide) (by first | assumption | decide)) hZ (ow hw 74 rfl) (ow hw 30 rfl) (by decide) (by decide)) q179a q179c (g := (mkF m 258 #[sI p0, sI p1, sI p2, sL q3, sS, sL q4, sS, sI p5, sI i8, sI i9, sI i10, sI i11, sI i12, sN, sR rb, sL q15, sS, sL q17, sS, sL q19, sS, sL q21, sS, sR b1, sR b3, sR b5, sR b5, sR b1] [(.int i8), (.ref b5)])) rfl (by rw [hml]; rfl) (Steps.refl _) (argsL := [(.int i8)]) (rest := []) (lenOf pd139A_4 rfl) rfl (by show 2 * 0 + _ ≤ _; exact Nat.le_of_eq rfl) (hb hby at_258) (fun vm₁ hvm => ⟨rfl, rfl, (by decide : 26 + 1 ≤ _), (by decide : 3281 + 3 ≤ _)⟩)
        dsimp only [Pt.U, Pt.locs, Pt.cells, Pt.slots] at X179 l179 y179 z179 st179 hQ179
        subst l179 y179 z179
        obtain ⟨b179_0, rfl, N179q, K179, KF179, gb179_0, ltb179_0, Y179_0, Y179_1, Y179_2, Y179_3⟩ := hQ179
        have sz179 : T136.heap.size ≤ T179.heap.size := K179.1
        have N179 := Fr.app N136 N179q
        refine GoW.trans st179 ?_
        show GoW p e below s _ _ _ (T179.setTop (mkF m 261 #[sI p0, sI p1, sI p2, sL q3, sS, sL q4, sS, sI p5, sI i8, sI i9, sI i10, sI i11, sI i12, sN, sR rb, sL q15, sS, sL q17, sS, sL q19, sS, sL q21, sS, sR b1, sR b3, sR b5, sR b5, sR b1] [(.ref b179_0)]))
        refine GoW.pre (st' := T179.setTop (mkF m 263 #[sI p0, sI p1, sI p2, sL q3, sS, sL q4, sS, sI p5, sI i8, sI i9, sI i10, sI i11, sI i12, sN, sR rb, sL q15, sS, sL q17, sS, sL q19, sS, sL q21, sS, sR b1, sR b3, sR b5, sR b5, sR b1] [(.ref b1), (.ref b179_0)])) (fun target kt => ?_) ?_
        · show Steps p.tables e below (T179.setTop (mkF m 261 #[sI p0, sI p1, sI p2, sL q3, sS, sL q4, sS, sI p5, sI i8, sI i9, sI i10, sI i11, sI i12, sN, sR rb, sL q15, sS, sL q17, sS, sL q19, sS, sL q21, sS, sR b1, sR b3, sR b5, sR b5, sR b1] [(.ref b179_0)])) _
          refine XS.aload X179.here hx rfl (hb hby at_261) rfl rfl ?_
          exact kt
        have Y185 : Exa Z T179.heap b1 "com/example/satzung/satzung/diagnostics/Location" := (((Y132.keep K127).keep K136).keep K179)
        have Y186 : Fld Z T179.heap b1 "com/example/satzung/satzung/diagnostics/Location" "entity" "Ljava/lang/String;" .null := (((Y133.keep K127 (ninS (neN (by omega)) (ninS (neN (by omega)) (ninS (neN (by omega)) nin0)))).keep K136 (ninS (neN (by omega)) (ninS (neN (by omega)) (ninS (neN (by omega)) nin0)))).keep K179 nin0)
        have Y187 : Fld Z T179.heap b1 "com/example/satzung/satzung/diagnostics/Location" "line" "J" (.long q15) := (((Y134.keep K127 (ninS (neN (by omega)) (ninS (neN (by omega)) (ninS (neN (by omega)) nin0)))).keep K136 (ninS (neN (by omega)) (ninS (neN (by omega)) (ninS (neN (by omega)) nin0)))).keep K179 nin0)
        have Y188 : Fld Z T179.heap b1 "com/example/satzung/satzung/diagnostics/Location" "column" "J" (.long q17) := (((Y135.keep K127 (ninS (neN (by omega)) (ninS (neN (by omega)) (ninS (neN (by omega)) nin0)))).keep K136 (ninS (neN (by omega)) (ninS (neN (by omega)) (ninS (neN (by omega)) nin0)))).keep K179 nin0)
        obtain ⟨cq184, kq184, q184a, q184b, q184c⟩ := isOf hZ rfl Y179_0
        obtain ⟨_, _, ⟨T184, L184, k184, n184⟩, -, X184, ⟨Lc184, hQ184, l184, y184, z184⟩, st184⟩ := X179.virtualBack hx (y := (⟨"com/example/satzung/satzung/diagnostics/Location", "equals", "(Ljava/lang/Object;)Z"⟩ : MethodName)) (z := (⟨"com/example/satzung/satzung/diagnostics/Location", "equals", "(Ljava/lang/Object;)Z"⟩ : MethodName)) hown (mvT hZ (ow hw 77 rfl)) (mvT hZ (ow hw 78 rfl)) (notFace_of_selects (args := #[]) (mvT hZ (ow hw 80 rfl))) (mvT hZ (ow hw 80 rfl)) (mvT hZ (ow hw 79 rfl)) (by decide) (backOf (W := 0) (rm11N l Z a0 hw [] b179_0 b1 q15 q17 T179.heap n0 (by omega) Y179_0 Y179_1 Y179_2 Y179_3 Y185 Y186 Y187 Y188) hZ (ow hw 81 rfl) (ow hw 15 rfl) (by decide) (by decide)) q184a q184c (g := (mkF m 263 #[sI p0, sI p1, sI p2, sL q3, sS, sL q4, sS, sI p5, sI i8, sI i9, sI i10, sI i11, sI i12, sN, sR rb, sL q15, sS, sL q17, sS, sL q19, sS, sL q21, sS, sR b1, sR b3, sR b5, sR b5, sR b1] [(.ref b1), (.ref b179_0)])) rfl (by rw [hml]; rfl) (Steps.refl _) (argsL := [(.ref b1)]) (rest := []) (lenOf pd139A_5 rfl) rfl (by show 2 * 0 + _ ≤ _; exact Nat.le_of_eq rfl) (hb hby at_263) (fun vm₁ hvm => ⟨rfl, rfl, (by decide : 27 + 0 ≤ _), (by decide : 3284 + 0 ≤ _)⟩)
        dsimp only [Pt.U, Pt.locs, Pt.cells, Pt.slots] at X184 l184 y184 z184 st184 hQ184
        subst l184 y184 z184
        obtain ⟨rfl, N184q, e184⟩ := hQ184
        have N184 := Fr.app N179 N184q
        refine GoW.trans st184 ?_
        show GoW p e below s _ _ _ (T184.setTop (mkF m 266 #[sI p0, sI p1, sI p2, sL q3, sS, sL q4, sS, sI p5, sI i8, sI i9, sI i10, sI i11, sI i12, sN, sR rb, sL q15, sS, sL q17, sS, sL q19, sS, sL q21, sS, sR b1, sR b3, sR b5, sR b5, sR b1] [(.int (1 : Int32))]))
        refine GoW.pre (st' := T184.setTop (mkF m 273 #[sI p0, sI p1, sI p2, sL q3, sS, sL q4, sS, sI p5, sI i8, sI i9, sI i10, sI i11, sI i12, sN, sR rb, sL q15, sS, sL q17, sS, sL q19, sS, sL q21, sS, sR b1, sR b3, sR b5, sR b5, sR b1] [(.int i10), (.ref b5)])) (fun target kt => ?_) ?_
        · show Steps p.tables e below (T184.setTop (mkF m 266 #[sI p0, sI p1, sI p2, sL q3, sS, sL q4, sS, sI p5, sI i8, sI i9, sI i10, sI i11, sI i12, sN, sR rb, sL q15, sS, sL q17, sS, sL q19, sS, sL q21, sS, sR b1, sR b3, sR b5, sR b5, sR b1] [(.int (1 : Int32))])) _
          refine XS.ifNo X184.here hx rfl (hb hby at_266) rfl ((if0 _ _).trans (feq (by decide)).1) ?_
          refine XS.aload X184.here hx rfl (hb hby at_269) rfl rfl ?_
          refine XS.iload X184.here hx rfl (hb hby at_271) rfl ?_
          exact kt
        have Y190 : Exa Z T179.heap b5 "com/example/satzung/satzung/validate/PlacePage" := (Y180.keep K179)
        have Y191 : Fld Z T179.heap b5 "com/example/satzung/satzung/validate/PlacePage" "entities" "[Ljava/lang/String;" (.ref b6_0) := (Y181.keep K179 nin0)
        have Y192 : Arf Z T179.heap b6_0 k6_0 (.object "java/lang/String") (1024 : Int32) (own_upd (own_upd (own_upd (fun _ => .null) i10 (.ref rb)) i9 .null) i8 .null) := (Y136_0.keep K179 nin0)
        have Y193 : Fld Z T179.heap b5 "com/example/satzung/satzung/validate/PlacePage" "lines" "[J" (.ref b6_1) := (Y182.keep K179 nin0)
        have Y194 : Arf Z T179.heap b6_1 k6_1 .long (1024 : Int32) (own_upd (own_upd (own_upd (fun _ => (.long (0 : Int64))) i10 (.long q19)) i9 (.long q15)) i8 (.long q15)) := (Y136_1.keep K179 nin0)
        have Y195 : Fld Z T179.heap b5 "com/example/satzung/satzung/validate/PlacePage" "columns" "[J" (.ref b6_2) := (Y183.keep K179 nin0)
        have Y196 : Arf Z T179.heap b6_2 k6_2 .long (1024 : Int32) (own_upd (own_upd (own_upd (fun _ => (.long (0 : Int64))) i10 (.long q21)) i9 (.long q17)) i8 (.long q17)) := (Y136_2.keep K179 nin0)
        obtain ⟨cq189, kq189, q189a, q189b, q189c⟩ := isOf hZ e184 Y190
        obtain ⟨_, _, ⟨T189, L189, k189, n189⟩, -, X189, ⟨Lc189, hQ189, l189, y189, z189⟩, st189⟩ := X184.virtualBack hx (y := (⟨"com/example/satzung/satzung/validate/PlacePage", "get", "(I)Lcom/example/satzung/satzung/diagnostics/Location;"⟩ : MethodName)) (z := (⟨"com/example/satzung/satzung/validate/PlacePage", "get", "(I)Lcom/example/satzung/satzung/diagnostics/Location;"⟩ : MethodName)) hown (mvT hZ (ow hw 70 rfl)) (mvT hZ (ow hw 71 rfl)) (notFace_of_selects (args := #[]) (mvT hZ (ow hw 73 rfl))) (mvT hZ (ow hw 73 rfl)) (mvT hZ (ow hw 72 rfl)) (by decide) (backOf (W := 0) (rm10N l Z a0 hw [] b5 i10 q15 q17 b6_0 b6_1 b6_2 k6_0 k6_1 k6_2 (own_upd (own_upd (own_upd (fun _ => .null) i10 (.ref rb)) i9 .null) i8 .null) (own_upd (own_upd (own_upd (fun _ => (.long (0 : Int64))) i10 (.long q19)) i9 (.long q15)) i8 (.long q15)) (own_upd (own_upd (own_upd (fun _ => (.long (0 : Int64))) i10 (.long q21)) i9 (.long q17)) i8 (.long q17)) T179.heap n0 (by omega) Y190 Y191 Y192 Y193 Y194 Y195 Y196 Y6_4 (own_or (own_at h242_178)) (own_or (own_at h242_178)) (own_or (own_at h242_178)) (by first | assumption | decide) (by first | assumption | decide) (by first | assumption | decide)) hZ (ow hw 74 rfl) (ow hw 30 rfl) (by decide) (by decide)) q189a q189c (g := (mkF m 273 #[sI p0, sI p1, sI p2, sL q3, sS, sL q4, sS, sI p5, sI i8, sI i9, sI i10, sI i11, sI i12, sN, sR rb, sL q15, sS, sL q17, sS, sL q19, sS, sL q21, sS, sR b1, sR b3, sR b5, sR b5, sR b1] [(.int i10), (.ref b5)])) rfl (by rw [hml]; rfl) (Steps.refl _) (argsL := [(.int i10)]) (rest := []) (lenOf pd139A_4 rfl) rfl (by show 2 * 0 + _ ≤ _; exact Nat.le_of_eq rfl) (hb hby at_273) (fun vm₁ hvm => ⟨rfl, e184, (by decide : 27 + 1 ≤ _), (by decide : 3284 + 3 ≤ _)⟩)
        dsimp only [Pt.U, Pt.locs, Pt.cells, Pt.slots] at X189 l189 y189 z189 st189 hQ189
        subst l189 y189 z189
        obtain ⟨b189_0, rfl, N189q, K189, KF189, gb189_0, ltb189_0, Y189_0, Y189_1, Y189_2, Y189_3⟩ := hQ189
        have sz189 : T179.heap.size ≤ T189.heap.size := K189.1
        have N189 := Fr.app N184 N189q
        refine GoW.trans st189 ?_
        show GoW p e below s _ _ _ (T189.setTop (mkF m 276 #[sI p0, sI p1, sI p2, sL q3, sS, sL q4, sS, sI p5, sI i8, sI i9, sI i10, sI i11, sI i12, sN, sR rb, sL q15, sS, sL q17, sS, sL q19, sS, sL q21, sS, sR b1, sR b3, sR b5, sR b5, sR b1] [(.ref b189_0)]))
        refine GoW.pre (st' := T189.setTop (mkF m 278 #[sI p0, sI p1, sI p2, sL q3, sS, sL q4, sS, sI p5, sI i8, sI i9, sI i10, sI i11, sI i12, sN, sR rb, sL q15, sS, sL q17, sS, sL q19, sS, sL q21, sS, sR b1, sR b3, sR b5, sR b5, sR b1] [(.ref b1), (.ref b189_0)])) (fun target kt => ?_) ?_
        · show Steps p.tables e below (T189.setTop (mkF m 276 #[sI p0, sI p1, sI p2, sL q3, sS, sL q4, sS, sI p5, sI i8, sI i9, sI i10, sI i11, sI i12, sN, sR rb, sL q15, sS, sL q17, sS, sL q19, sS, sL q21, sS, sR b1, sR b3, sR b5, sR b5, sR b1] [(.ref b189_0)])) _
          refine XS.aload X189.here hx rfl (hb hby at_276) rfl rfl ?_
          exact kt
        have Y198 : Exa Z T189.heap b1 "com/example/satzung/satzung/diagnostics/Location" := (Y185.keep K189)
        have Y199 : Fld Z T189.heap b1 "com/example/satzung/satzung/diagnostics/Location" "entity" "Ljava/lang/String;" .null := (Y186.keep K189 nin0)
        have Y200 : Fld Z T189.heap b1 "com/example/satzung/satzung/diagnostics/Location" "line" "J" (.long q15) := (Y187.keep K189 nin0)
        have Y201 : Fld Z T189.heap b1 "com/example/satzung/satzung/diagnostics/Location" "column" "J" (.long q17) := (Y188.keep K189 nin0)
        obtain ⟨cq197, kq197, q197a, q197b, q197c⟩ := isOf hZ rfl Y189_0
        obtain ⟨_, _, ⟨T197, L197, k197, n197⟩, -, X197, ⟨Lc197, hQ197, l197, y197, z197⟩, st197⟩ := X189.virtualBack hx (y := (⟨"com/example/satzung/satzung/diagnostics/Location", "equals", "(Ljava/lang/Object;)Z"⟩ : MethodName)) (z := (⟨"com/example/satzung/satzung/diagnostics/Location", "equals", "(Ljava/lang/Object;)Z"⟩ : MethodName)) hown (mvT hZ (ow hw 77 rfl)) (mvT hZ (ow hw 78 rfl)) (notFace_of_selects (args := #[]) (mvT hZ (ow hw 80 rfl))) (mvT hZ (ow hw 80 rfl)) (mvT hZ (ow hw 79 rfl)) (by decide) (backOf (W := 0) (rm11N l Z a0 hw [] b189_0 b1 q15 q17 T189.heap n0 (by omega) Y189_0 Y189_1 Y189_2 Y189_3 Y198 Y199 Y200 Y201) hZ (ow hw 81 rfl) (ow hw 15 rfl) (by decide) (by decide)) q197a q197c (g := (mkF m 278 #[sI p0, sI p1, sI p2, sL q3, sS, sL q4, sS, sI p5, sI i8, sI i9, sI i10, sI i11, sI i12, sN, sR rb, sL q15, sS, sL q17, sS, sL q19, sS, sL q21, sS, sR b1, sR b3, sR b5, sR b5, sR b1] [(.ref b1), (.ref b189_0)])) rfl (by rw [hml]; rfl) (Steps.refl _) (argsL := [(.ref b1)]) (rest := []) (lenOf pd139A_5 rfl) rfl (by show 2 * 0 + _ ≤ _; exact Nat.le_of_eq rfl) (hb hby at_278) (fun vm₁ hvm => ⟨rfl, rfl, (by decide : 28 + 0 ≤ _), (by decide : 3287 + 0 ≤ _)⟩)
        dsimp only [Pt.U, Pt.locs, Pt.cells, Pt.slots] at X197 l197 y197 z197 st197 hQ197
        subst l197 y197 z197
        obtain ⟨rfl, N197q, e197⟩ := hQ197
        have N197 := Fr.app N189 N197q
        refine GoW.trans st197 ?_
        show GoW p e below s _ _ _ (T197.setTop (mkF m 281 #[sI p0, sI p1, sI p2, sL q3, sS, sL q4, sS, sI p5, sI i8, sI i9, sI i10, sI i11, sI i12, sN, sR rb, sL q15, sS, sL q17, sS, sL q19, sS, sL q21, sS, sR b1, sR b3, sR b5, sR b5, sR b1] [(.int (1 : Int32))]))
        refine GoW.pre (st' := T197.setTop (mkF m 288 #[sI p0, sI p1, sI p2, sL q3, sS, sL q4, sS, sI p5, sI i8, sI i9, sI i10, sI i11, sI i12, sN, sR rb, sL q15, sS, sL q17, sS, sL q19, sS, sL q21, sS, sR b1, sR b3, sR b5, sR b5, sR b1] [(.int i9), (.ref b5)])) (fun target kt => ?_) ?_
        · show Steps p.tables e below (T197.setTop (mkF m 281 #[sI p0, sI p1, sI p2, sL q3, sS, sL q4, sS, sI p5, sI i8, sI i9, sI i10, sI i11, sI i12, sN, sR rb, sL q15, sS, sL q17, sS, sL q19, sS, sL q21, sS, sR b1, sR b3, sR b5, sR b5, sR b1] [(.int (1 : Int32))])) _
          refine XS.ifNo X197.here hx rfl (hb hby at_281) rfl ((if0 _ _).trans (feq (by decide)).1) ?_
          refine XS.aload X197.here hx rfl (hb hby at_284) rfl rfl ?_
          refine XS.iload X197.here hx rfl (hb hby at_286) rfl ?_
          exact kt
        have Y203 : Exa Z T189.heap b5 "com/example/satzung/satzung/validate/PlacePage" := (Y190.keep K189)
        have Y204 : Fld Z T189.heap b5 "com/example/satzung/satzung/validate/PlacePage" "entities" "[Ljava/lang/String;" (.ref b6_0) := (Y191.keep K189 nin0)
        have Y205 : Arf Z T189.heap b6_0 k6_0 (.object "java/lang/String") (1024 : Int32) (own_upd (own_upd (own_upd (fun _ => .null) i10 (.ref rb)) i9 .null) i8 .null) := (Y192.keep K189 nin0)
        have Y206 : Fld Z T189.heap b5 "com/example/satzung/satzung/validate/PlacePage" "lines" "[J" (.ref b6_1) := (Y193.keep K189 nin0)
        have Y207 : Arf Z T189.heap b6_1 k6_1 .long (1024 : Int32) (own_upd (own_upd (own_upd (fun _ => (.long (0 : Int64))) i10 (.long q19)) i9 (.long q15)) i8 (.long q15)) := (Y194.keep K189 nin0)
        have Y208 : Fld Z T189.heap b5 "com/example/satzung/satzung/validate/PlacePage" "columns" "[J" (.ref b6_2) := (Y195.keep K189 nin0)
        have Y209 : Arf Z T189.heap b6_2 k6_2 .long (1024 : Int32) (own_upd (own_upd (own_upd (fun _ => (.long (0 : Int64))) i10 (.long q21)) i9 (.long q17)) i8 (.long q17)) := (Y196.keep K189 nin0)
        obtain ⟨cq202, kq202, q202a, q202b, q202c⟩ := isOf hZ e197 Y203
        obtain ⟨_, _, ⟨T202, L202, k202, n202⟩, -, X202, ⟨Lc202, hQ202, l202, y202, z202⟩, st202⟩ := X197.virtualBack hx (y := (⟨"com/example/satzung/satzung/validate/PlacePage", "get", "(I)Lcom/example/satzung/satzung/diagnostics/Location;"⟩ : MethodName)) (z := (⟨"com/example/satzung/satzung/validate/PlacePage", "get", "(I)Lcom/example/satzung/satzung/diagnostics/Location;"⟩ : MethodName)) hown (mvT hZ (ow hw 70 rfl)) (mvT hZ (ow hw 71 rfl)) (notFace_of_selects (args := #[]) (mvT hZ (ow hw 73 rfl))) (mvT hZ (ow hw 73 rfl)) (mvT hZ (ow hw 72 rfl)) (by decide) (backOf (W := 0) (rm10N l Z a0 hw [] b5 i9 q15 q17 b6_0 b6_1 b6_2 k6_0 k6_1 k6_2 (own_upd (own_upd (own_upd (fun _ => .null) i10 (.ref rb)) i9 .null) i8 .null) (own_upd (own_upd (own_upd (fun _ => (.long (0 : Int64))) i10 (.long q19)) i9 (.long q15)) i8 (.long q15)) (own_upd (own_upd (own_upd (fun _ => (.long (0 : Int64))) i10 (.long q21)) i9 (.long q17)) i8 (.long q17)) T189.heap n0 (by omega) Y203 Y204 Y205 Y206 Y207 Y208 Y209 Y6_4 (own_or (own_hit _ _ _)) (own_or (own_hit _ _ _)) (own_or (own_hit _ _ _)) (by first | assumption | decide) (by first | assumption | decide) (by first | assumption | decide)) hZ (ow hw 74 rfl) (ow hw 30 rfl) (by decide) (by decide)) q202a q202c (g := (mkF m 288 #[sI p0, sI p1, sI p2, sL q3, sS, sL q4, sS, sI p5, sI i8, sI i9, sI i10, sI i11, sI i12, sN, sR rb, sL q15, sS, sL q17, sS, sL q19, sS, sL q21, sS, sR b1, sR b3, sR b5, sR b5, sR b1] [(.int i9), (.ref b5)])) rfl (by rw [hml]; rfl) (Steps.refl _) (argsL := [(.int i9)]) (rest := []) (lenOf pd139A_4 rfl) rfl (by show 2 * 0 + _ ≤ _; exact Nat.le_of_eq rfl) (hb hby at_288) (fun vm₁ hvm => ⟨rfl, e197, (by decide : 28 + 1 ≤ _), (by decide : 3287 + 3 ≤ _)⟩)
        dsimp only [Pt.U, Pt.locs, Pt.cells, Pt.slots] at X202 l202 y202 z202 st202 hQ202
        subst l202 y202 z202
        obtain ⟨b202_0, rfl, N202q, K202, KF202, gb202_0, ltb202_0, Y202_0, Y202_1, Y202_2, Y202_3⟩ := hQ202
        have sz202 : T189.heap.size ≤ T202.heap.size := K202.1
        have N202 := Fr.app N197 N202q
        refine GoW.trans st202 ?_
        show GoW p e below s _ _ _ (T202.setTop (mkF m 291 #[sI p0, sI p1, sI p2, sL q3, sS, sL q4, sS, sI p5, sI i8, sI i9, sI i10, sI i11, sI i12, sN, sR rb, sL q15, sS, sL q17, sS, sL q19, sS, sL q21, sS, sR b1, sR b3, sR b5, sR b5, sR b1] [(.ref b202_0)]))
        refine GoW.pre (st' := T202.setTop (mkF m 293 #[sI p0, sI p1, sI p2, sL q3, sS, sL q4, sS, sI p5, sI i8, sI i9, sI i10, sI i11, sI i12, sN, sR rb, sL q15, sS, sL q17, sS, sL q19, sS, sL q21, sS, sR b1, sR b3, sR b5, sR b5, sR b1] [(.ref b1), (.ref b202_0)])) (fun target kt => ?_) ?_
        · show Steps p.tables e below (T202.setTop (mkF m 291 #[sI p0, sI p1, sI p2, sL q3, sS, sL q4, sS, sI p5, sI i8, sI i9, sI i10, sI i11, sI i12, sN, sR rb, sL q15, sS, sL q17, sS, sL q19, sS, sL q21, sS, sR b1, sR b3, sR b5, sR b5, sR b1] [(.ref b202_0)])) _
          refine XS.aload X202.here hx rfl (hb hby at_291) rfl rfl ?_
          exact kt
        have Y211 : Exa Z T202.heap b1 "com/example/satzung/satzung/diagnostics/Location" := (Y198.keep K202)
        have Y212 : Fld Z T202.heap b1 "com/example/satzung/satzung/diagnostics/Location" "entity" "Ljava/lang/String;" .null := (Y199.keep K202 nin0)
        have Y213 : Fld Z T202.heap b1 "com/example/satzung/satzung/diagnostics/Location" "line" "J" (.long q15) := (Y200.keep K202 nin0)
        have Y214 : Fld Z T202.heap b1 "com/example/satzung/satzung/diagnostics/Location" "column" "J" (.long q17) := (Y201.keep K202 nin0)
        obtain ⟨cq210, kq210, q210a, q210b, q210c⟩ := isOf hZ rfl Y202_0
        obtain ⟨_, _, ⟨T210, L210, k210, n210⟩, -, X210, ⟨Lc210, hQ210, l210, y210, z210⟩, st210⟩ := X202.virtualBack hx (y := (⟨"com/example/satzung/satzung/diagnostics/Location", "equals", "(Ljava/lang/Object;)Z"⟩ : MethodName)) (z := (⟨"com/example/satzung/satzung/diagnostics/Location", "equals", "(Ljava/lang/Object;)Z"⟩ : MethodName)) hown (mvT hZ (ow hw 77 rfl)) (mvT hZ (ow hw 78 rfl)) (notFace_of_selects (args := #[]) (mvT hZ (ow hw 80 rfl))) (mvT hZ (ow hw 80 rfl)) (mvT hZ (ow hw 79 rfl)) (by decide) (backOf (W := 0) (rm11N l Z a0 hw [] b202_0 b1 q15 q17 T202.heap n0 (by omega) Y202_0 Y202_1 Y202_2 Y202_3 Y211 Y212 Y213 Y214) hZ (ow hw 81 rfl) (ow hw 15 rfl) (by decide) (by decide)) q210a q210c (g := (mkF m 293 #[sI p0, sI p1, sI p2, sL q3, sS, sL q4, sS, sI p5, sI i8, sI i9, sI i10, sI i11, sI i12, sN, sR rb, sL q15, sS, sL q17, sS, sL q19, sS, sL q21, sS, sR b1, sR b3, sR b5, sR b5, sR b1] [(.ref b1), (.ref b202_0)])) rfl (by rw [hml]; rfl) (Steps.refl _) (argsL := [(.ref b1)]) (rest := []) (lenOf pd139A_5 rfl) rfl (by show 2 * 0 + _ ≤ _; exact Nat.le_of_eq rfl) (hb hby at_293) (fun vm₁ hvm => ⟨rfl, rfl, (by decide : 29 + 0 ≤ _), (by decide : 3290 + 0 ≤ _)⟩)
        dsimp only [Pt.U, Pt.locs, Pt.cells, Pt.slots] at X210 l210 y210 z210 st210 hQ210
        subst l210 y210 z210
        obtain ⟨rfl, N210q, e210⟩ := hQ210
        have N210 := Fr.app N202 N210q
        refine GoW.trans st210 ?_
        show GoW p e below s _ _ _ (T210.setTop (mkF m 296 #[sI p0, sI p1, sI p2, sL q3, sS, sL q4, sS, sI p5, sI i8, sI i9, sI i10, sI i11, sI i12, sN, sR rb, sL q15, sS, sL q17, sS, sL q19, sS, sL q21, sS, sR b1, sR b3, sR b5, sR b5, sR b1] [(.int (1 : Int32))]))
        refine GoW.pre (st' := T210.setTop (mkF m 304 #[sI p0, sI p1, sI p2, sL q3, sS, sL q4, sS, sI p5, sI i8, sI i9, sI i10, sI i11, sI i12, sN, sR rb, sL q15, sS, sL q17, sS, sL q19, sS, sL q21, sS, sR b1, sR b3, sR b5, sR b5, sR b1] [(.int (1 : Int32))])) (fun target kt => ?_) ?_
        · show Steps p.tables e below (T210.setTop (mkF m 296 #[sI p0, sI p1, sI p2, sL q3, sS, sL q4, sS, sI p5, sI i8, sI i9, sI i10, sI i11, sI i12, sN, sR rb, sL q15, sS, sL q17, sS, sL q19, sS, sL q21, sS, sR b1, sR b3, sR b5, sR b5, sR b1] [(.int (1 : Int32))])) _
          refine XS.ifNo X210.here hx rfl (hb hby at_296) rfl ((if0 _ _).trans (feq (by decide)).1) ?_
          refine XS.iconst X210.here hx rfl (hb hby at_299) ?_
          refine XS.goto X210.here hx rfl (pc0 := 300) (pc' := 304) rfl (hb hby at_300) (by decide) (by decide) ?_
          exact kt
        exact GoW.retN X210 hS (leH e210 (by omega)) hx hlk hrt (z' := (1 : Int32)) (by simp) (hb hby at_304) rfl (by decide) (by decide) (by first | exact ⟨rfl, N210⟩ | (rw [e210]; exact ⟨rfl, N210⟩))
      · refine GoW.pre (st' := T136.setTop (mkF m 250 #[sI p0, sI p1, sI p2, sL q3, sS, sL q4, sS, sI p5, sI i8, sI i9, sI i10, sI i11, sI i12, sN, sR rb, sL q15, sS, sL q17, sS, sL q19, sS, sL q21, sS, sR b1, sR b3, sR b5, sR b5, sU] [])) (fun target kt => ?_) ?_
        · show Steps p.tables e below (T136.setTop (mkF m 242 #[sI p0, sI p1, sI p2, sL q3, sS, sL q4, sS, sI p5, sI i8, sI i9, sI i10, sI i11, sI i12, sN, sR rb, sL q15, sS, sL q17, sS, sL q19, sS, sL q21, sS, sR b1, sR b3, sR b5, sR b5, sU] [(.int i9), (.int i10)])) _
          refine XS.icmpYes X136.here hx rfl (pc0 := 242) (pc' := 250) rfl (hb hby at_242) rfl (feq h242_178).2 (by decide) (by decide) ?_
          exact kt
        refine GoW.pre (st' := T136.setTop (mkF m 258 #[sI p0, sI p1, sI p2, sL q3, sS, sL q4, sS, sI p5, sI i8, sI i9, sI i10, sI i11, sI i12, sN, sR rb, sL q15, sS, sL q17, sS, sL q19, sS, sL q21, sS, sR b1, sR b3, sR b5, sR b5, sR b3] [(.int i8), (.ref b5)])) (fun target kt => ?_) ?_
        · show Steps p.tables e below (T136.setTop (mkF m 250 #[sI p0, sI p1, sI p2, sL q3, sS, sL q4, sS, sI p5, sI i8, sI i9, sI i10, sI i11, sI i12, sN, sR rb, sL q15, sS, sL q17, sS, sL q19, sS, sL q21, sS, sR b1, sR b3, sR b5, sR b5, sU] [])) _
          refine XS.aload X136.here hx rfl (hb hby at_250) rfl rfl ?_
          refine XS.astore X136.here hx rfl (hb hby at_252) rfl rfl (l' := #[.val (.int p0), .val (.int p1), .val (.int p2), .val (.long q3), .second, .val (.long q4), .second, .val (.int p5), .val (.int i8), .val (.int i9), .val (.int i10), .val (.int i11), .val (.int i12), .val .null, .val (.ref rb), .val (.long q15), .second, .val (.long q17), .second, .val (.long q19), .second, .val (.long q21), .second, .val (.ref b1), .val (.ref b3), .val (.ref b5), .val (.ref b5), .val (.ref b3)]) rfl ?_
          refine XS.aload X136.here hx rfl (hb hby at_254) rfl rfl ?_
          refine XS.iload X136.here hx rfl (hb hby at_256) rfl ?_
          exact kt
        have Y216 : Exa Z T136.heap b5 "com/example/satzung/satzung/validate/PlacePage" := (Y137.keep K136)
        have Y217 : Fld Z T136.heap b5 "com/example/satzung/satzung/validate/PlacePage" "entities" "[Ljava/lang/String;" (.ref b6_0) := (Y138.keep K136 (ninS (neN (by omega)) (ninS (neN (by omega)) (ninS (neN (by omega)) nin0))))
        have Y218 : Fld Z T136.heap b5 "com/example/satzung/satzung/validate/PlacePage" "lines" "[J" (.ref b6_1) := (Y139.keep K136 (ninS (neN (by omega)) (ninS (neN (by omega)) (ninS (neN (by omega)) nin0))))
        have Y219 : Fld Z T136.heap b5 "com/example/satzung/satzung/validate/PlacePage" "columns" "[J" (.ref b6_2) := (Y140.keep K136 (ninS (neN (by omega)) (ninS (neN (by omega)) (ninS (neN (by omega)) nin0))))
        obtain ⟨cq215, kq215, q215a, q215b, q215c⟩ := isOf hZ rfl Y216
        obtain ⟨_, _, ⟨T215, L215, k215, n215⟩, -, X215, ⟨Lc215, hQ215, l215, y215, z215⟩, st215⟩ := X136.virtualBack hx (y := (⟨"com/example/satzung/satzung/validate/PlacePage", "get", "(I)Lcom/example/satzung/satzung/diagnostics/Location;"⟩ : MethodName)) (z := (⟨"com/example/satzung/satzung/validate/PlacePage", "get", "(I)Lcom/example/satzung/satzung/diagnostics/Location;"⟩ : MethodName)) hown (mvT hZ (ow hw 70 rfl)) (mvT hZ (ow hw 71 rfl)) (notFace_of_selects (args := #[]) (mvT hZ (ow hw 73 rfl))) (mvT hZ (ow hw 73 rfl)) (mvT hZ (ow hw 72 rfl)) (by decide) (backOf (W := 0) (rm10N l Z a0 hw [] b5 i8 q15 q17 b6_0 b6_1 b6_2 k6_0 k6_1 k6_2 (own_upd (own_upd (own_upd (fun _ => .null) i10 (.ref rb)) i9 .null) i8 .null) (own_upd (own_upd (own_upd (fun _ => (.long (0 : Int64))) i10 (.long q19)) i9 (.long q15)) i8 (.long q15)) (own_upd (own_upd (own_upd (fun _ => (.long (0 : Int64))) i10 (.long q21)) i9 (.long q17)) i8 (.long q17)) T136.heap n0 (by omega) Y216 Y217 Y136_0 Y218 Y136_1 Y219 Y136_2 Y6_4 (own_hit _ _ _) (own_hit _ _ _) (own_hit _ _ _) (by first | assumption | decide) (by first | assumption | decide) (by first | assumption | decide)) hZ (ow hw 74 rfl) (ow hw 30 rfl) (by decide) (by decide)) q215a q215c (g := (mkF m 258 #[sI p0, sI p1, sI p2, sL q3, sS, sL q4, sS, sI p5, sI i8, sI i9, sI i10, sI i11, sI i12, sN, sR rb, sL q15, sS, sL q17, sS, sL q19, sS, sL q21, sS, sR b1, sR b3, sR b5, sR b5, sR b3] [(.int i8), (.ref b5)])) rfl (by rw [hml]; rfl) (Steps.refl _) (argsL := [(.int i8)]) (rest := []) (lenOf pd139A_4 rfl) rfl (by show 2 * 0 + _ ≤ _; exact Nat.le_of_eq rfl) (hb hby at_258) (fun vm₁ hvm => ⟨rfl, rfl, (by decide : 26 + 1 ≤ _), (by decide : 3281 + 3 ≤ _)⟩)
        dsimp only [Pt.U, Pt.locs, Pt.cells, Pt.slots] at X215 l215 y215 z215 st215 hQ215
        subst l215 y215 z215
        obtain ⟨b215_0, rfl, N215q, K215, KF215, gb215_0, ltb215_0, Y215_0, Y215_1, Y215_2, Y215_3⟩ := hQ215
        have sz215 : T136.heap.size ≤ T215.heap.size := K215.1
        have N215 := Fr.app N136 N215q
        refine GoW.trans st215 ?_
        show GoW p e below s _ _ _ (T215.setTop (mkF m 261 #[sI p0, sI p1, sI p2, sL q3, sS, sL q4, sS, sI p5, sI i8, sI i9, sI i10, sI i11, sI i12, sN, sR rb, sL q15, sS, sL q17, sS, sL q19, sS, sL q21, sS, sR b1, sR b3, sR b5, sR b5, sR b3] [(.ref b215_0)]))
        refine GoW.pre (st' := T215.setTop (mkF m 263 #[sI p0, sI p1, sI p2, sL q3, sS, sL q4, sS, sI p5, sI i8, sI i9, sI i10, sI i11, sI i12, sN, sR rb, sL q15, sS, sL q17, sS, sL q19, sS, sL q21, sS, sR b1, sR b3, sR b5, sR b5, sR b3] [(.ref b1), (.ref b215_0)])) (fun target kt => ?_) ?_
        · show Steps p.tables e below (T215.setTop (mkF m 261 #[sI p0, sI p1, sI p2, sL q3, sS, sL q4, sS, sI p5, sI i8, sI i9, sI i10, sI i11, sI i12, sN, sR rb, sL q15, sS, sL q17, sS, sL q19, sS, sL q21, sS, sR b1, sR b3, sR b5, sR b5, sR b3] [(.ref b215_0)])) _
          refine XS.aload X215.here hx rfl (hb hby at_261) rfl rfl ?_
          exact kt
        have Y221 : Exa Z T215.heap b1 "com/example/satzung/satzung/diagnostics/Location" := (((Y132.keep K127).keep K136).keep K215)
        have Y222 : Fld Z T215.heap b1 "com/example/satzung/satzung/diagnostics/Location" "entity" "Ljava/lang/String;" .null := (((Y133.keep K127 (ninS (neN (by omega)) (ninS (neN (by omega)) (ninS (neN (by omega)) nin0)))).keep K136 (ninS (neN (by omega)) (ninS (neN (by omega)) (ninS (neN (by omega)) nin0)))).keep K215 nin0)
        have Y223 : Fld Z T215.heap b1 "com/example/satzung/satzung/diagnostics/Location" "line" "J" (.long q15) := (((Y134.keep K127 (ninS (neN (by omega)) (ninS (neN (by omega)) (ninS (neN (by omega)) nin0)))).keep K136 (ninS (neN (by omega)) (ninS (neN (by omega)) (ninS (neN (by omega)) nin0)))).keep K215 nin0)
        have Y224 : Fld Z T215.heap b1 "com/example/satzung/satzung/diagnostics/Location" "column" "J" (.long q17) := (((Y135.keep K127 (ninS (neN (by omega)) (ninS (neN (by omega)) (ninS (neN (by omega)) nin0)))).keep K136 (ninS (neN (by omega)) (ninS (neN (by omega)) (ninS (neN (by omega)) nin0)))).keep K215 nin0)
        obtain ⟨cq220, kq220, q220a, q220b, q220c⟩ := isOf hZ rfl Y215_0
        obtain ⟨_, _, ⟨T220, L220, k220, n220⟩, -, X220, ⟨Lc220, hQ220, l220, y220, z220⟩, st220⟩ := X215.virtualBack hx (y := (⟨"com/example/satzung/satzung/diagnostics/Location", "equals", "(Ljava/lang/Object;)Z"⟩ : MethodName)) (z := (⟨"com/example/satzung/satzung/diagnostics/Location", "equals", "(Ljava/lang/Object;)Z"⟩ : MethodName)) hown (mvT hZ (ow hw 77 rfl)) (mvT hZ (ow hw 78 rfl)) (notFace_of_selects (args := #[]) (mvT hZ (ow hw 80 rfl))) (mvT hZ (ow hw 80 rfl)) (mvT hZ (ow hw 79 rfl)) (by decide) (backOf (W := 0) (rm11N l Z a0 hw [] b215_0 b1 q15 q17 T215.heap n0 (by omega) Y215_0 Y215_1 Y215_2 Y215_3 Y221 Y222 Y223 Y224) hZ (ow hw 81 rfl) (ow hw 15 rfl) (by decide) (by decide)) q220a q220c (g := (mkF m 263 #[sI p0, sI p1, sI p2, sL q3, sS, sL q4, sS, sI p5, sI i8, sI i9, sI i10, sI i11, sI i12, sN, sR rb, sL q15, sS, sL q17, sS, sL q19, sS, sL q21, sS, sR b1, sR b3, sR b5, sR b5, sR b3] [(.ref b1), (.ref b215_0)])) rfl (by rw [hml]; rfl) (Steps.refl _) (argsL := [(.ref b1)]) (rest := []) (lenOf pd139A_5 rfl) rfl (by show 2 * 0 + _ ≤ _; exact Nat.le_of_eq rfl) (hb hby at_263) (fun vm₁ hvm => ⟨rfl, rfl, (by decide : 27 + 0 ≤ _), (by decide : 3284 + 0 ≤ _)⟩)
        dsimp only [Pt.U, Pt.locs, Pt.cells, Pt.slots] at X220 l220 y220 z220 st220 hQ220
        subst l220 y220 z220
        obtain ⟨rfl, N220q, e220⟩ := hQ220
        have N220 := Fr.app N215 N220q
        refine GoW.trans st220 ?_
        show GoW p e below s _ _ _ (T220.setTop (mkF m 266 #[sI p0, sI p1, sI p2, sL q3, sS, sL q4, sS, sI p5, sI i8, sI i9, sI i10, sI i11, sI i12, sN, sR rb, sL q15, sS, sL q17, sS, sL q19, sS, sL q21, sS, sR b1, sR b3, sR b5, sR b5, sR b3] [(.int (1 : Int32))]))
        refine GoW.pre (st' := T220.setTop (mkF m 273 #[sI p0, sI p1, sI p2, sL q3, sS, sL q4, sS, sI p5, sI i8, sI i9, sI i10, sI i11, sI i12, sN, sR rb, sL q15, sS, sL q17, sS, sL q19, sS, sL q21, sS, sR b1, sR b3, sR b5, sR b5, sR b3] [(.int i10), (.ref b5)])) (fun target kt => ?_) ?_
        · show Steps p.tables e below (T220.setTop (mkF m 266 #[sI p0, sI p1, sI p2, sL q3, sS, sL q4, sS, sI p5, sI i8, sI i9, sI i10, sI i11, sI i12, sN, sR rb, sL q15, sS, sL q17, sS, sL q19, sS, sL q21, sS, sR b1, sR b3, sR b5, sR b5, sR b3] [(.int (1 : Int32))])) _
          refine XS.ifNo X220.here hx rfl (hb hby at_266) rfl ((if0 _ _).trans (feq (by decide)).1) ?_
          refine XS.aload X220.here hx rfl (hb hby at_269) rfl rfl ?_
          refine XS.iload X220.here hx rfl (hb hby at_271) rfl ?_
          exact kt
        have Y226 : Exa Z T215.heap b5 "com/example/satzung/satzung/validate/PlacePage" := (Y216.keep K215)
        have Y227 : Fld Z T215.heap b5 "com/example/satzung/satzung/validate/PlacePage" "entities" "[Ljava/lang/String;" (.ref b6_0) := (Y217.keep K215 nin0)
        have Y228 : Arf Z T215.heap b6_0 k6_0 (.object "java/lang/String") (1024 : Int32) (own_upd (own_upd (own_upd (fun _ => .null) i10 (.ref rb)) i9 .null) i8 .null) := (Y136_0.keep K215 nin0)
        have Y229 : Fld Z T215.heap b5 "com/example/satzung/satzung/validate/PlacePage" "lines" "[J" (.ref b6_1) := (Y218.keep K215 nin0)
        have Y230 : Arf Z T215.heap b6_1 k6_1 .long (1024 : Int32) (own_upd (own_upd (own_upd (fun _ => (.long (0 : Int64))) i10 (.long q19)) i9 (.long q15)) i8 (.long q15)) := (Y136_1.keep K215 nin0)
        have Y231 : Fld Z T215.heap b5 "com/example/satzung/satzung/validate/PlacePage" "columns" "[J" (.ref b6_2) := (Y219.keep K215 nin0)
        have Y232 : Arf Z T215.heap b6_2 k6_2 .long (1024 : Int32) (own_upd (own_upd (own_upd (fun _ => (.long (0 : Int64))) i10 (.long q21)) i9 (.long q17)) i8 (.long q17)) := (Y136_2.keep K215 nin0)
        obtain ⟨cq225, kq225, q225a, q225b, q225c⟩ := isOf hZ e220 Y226
        obtain ⟨_, _, ⟨T225, L225, k225, n225⟩, -, X225, ⟨Lc225, hQ225, l225, y225, z225⟩, st225⟩ := X220.virtualBack hx (y := (⟨"com/example/satzung/satzung/validate/PlacePage", "get", "(I)Lcom/example/satzung/satzung/diagnostics/Location;"⟩ : MethodName)) (z := (⟨"com/example/satzung/satzung/validate/PlacePage", "get", "(I)Lcom/example/satzung/satzung/diagnostics/Location;"⟩ : MethodName)) hown (mvT hZ (ow hw 70 rfl)) (mvT hZ (ow hw 71 rfl)) (notFace_of_selects (args := #[]) (mvT hZ (ow hw 73 rfl))) (mvT hZ (ow hw 73 rfl)) (mvT hZ (ow hw 72 rfl)) (by decide) (backOf (W := 0) (rm10R l Z a0 hw [] b5 i10 rb q19 q21 b6_0 b6_1 b6_2 k6_0 k6_1 k6_2 (own_upd (own_upd (own_upd (fun _ => .null) i10 (.ref rb)) i9 .null) i8 .null) (own_upd (own_upd (own_upd (fun _ => (.long (0 : Int64))) i10 (.long q19)) i9 (.long q15)) i8 (.long q15)) (own_upd (own_upd (own_upd (fun _ => (.long (0 : Int64))) i10 (.long q21)) i9 (.long q17)) i8 (.long q17)) T215.heap n0 (by omega) Y226 Y227 Y228 Y229 Y230 Y231 Y232 Y6_4 (own_miss h230_141 (own_miss h242_178 (own_hit _ _ _))) (own_miss h230_141 (own_miss h242_178 (own_hit _ _ _))) (own_miss h230_141 (own_miss h242_178 (own_hit _ _ _))) (by first | assumption | decide) (by first | assumption | decide) (by first | assumption | decide)) hZ (ow hw 74 rfl) (ow hw 30 rfl) (by decide) (by decide)) q225a q225c (g := (mkF m 273 #[sI p0, sI p1, sI p2, sL q3, sS, sL q4, sS, sI p5, sI i8, sI i9, sI i10, sI i11, sI i12, sN, sR rb, sL q15, sS, sL q17, sS, sL q19, sS, sL q21, sS, sR b1, sR b3, sR b5, sR b5, sR b3] [(.int i10), (.ref b5)])) rfl (by rw [hml]; rfl) (Steps.refl _) (argsL := [(.int i10)]) (rest := []) (lenOf pd139A_4 rfl) rfl (by show 2 * 0 + _ ≤ _; exact Nat.le_of_eq rfl) (hb hby at_273) (fun vm₁ hvm => ⟨rfl, e220, (by decide : 27 + 1 ≤ _), (by decide : 3284 + 3 ≤ _)⟩)
        dsimp only [Pt.U, Pt.locs, Pt.cells, Pt.slots] at X225 l225 y225 z225 st225 hQ225
        subst l225 y225 z225
        obtain ⟨b225_0, rfl, N225q, K225, KF225, gb225_0, ltb225_0, Y225_0, Y225_1, Y225_2, Y225_3⟩ := hQ225
        have sz225 : T215.heap.size ≤ T225.heap.size := K225.1
        have N225 := Fr.app N220 N225q
        refine GoW.trans st225 ?_
        show GoW p e below s _ _ _ (T225.setTop (mkF m 276 #[sI p0, sI p1, sI p2, sL q3, sS, sL q4, sS, sI p5, sI i8, sI i9, sI i10, sI i11, sI i12, sN, sR rb, sL q15, sS, sL q17, sS, sL q19, sS, sL q21, sS, sR b1, sR b3, sR b5, sR b5, sR b3] [(.ref b225_0)]))
        refine GoW.pre (st' := T225.setTop (mkF m 278 #[sI p0, sI p1, sI p2, sL q3, sS, sL q4, sS, sI p5, sI i8, sI i9, sI i10, sI i11, sI i12, sN, sR rb, sL q15, sS, sL q17, sS, sL q19, sS, sL q21, sS, sR b1, sR b3, sR b5, sR b5, sR b3] [(.ref b3), (.ref b225_0)])) (fun target kt => ?_) ?_
        · show Steps p.tables e below (T225.setTop (mkF m 276 #[sI p0, sI p1, sI p2, sL q3, sS, sL q4, sS, sI p5, sI i8, sI i9, sI i10, sI i11, sI i12, sN, sR rb, sL q15, sS, sL q17, sS, sL q19, sS, sL q21, sS, sR b1, sR b3, sR b5, sR b5, sR b3] [(.ref b225_0)])) _
          refine XS.aload X225.here hx rfl (hb hby at_276) rfl rfl ?_
          exact kt
        have Y234 : Exa Z T225.heap b3 "com/example/satzung/satzung/diagnostics/Location" := (((((Y122.keep K120).keep K127).keep K136).keep K215).keep K225)
        have Y235 : Fld Z T225.heap b3 "com/example/satzung/satzung/diagnostics/Location" "entity" "Ljava/lang/String;" (.ref rb) := (((((Y123.keep K120 (ninS (neN (by omega)) (ninS (neN (by omega)) (ninS (neN (by omega)) nin0)))).keep K127 (ninS (neN (by omega)) (ninS (neN (by omega)) (ninS (neN (by omega)) nin0)))).keep K136 (ninS (neN (by omega)) (ninS (neN (by omega)) (ninS (neN (by omega)) nin0)))).keep K215 nin0).keep K225 nin0)
        have Y236 : Fld Z T225.heap b3 "com/example/satzung/satzung/diagnostics/Location" "line" "J" (.long q19) := (((((Y124.keep K120 (ninS (neN (by omega)) (ninS (neN (by omega)) (ninS (neN (by omega)) nin0)))).keep K127 (ninS (neN (by omega)) (ninS (neN (by omega)) (ninS (neN (by omega)) nin0)))).keep K136 (ninS (neN (by omega)) (ninS (neN (by omega)) (ninS (neN (by omega)) nin0)))).keep K215 nin0).keep K225 nin0)
        have Y237 : Fld Z T225.heap b3 "com/example/satzung/satzung/diagnostics/Location" "column" "J" (.long q21) := (((((Y125.keep K120 (ninS (neN (by omega)) (ninS (neN (by omega)) (ninS (neN (by omega)) nin0)))).keep K127 (ninS (neN (by omega)) (ninS (neN (by omega)) (ninS (neN (by omega)) nin0)))).keep K136 (ninS (neN (by omega)) (ninS (neN (by omega)) (ninS (neN (by omega)) nin0)))).keep K215 nin0).keep K225 nin0)
        obtain ⟨cq233, kq233, q233a, q233b, q233c⟩ := isOf hZ rfl Y225_0
        obtain ⟨_, _, ⟨T233, L233, k233, n233⟩, -, X233, ⟨Lc233, hQ233, l233, y233, z233⟩, st233⟩ := X225.virtualBack hx (y := (⟨"com/example/satzung/satzung/diagnostics/Location", "equals", "(Ljava/lang/Object;)Z"⟩ : MethodName)) (z := (⟨"com/example/satzung/satzung/diagnostics/Location", "equals", "(Ljava/lang/Object;)Z"⟩ : MethodName)) hown (mvT hZ (ow hw 77 rfl)) (mvT hZ (ow hw 78 rfl)) (notFace_of_selects (args := #[]) (mvT hZ (ow hw 80 rfl))) (mvT hZ (ow hw 80 rfl)) (mvT hZ (ow hw 79 rfl)) (by decide) (backOf (W := 0) (rm11R l Z a0 hw [] b225_0 b3 rb q19 q21 T225.heap n0 (by omega) Y225_0 Y225_1 Y225_2 Y225_3 Y234 Y235 Y236 Y237) hZ (ow hw 81 rfl) (ow hw 15 rfl) (by decide) (by decide)) q233a q233c (g := (mkF m 278 #[sI p0, sI p1, sI p2, sL q3, sS, sL q4, sS, sI p5, sI i8, sI i9, sI i10, sI i11, sI i12, sN, sR rb, sL q15, sS, sL q17, sS, sL q19, sS, sL q21, sS, sR b1, sR b3, sR b5, sR b5, sR b3] [(.ref b3), (.ref b225_0)])) rfl (by rw [hml]; rfl) (Steps.refl _) (argsL := [(.ref b3)]) (rest := []) (lenOf pd139A_5 rfl) rfl (by show 2 * 0 + _ ≤ _; exact Nat.le_of_eq rfl) (hb hby at_278) (fun vm₁ hvm => ⟨rfl, rfl, (by decide : 28 + 0 ≤ _), (by decide : 3287 + 0 ≤ _)⟩)
        dsimp only [Pt.U, Pt.locs, Pt.cells, Pt.slots] at X233 l233 y233 z233 st233 hQ233
        subst l233 y233 z233
        obtain ⟨rfl, N233q, e233⟩ := hQ233
        have N233 := Fr.app N225 N233q
        refine GoW.trans st233 ?_
        show GoW p e below s _ _ _ (T233.setTop (mkF m 281 #[sI p0, sI p1, sI p2, sL q3, sS, sL q4, sS, sI p5, sI i8, sI i9, sI i10, sI i11, sI i12, sN, sR rb, sL q15, sS, sL q17, sS, sL q19, sS, sL q21, sS, sR b1, sR b3, sR b5, sR b5, sR b3] [(.int (1 : Int32))]))
        refine GoW.pre (st' := T233.setTop (mkF m 288 #[sI p0, sI p1, sI p2, sL q3, sS, sL q4, sS, sI p5, sI i8, sI i9, sI i10, sI i11, sI i12, sN, sR rb, sL q15, sS, sL q17, sS, sL q19, sS, sL q21, sS, sR b1, sR b3, sR b5, sR b5, sR b3] [(.int i9), (.ref b5)])) (fun target kt => ?_) ?_
        · show Steps p.tables e below (T233.setTop (mkF m 281 #[sI p0, sI p1, sI p2, sL q3, sS, sL q4, sS, sI p5, sI i8, sI i9, sI i10, sI i11, sI i12, sN, sR rb, sL q15, sS, sL q17, sS, sL q19, sS, sL q21, sS, sR b1, sR b3, sR b5, sR b5, sR b3] [(.int (1 : Int32))])) _
          refine XS.ifNo X233.here hx rfl (hb hby at_281) rfl ((if0 _ _).trans (feq (by decide)).1) ?_
          refine XS.aload X233.here hx rfl (hb hby at_284) rfl rfl ?_
          refine XS.iload X233.here hx rfl (hb hby at_286) rfl ?_
          exact kt
        have Y239 : Exa Z T225.heap b5 "com/example/satzung/satzung/validate/PlacePage" := (Y226.keep K225)
        have Y240 : Fld Z T225.heap b5 "com/example/satzung/satzung/validate/PlacePage" "entities" "[Ljava/lang/String;" (.ref b6_0) := (Y227.keep K225 nin0)
        have Y241 : Arf Z T225.heap b6_0 k6_0 (.object "java/lang/String") (1024 : Int32) (own_upd (own_upd (own_upd (fun _ => .null) i10 (.ref rb)) i9 .null) i8 .null) := (Y228.keep K225 nin0)
        have Y242 : Fld Z T225.heap b5 "com/example/satzung/satzung/validate/PlacePage" "lines" "[J" (.ref b6_1) := (Y229.keep K225 nin0)
        have Y243 : Arf Z T225.heap b6_1 k6_1 .long (1024 : Int32) (own_upd (own_upd (own_upd (fun _ => (.long (0 : Int64))) i10 (.long q19)) i9 (.long q15)) i8 (.long q15)) := (Y230.keep K225 nin0)
        have Y244 : Fld Z T225.heap b5 "com/example/satzung/satzung/validate/PlacePage" "columns" "[J" (.ref b6_2) := (Y231.keep K225 nin0)
        have Y245 : Arf Z T225.heap b6_2 k6_2 .long (1024 : Int32) (own_upd (own_upd (own_upd (fun _ => (.long (0 : Int64))) i10 (.long q21)) i9 (.long q17)) i8 (.long q17)) := (Y232.keep K225 nin0)
        obtain ⟨cq238, kq238, q238a, q238b, q238c⟩ := isOf hZ e233 Y239
        obtain ⟨_, _, ⟨T238, L238, k238, n238⟩, -, X238, ⟨Lc238, hQ238, l238, y238, z238⟩, st238⟩ := X233.virtualBack hx (y := (⟨"com/example/satzung/satzung/validate/PlacePage", "get", "(I)Lcom/example/satzung/satzung/diagnostics/Location;"⟩ : MethodName)) (z := (⟨"com/example/satzung/satzung/validate/PlacePage", "get", "(I)Lcom/example/satzung/satzung/diagnostics/Location;"⟩ : MethodName)) hown (mvT hZ (ow hw 70 rfl)) (mvT hZ (ow hw 71 rfl)) (notFace_of_selects (args := #[]) (mvT hZ (ow hw 73 rfl))) (mvT hZ (ow hw 73 rfl)) (mvT hZ (ow hw 72 rfl)) (by decide) (backOf (W := 0) (rm10N l Z a0 hw [] b5 i9 q15 q17 b6_0 b6_1 b6_2 k6_0 k6_1 k6_2 (own_upd (own_upd (own_upd (fun _ => .null) i10 (.ref rb)) i9 .null) i8 .null) (own_upd (own_upd (own_upd (fun _ => (.long (0 : Int64))) i10 (.long q19)) i9 (.long q15)) i8 (.long q15)) (own_upd (own_upd (own_upd (fun _ => (.long (0 : Int64))) i10 (.long q21)) i9 (.long q17)) i8 (.long q17)) T225.heap n0 (by omega) Y239 Y240 Y241 Y242 Y243 Y244 Y245 Y6_4 (own_or (own_hit _ _ _)) (own_or (own_hit _ _ _)) (own_or (own_hit _ _ _)) (by first | assumption | decide) (by first | assumption | decide) (by first | assumption | decide)) hZ (ow hw 74 rfl) (ow hw 30 rfl) (by decide) (by decide)) q238a q238c (g := (mkF m 288 #[sI p0, sI p1, sI p2, sL q3, sS, sL q4, sS, sI p5, sI i8, sI i9, sI i10, sI i11, sI i12, sN, sR rb, sL q15, sS, sL q17, sS, sL q19, sS, sL q21, sS, sR b1, sR b3, sR b5, sR b5, sR b3] [(.int i9), (.ref b5)])) rfl (by rw [hml]; rfl) (Steps.refl _) (argsL := [(.int i9)]) (rest := []) (lenOf pd139A_4 rfl) rfl (by show 2 * 0 + _ ≤ _; exact Nat.le_of_eq rfl) (hb hby at_288) (fun vm₁ hvm => ⟨rfl, e233, (by decide : 28 + 1 ≤ _), (by decide : 3287 + 3 ≤ _)⟩)
        dsimp only [Pt.U, Pt.locs, Pt.cells, Pt.slots] at X238 l238 y238 z238 st238 hQ238
        subst l238 y238 z238
        obtain ⟨b238_0, rfl, N238q, K238, KF238, gb238_0, ltb238_0, Y238_0, Y238_1, Y238_2, Y238_3⟩ := hQ238
        have sz238 : T225.heap.size ≤ T238.heap.size := K238.1
        have N238 := Fr.app N233 N238q
        refine GoW.trans st238 ?_
        show GoW p e below s _ _ _ (T238.setTop (mkF m 291 #[sI p0, sI p1, sI p2, sL q3, sS, sL q4, sS, sI p5, sI i8, sI i9, sI i10, sI i11, sI i12, sN, sR rb, sL q15, sS, sL q17, sS, sL q19, sS, sL q21, sS, sR b1, sR b3, sR b5, sR b5, sR b3] [(.ref b238_0)]))
        refine GoW.pre (st' := T238.setTop (mkF m 293 #[sI p0, sI p1, sI p2, sL q3, sS, sL q4, sS, sI p5, sI i8, sI i9, sI i10, sI i11, sI i12, sN, sR rb, sL q15, sS, sL q17, sS, sL q19, sS, sL q21, sS, sR b1, sR b3, sR b5, sR b5, sR b3] [(.ref b1), (.ref b238_0)])) (fun target kt => ?_) ?_
        · show Steps p.tables e below (T238.setTop (mkF m 291 #[sI p0, sI p1, sI p2, sL q3, sS, sL q4, sS, sI p5, sI i8, sI i9, sI i10, sI i11, sI i12, sN, sR rb, sL q15, sS, sL q17, sS, sL q19, sS, sL q21, sS, sR b1, sR b3, sR b5, sR b5, sR b3] [(.ref b238_0)])) _
          refine XS.aload X238.here hx rfl (hb hby at_291) rfl rfl ?_
          exact kt
        have Y247 : Exa Z T238.heap b1 "com/example/satzung/satzung/diagnostics/Location" := ((Y221.keep K225).keep K238)
        have Y248 : Fld Z T238.heap b1 "com/example/satzung/satzung/diagnostics/Location" "entity" "Ljava/lang/String;" .null := ((Y222.keep K225 nin0).keep K238 nin0)
        have Y249 : Fld Z T238.heap b1 "com/example/satzung/satzung/diagnostics/Location" "line" "J" (.long q15) := ((Y223.keep K225 nin0).keep K238 nin0)
        have Y250 : Fld Z T238.heap b1 "com/example/satzung/satzung/diagnostics/Location" "column" "J" (.long q17) := ((Y224.keep K225 nin0).keep K238 nin0)
        obtain ⟨cq246, kq246, q246a, q246b, q246c⟩ := isOf hZ rfl Y238_0
        obtain ⟨_, _, ⟨T246, L246, k246, n246⟩, -, X246, ⟨Lc246, hQ246, l246, y246, z246⟩, st246⟩ := X238.virtualBack hx (y := (⟨"com/example/satzung/satzung/diagnostics/Location", "equals", "(Ljava/lang/Object;)Z"⟩ : MethodName)) (z := (⟨"com/example/satzung/satzung/diagnostics/Location", "equals", "(Ljava/lang/Object;)Z"⟩ : MethodName)) hown (mvT hZ (ow hw 77 rfl)) (mvT hZ (ow hw 78 rfl)) (notFace_of_selects (args := #[]) (mvT hZ (ow hw 80 rfl))) (mvT hZ (ow hw 80 rfl)) (mvT hZ (ow hw 79 rfl)) (by decide) (backOf (W := 0) (rm11N l Z a0 hw [] b238_0 b1 q15 q17 T238.heap n0 (by omega) Y238_0 Y238_1 Y238_2 Y238_3 Y247 Y248 Y249 Y250) hZ (ow hw 81 rfl) (ow hw 15 rfl) (by decide) (by decide)) q246a q246c (g := (mkF m 293 #[sI p0, sI p1, sI p2, sL q3, sS, sL q4, sS, sI p5, sI i8, sI i9, sI i10, sI i11, sI i12, sN, sR rb, sL q15, sS, sL q17, sS, sL q19, sS, sL q21, sS, sR b1, sR b3, sR b5, sR b5, sR b3] [(.ref b1), (.ref b238_0)])) rfl (by rw [hml]; rfl) (Steps.refl _) (argsL := [(.ref b1)]) (rest := []) (lenOf pd139A_5 rfl) rfl (by show 2 * 0 + _ ≤ _; exact Nat.le_of_eq rfl) (hb hby at_293) (fun vm₁ hvm => ⟨rfl, rfl, (by decide : 29 + 0 ≤ _), (by decide : 3290 + 0 ≤ _)⟩)
        dsimp only [Pt.U, Pt.locs, Pt.cells, Pt.slots] at X246 l246 y246 z246 st246 hQ246
        subst l246 y246 z246
        obtain ⟨rfl, N246q, e246⟩ := hQ246
        have N246 := Fr.app N238 N246q
        refine GoW.trans st246 ?_
        show GoW p e below s _ _ _ (T246.setTop (mkF m 296 #[sI p0, sI p1, sI p2, sL q3, sS, sL q4, sS, sI p5, sI i8, sI i9, sI i10, sI i11, sI i12, sN, sR rb, sL q15, sS, sL q17, sS, sL q19, sS, sL q21, sS, sR b1, sR b3, sR b5, sR b5, sR b3] [(.int (1 : Int32))]))
        refine GoW.pre (st' := T246.setTop (mkF m 304 #[sI p0, sI p1, sI p2, sL q3, sS, sL q4, sS, sI p5, sI i8, sI i9, sI i10, sI i11, sI i12, sN, sR rb, sL q15, sS, sL q17, sS, sL q19, sS, sL q21, sS, sR b1, sR b3, sR b5, sR b5, sR b3] [(.int (1 : Int32))])) (fun target kt => ?_) ?_
        · show Steps p.tables e below (T246.setTop (mkF m 296 #[sI p0, sI p1, sI p2, sL q3, sS, sL q4, sS, sI p5, sI i8, sI i9, sI i10, sI i11, sI i12, sN, sR rb, sL q15, sS, sL q17, sS, sL q19, sS, sL q21, sS, sR b1, sR b3, sR b5, sR b5, sR b3] [(.int (1 : Int32))])) _
          refine XS.ifNo X246.here hx rfl (hb hby at_296) rfl ((if0 _ _).trans (feq (by decide)).1) ?_
          refine XS.iconst X246.here hx rfl (hb hby at_299) ?_
          refine XS.goto X246.here hx rfl (pc0 := 300) (pc' := 304) rfl (hb hby at_300) (by decide) (by decide) ?_
          exact kt
        exact GoW.retN X246 hS (leH e246 (by omega)) hx hlk hrt (z' := (1 : Int32)) (by simp) (hb hby at_304) rfl (by decide) (by decide) (by first | exact ⟨rfl, N246⟩ | (rw [e246]; exact ⟨rfl, N246⟩))
theorem pd139B_0 : parseMethodDescriptor "(Ljava/lang/String;JJ)V" = some ⟨[(.object "java/lang/String"), .long, .long], none⟩ := by decide +kernel
theorem pd139B_1 : parseMethodDescriptor "()V" = some ⟨[], none⟩ := by decide +kernel
theorem pd139B_2 : parseMethodDescriptor "(ILcom/example/satzung/satzung/diagnostics/Location;)V" = some ⟨[.int, (.object "com/example/satzung/satzung/diagnostics/Location")], none⟩ := by decide +kernel
theorem pd139B_3 : parseMethodDescriptor "(ILcom/example/satzung/satzung/validate/PlacePage;I)V" = some ⟨[.int, (.object "com/example/satzung/satzung/validate/PlacePage"), .int], none⟩ := by decide +kernel
theorem pd139B_4 : parseMethodDescriptor "(I)Lcom/example/satzung/satzung/diagnostics/Location;" = some ⟨[.int], some (.object "com/example/satzung/satzung/diagnostics/Location")⟩ := by decide +kernel
theorem pd139B_5 : parseMethodDescriptor "(Ljava/lang/Object;)Z" = some ⟨[(.object "java/lang/Object")], some .boolean⟩ := by decide +kernel
set_option maxRecDepth 65536 in
set_option maxHeartbeats 40000000 in
theorem blk139B {p : Program} {l : Launch} {e : Env} {s : State} {m : MethodId} {args : Array Value} {below : List Frame} {meth : Method} {c : Code} {Z : State} {a0 : Array Value} {T : State} {locs : List Loc} {h0 : Heap} {n0 : Nat} {vm0 : Vm} {k0 : Nat} (C : Ctx p (s.setVm vm0) m meth c Z code 28 "com/example/satzung/satzung/validate/PlacePageSetPinLaw" (some .boolean)) (hw : ∀ d ∈ tables_1, d.before a0 Z = true) (hS : s.Since vm0 k0) (hk : k0 ≤ h0.size) (hI : IB Z vm0 ["b", ""]) (hnS : n0 = s.heap.size) (hkp : ∀ (b : Addr) (cl : Cell), Z.heap[b]? = some cl → s.heap[b]? = some cl)
    (X0 : Stand p l e room_1 (s.setVm vm0) m args below meth c T locs 20 200) (e0 : T.heap = h0) (N0 : Fr n0 locs) (p0 : Int32) (p1 : Int32) (p2 : Int32) (q3 : Int64) (q4 : Int64) (p5 : Int32) (i8 : Int32) (i9 : Int32) (i10 : Int32) (i11 : Int32) (i12 : Int32) (ra : Addr) (q15 : Int64) (q17 : Int64) (q19 : Int64) (q21 : Int64) (Z0 : n0 ≤ h0.size) (E_ra : Exa Z h0 ra "java/lang/String") (hin8 : ¬ (i8 < 0 ∨ (1024 : Int32).toNatClampNeg ≤ i8.toNatClampNeg)) (hin9 : ¬ (i9 < 0 ∨ (1024 : Int32).toNatClampNeg ≤ i9.toNatClampNeg)) (hin10 : ¬ (i10 < 0 ∨ (1024 : Int32).toNatClampNeg ≤ i10.toNatClampNeg)) (hq15 : ¬ (q15 < (1 : Int64))) (hq17 : ¬ (q17 < (1 : Int64))) (hq19 : ¬ (q19 < (1 : Int64))) (hq21 : ¬ (q21 < (1 : Int64))) :
    GoW p e below s 48 14528 (fun v vm h L => v = some (.int 1) ∧ Fr n0 L) (T.setTop (mkF m 139 #[sI p0, sI p1, sI p2, sL q3, sS, sL q4, sS, sI p5, sI i8, sI i9, sI i10, sI i11, sI i12, sR ra, sN, sL q15, sS, sL q17, sS, sL q19, sS, sL q21, sS, sU, sU, sU, sU, sU] [])) := by
  obtain ⟨hx, hZ, hby, hml, hown, hrt, hlk⟩ := id C
  have lt_E_ra : LT.lt (α := Nat) ra h0.size := E_ra.lt
  obtain ⟨T1, h1, X1, e1, E1, A1, D1, -, st1⟩ := newO X0 hx hZ hown (ow hw 13 rfl) (ow hw 14 rfl) (ow hw 15 rfl) e0 (g := (mkF m 139 #[sI p0, sI p1, sI p2, sL q3, sS, sL q4, sS, sI p5, sI i8, sI i9, sI i10, sI i11, sI i12, sR ra, sN, sL q15, sS, sL q17, sS, sL q19, sS, sL q21, sS, sU, sU, sU, sU, sU] [])) rfl (hb hby at_139) (by decide) (by decide)
  obtain ⟨b1, g1⟩ : ∃ z, z = h0.size := ⟨_, rfl⟩
  rw [← g1] at A1 D1 st1
  have sz1 : h0.size ≤ h1.size := E1.1
  have lt1 : b1 < h1.size := A1.lt
  have F1_entity : Fld Z h1 b1 "com/example/satzung/satzung/diagnostics/Location" "entity" "Ljava/lang/String;" .null := D1 (Or.inr (ow hw 23 rfl)) (ty := (.object "java/lang/String")) (by decide)
  have F1_line : Fld Z h1 b1 "com/example/satzung/satzung/diagnostics/Location" "line" "J" (.long (0 : Int64)) := D1 (Or.inr (ow hw 25 rfl)) (ty := .long) (by decide)
  have F1_column : Fld Z h1 b1 "com/example/satzung/satzung/diagnostics/Location" "column" "J" (.long (0 : Int64)) := D1 (Or.inr (ow hw 27 rfl)) (ty := .long) (by decide)
  refine GoW.pre st1 ?_
  show GoW p e below s _ _ _ (T1.setTop (mkF m 142 #[sI p0, sI p1, sI p2, sL q3, sS, sL q4, sS, sI p5, sI i8, sI i9, sI i10, sI i11, sI i12, sR ra, sN, sL q15, sS, sL q17, sS, sL q19, sS, sL q21, sS, sU, sU, sU, sU, sU] [(.ref b1)]))
  refine GoW.pre (st' := T1.setTop (mkF m 149 #[sI p0, sI p1, sI p2, sL q3, sS, sL q4, sS, sI p5, sI i8, sI i9, sI i10, sI i11, sI i12, sR ra, sN, sL q15, sS, sL q17, sS, sL q19, sS, sL q21, sS, sU, sU, sU, sU, sU] [(.long q17), (.long q15), (.ref ra), (.ref b1), (.ref b1)])) (fun target kt => ?_) ?_
  · show Steps p.tables e below (T1.setTop (mkF m 142 #[sI p0, sI p1, sI p2, sL q3, sS, sL q4, sS, sI p5, sI i8, sI i9, sI i10, sI i11, sI i12, sR ra, sN, sL q15, sS, sL q17, sS, sL q19, sS, sL q21, sS, sU, sU, sU, sU, sU] [(.ref b1)])) _
    refine XS.dup X1.here hx rfl (hb hby at_142) rfl rfl ?_
    refine XS.aload X1.here hx rfl (hb hby at_143) rfl rfl ?_
    refine XS.lload X1.here hx rfl (hb hby at_145) rfl ?_
    refine XS.lload X1.here hx rfl (hb hby at_147) rfl ?_
    exact kt
  obtain ⟨_, _, ⟨T2, L2, k2, n2⟩, -, X2, ⟨Lc2, hQ2, l2, y2, z2⟩, st2⟩ := X1.specialBack hx (y := (⟨"com/example/satzung/satzung/diagnostics/Location", "<init>", "(Ljava/lang/String;JJ)V"⟩ : MethodName)) rfl hown (mvT hZ (ow hw 16 rfl)) (mvT hZ (ow hw 17 rfl)) (mvT hZ (ow hw 18 rfl)) (by decide) (backOf (W := 1) (rm2R l Z a0 hw [] b1 ra q15 q17 .null (.long (0 : Int64)) (.long (0 : Int64)) h1 n0 (by omega) A1 F1_entity (by omega) F1_line F1_column (by first | assumption | decide) (by first | assumption | decide)) hZ (ow hw 18 rfl) (ow hw 15 rfl) (by decide) (by decide)) (g := (mkF m 149 #[sI p0, sI p1, sI p2, sL q3, sS, sL q4, sS, sI p5, sI i8, sI i9, sI i10, sI i11, sI i12, sR ra, sN, sL q15, sS, sL q17, sS, sL q19, sS, sL q21, sS, sU, sU, sU, sU, sU] [(.long q17), (.long q15), (.ref ra), (.ref b1), (.ref b1)])) rfl (by rw [hml]; rfl) (Steps.refl _) (a := b1) (argsL := [(.ref ra), (.long q15), (.long q17)]) (rest := [(.ref b1)]) (lenOf pd139B_0 rfl) rfl (by show 2 * 0 + _ ≤ _; exact Nat.le_of_eq rfl) (hb hby at_149) (fun vm₁ hvm => ⟨rfl, e1, (by decide : 21 + 0 ≤ _), (by decide : 203 + 0 ≤ _)⟩)
  dsimp only [Pt.U, Pt.locs, Pt.cells, Pt.slots] at X2 l2 y2 z2 st2 hQ2
  subst l2 y2 z2
  obtain ⟨rfl, N2q, K2, KF2, Y2_0, Y2_1, Y2_2⟩ := hQ2
  have sz2 : h1.size ≤ T2.heap.size := K2.1
  have N2 := Fr.app N0 N2q
  refine GoW.trans st2 ?_
  show GoW p e below s _ _ _ (T2.setTop (mkF m 152 #[sI p0, sI p1, sI p2, sL q3, sS, sL q4, sS, sI p5, sI i8, sI i9, sI i10, sI i11, sI i12, sR ra, sN, sL q15, sS, sL q17, sS, sL q19, sS, sL q21, sS, sU, sU, sU, sU, sU] [(.ref b1)]))
  refine GoW.pre (st' := T2.setTop (mkF m 154 #[sI p0, sI p1, sI p2, sL q3, sS, sL q4, sS, sI p5, sI i8, sI i9, sI i10, sI i11, sI i12, sR ra, sN, sL q15, sS, sL q17, sS, sL q19, sS, sL q21, sS, sR b1, sU, sU, sU, sU] [])) (fun target kt => ?_) ?_
  · show Steps p.tables e below (T2.setTop (mkF m 152 #[sI p0, sI p1, sI p2, sL q3, sS, sL q4, sS, sI p5, sI i8, sI i9, sI i10, sI i11, sI i12, sR ra, sN, sL q15, sS, sL q17, sS, sL q19, sS, sL q21, sS, sU, sU, sU, sU, sU] [(.ref b1)])) _
    refine XS.astore X2.here hx rfl (hb hby at_152) rfl rfl (l' := #[.val (.int p0), .val (.int p1), .val (.int p2), .val (.long q3), .second, .val (.long q4), .second, .val (.int p5), .val (.int i8), .val (.int i9), .val (.int i10), .val (.int i11), .val (.int i12), .val (.ref ra), .val .null, .val (.long q15), .second, .val (.long q17), .second, .val (.long q19), .second, .val (.long q21), .second, .val (.ref b1), .unset, .unset, .unset, .unset]) rfl ?_
    exact kt
  obtain ⟨T3, h3, X3, e3, E3, A3, D3, -, st3⟩ := newO X2 hx hZ hown (ow hw 13 rfl) (ow hw 14 rfl) (ow hw 15 rfl) rfl (g := (mkF m 154 #[sI p0, sI p1, sI p2, sL q3, sS, sL q4, sS, sI p5, sI i8, sI i9, sI i10, sI i11, sI i12, sR ra, sN, sL q15, sS, sL q17, sS, sL q19, sS, sL q21, sS, sR b1, sU, sU, sU, sU] [])) rfl (hb hby at_154) (by decide) (by decide)
  obtain ⟨b3, g3⟩ : ∃ z, z = T2.heap.size := ⟨_, rfl⟩
  rw [← g3] at A3 D3 st3
  have sz3 : T2.heap.size ≤ h3.size := E3.1
  have lt3 : b3 < h3.size := A3.lt
  have F3_entity : Fld Z h3 b3 "com/example/satzung/satzung/diagnostics/Location" "entity" "Ljava/lang/String;" .null := D3 (Or.inr (ow hw 23 rfl)) (ty := (.object "java/lang/String")) (by decide)
  have F3_line : Fld Z h3 b3 "com/example/satzung/satzung/diagnostics/Location" "line" "J" (.long (0 : Int64)) := D3 (Or.inr (ow hw 25 rfl)) (ty := .long) (by decide)
  have F3_column : Fld Z h3 b3 "com/example/satzung/satzung/diagnostics/Location" "column" "J" (.long (0 : Int64)) := D3 (Or.inr (ow hw 27 rfl)) (ty := .long) (by decide)
  refine GoW.pre st3 ?_
  show GoW p e below s _ _ _ (T3.setTop (mkF m 157 #[sI p0, sI p1, sI p2, sL q3, sS, sL q4, sS, sI p5, sI i8, sI i9, sI i10, sI i11, sI i12, sR ra, sN, sL q15, sS, sL q17, sS, sL q19, sS, sL q21, sS, sR b1, sU, sU, sU, sU] [(.ref b3)]))
  refine GoW.pre (st' := T3.setTop (mkF m 164 #[sI p0, sI p1, sI p2, sL q3, sS, sL q4, sS, sI p5, sI i8, sI i9, sI i10, sI i11, sI i12, sR ra, sN, sL q15, sS, sL q17, sS, sL q19, sS, sL q21, sS, sR b1, sU, sU, sU, sU] [(.long q21), (.long q19), .null, (.ref b3), (.ref b3)])) (fun target kt => ?_) ?_
  · show Steps p.tables e below (T3.setTop (mkF m 157 #[sI p0, sI p1, sI p2, sL q3, sS, sL q4, sS, sI p5, sI i8, sI i9, sI i10, sI i11, sI i12, sR ra, sN, sL q15, sS, sL q17, sS, sL q19, sS, sL q21, sS, sR b1, sU, sU, sU, sU] [(.ref b3)])) _
    refine XS.dup X3.here hx rfl (hb hby at_157) rfl rfl ?_
    refine XS.aload X3.here hx rfl (hb hby at_158) rfl rfl ?_
    refine XS.lload X3.here hx rfl (hb hby at_160) rfl ?_
    refine XS.lload X3.here hx rfl (hb hby at_162) rfl ?_
    exact kt
  obtain ⟨_, _, ⟨T4, L4, k4, n4⟩, -, X4, ⟨Lc4, hQ4, l4, y4, z4⟩, st4⟩ := X3.specialBack hx (y := (⟨"com/example/satzung/satzung/diagnostics/Location", "<init>", "(Ljava/lang/String;JJ)V"⟩ : MethodName)) rfl hown (mvT hZ (ow hw 16 rfl)) (mvT hZ (ow hw 17 rfl)) (mvT hZ (ow hw 18 rfl)) (by decide) (backOf (W := 1) (rm2N l Z a0 hw [] b3 q19 q21 .null (.long (0 : Int64)) (.long (0 : Int64)) h3 n0 (by omega) A3 F3_entity (by omega) F3_line F3_column (by first | assumption | decide) (by first | assumption | decide)) hZ (ow hw 18 rfl) (ow hw 15 rfl) (by decide) (by decide)) (g := (mkF m 164 #[sI p0, sI p1, sI p2, sL q3, sS, sL q4, sS, sI p5, sI i8, sI i9, sI i10, sI i11, sI i12, sR ra, sN, sL q15, sS, sL q17, sS, sL q19, sS, sL q21, sS, sR b1, sU, sU, sU, sU] [(.long q21), (.long q19), .null, (.ref b3), (.ref b3)])) rfl (by rw [hml]; rfl) (Steps.refl _) (a := b3) (argsL := [.null, (.long q19), (.long q21)]) (rest := [(.ref b3)]) (lenOf pd139B_0 rfl) rfl (by show 2 * 0 + _ ≤ _; exact Nat.le_of_eq rfl) (hb hby at_164) (fun vm₁ hvm => ⟨rfl, e3, (by decide : 22 + 0 ≤ _), (by decide : 206 + 0 ≤ _)⟩)
  dsimp only [Pt.U, Pt.locs, Pt.cells, Pt.slots] at X4 l4 y4 z4 st4 hQ4
  subst l4 y4 z4
  obtain ⟨rfl, N4q, K4, KF4, Y4_0, Y4_1, Y4_2⟩ := hQ4
  have sz4 : h3.size ≤ T4.heap.size := K4.1
  have N4 := Fr.app N2 N4q
  refine GoW.trans st4 ?_
  show GoW p e below s _ _ _ (T4.setTop (mkF m 167 #[sI p0, sI p1, sI p2, sL q3, sS, sL q4, sS, sI p5, sI i8, sI i9, sI i10, sI i11, sI i12, sR ra, sN, sL q15, sS, sL q17, sS, sL q19, sS, sL q21, sS, sR b1, sU, sU, sU, sU] [(.ref b3)]))
  refine GoW.pre (st' := T4.setTop (mkF m 169 #[sI p0, sI p1, sI p2, sL q3, sS, sL q4, sS, sI p5, sI i8, sI i9, sI i10, sI i11, sI i12, sR ra, sN, sL q15, sS, sL q17, sS, sL q19, sS, sL q21, sS, sR b1, sR b3, sU, sU, sU] [])) (fun target kt => ?_) ?_
  · show Steps p.tables e below (T4.setTop (mkF m 167 #[sI p0, sI p1, sI p2, sL q3, sS, sL q4, sS, sI p5, sI i8, sI i9, sI i10, sI i11, sI i12, sR ra, sN, sL q15, sS, sL q17, sS, sL q19, sS, sL q21, sS, sR b1, sU, sU, sU, sU] [(.ref b3)])) _
    refine XS.astore X4.here hx rfl (hb hby at_167) rfl rfl (l' := #[.val (.int p0), .val (.int p1), .val (.int p2), .val (.long q3), .second, .val (.long q4), .second, .val (.int p5), .val (.int i8), .val (.int i9), .val (.int i10), .val (.int i11), .val (.int i12), .val (.ref ra), .val .null, .val (.long q15), .second, .val (.long q17), .second, .val (.long q19), .second, .val (.long q21), .second, .val (.ref b1), .val (.ref b3), .unset, .unset, .unset]) rfl ?_
    exact kt
  obtain ⟨T5, h5, X5, e5, E5, A5, D5, -, st5⟩ := newO X4 hx hZ hown (ow hw 28 rfl) (ow hw 29 rfl) (ow hw 30 rfl) rfl (g := (mkF m 169 #[sI p0, sI p1, sI p2, sL q3, sS, sL q4, sS, sI p5, sI i8, sI i9, sI i10, sI i11, sI i12, sR ra, sN, sL q15, sS, sL q17, sS, sL q19, sS, sL q21, sS, sR b1, sR b3, sU, sU, sU] [])) rfl (hb hby at_169) (by decide) (by decide)
  obtain ⟨b5, g5⟩ : ∃ z, z = T4.heap.size := ⟨_, rfl⟩
  rw [← g5] at A5 D5 st5
  have sz5 : T4.heap.size ≤ h5.size := E5.1
  have lt5 : b5 < h5.size := A5.lt
  have F5_entities : Fld Z h5 b5 "com/example/satzung/satzung/validate/PlacePage" "entities" "[Ljava/lang/String;" .null := D5 (Or.inr (ow hw 38 rfl)) (ty := (.array (.object "java/lang/String"))) (by decide)
  have F5_lines : Fld Z h5 b5 "com/example/satzung/satzung/validate/PlacePage" "lines" "[J" .null := D5 (Or.inr (ow hw 41 rfl)) (ty := (.array .long)) (by decide)
  have F5_columns : Fld Z h5 b5 "com/example/satzung/satzung/validate/PlacePage" "columns" "[J" .null := D5 (Or.inr (ow hw 43 rfl)) (ty := (.array .long)) (by decide)
  refine GoW.pre st5 ?_
  show GoW p e below s _ _ _ (T5.setTop (mkF m 172 #[sI p0, sI p1, sI p2, sL q3, sS, sL q4, sS, sI p5, sI i8, sI i9, sI i10, sI i11, sI i12, sR ra, sN, sL q15, sS, sL q17, sS, sL q19, sS, sL q21, sS, sR b1, sR b3, sU, sU, sU] [(.ref b5)]))
  refine GoW.pre (st' := T5.setTop (mkF m 173 #[sI p0, sI p1, sI p2, sL q3, sS, sL q4, sS, sI p5, sI i8, sI i9, sI i10, sI i11, sI i12, sR ra, sN, sL q15, sS, sL q17, sS, sL q19, sS, sL q21, sS, sR b1, sR b3, sU, sU, sU] [(.ref b5), (.ref b5)])) (fun target kt => ?_) ?_
  · show Steps p.tables e below (T5.setTop (mkF m 172 #[sI p0, sI p1, sI p2, sL q3, sS, sL q4, sS, sI p5, sI i8, sI i9, sI i10, sI i11, sI i12, sR ra, sN, sL q15, sS, sL q17, sS, sL q19, sS, sL q21, sS, sR b1, sR b3, sU, sU, sU] [(.ref b5)])) _
    refine XS.dup X5.here hx rfl (hb hby at_172) rfl rfl ?_
    exact kt
  obtain ⟨_, _, ⟨T6, L6, k6, n6⟩, -, X6, ⟨Lc6, hQ6, l6, y6, z6⟩, st6⟩ := X5.specialBack hx (y := (⟨"com/example/satzung/satzung/validate/PlacePage", "<init>", "()V"⟩ : MethodName)) rfl hown (mvT hZ (ow hw 31 rfl)) (mvT hZ (ow hw 32 rfl)) (mvT hZ (ow hw 33 rfl)) (by decide) (backOf (W := 1) (rm4 l Z a0 hw [] b5 .null .null .null h5 n0 (by omega) A5 F5_entities (by omega) F5_lines F5_columns) hZ (ow hw 33 rfl) (ow hw 30 rfl) (by decide) (by decide)) (g := (mkF m 173 #[sI p0, sI p1, sI p2, sL q3, sS, sL q4, sS, sI p5, sI i8, sI i9, sI i10, sI i11, sI i12, sR ra, sN, sL q15, sS, sL q17, sS, sL q19, sS, sL q21, sS, sR b1, sR b3, sU, sU, sU] [(.ref b5), (.ref b5)])) rfl (by rw [hml]; rfl) (Steps.refl _) (a := b5) (argsL := []) (rest := [(.ref b5)]) (lenOf pd139B_1 rfl) rfl (by show 2 * 0 + _ ≤ _; exact Nat.le_of_eq rfl) (hb hby at_173) (fun vm₁ hvm => ⟨rfl, e5, (by decide : 23 + 3 ≤ _), (by decide : 209 + 3072 ≤ _)⟩)
  dsimp only [Pt.U, Pt.locs, Pt.cells, Pt.slots] at X6 l6 y6 z6 st6 hQ6
  subst l6 y6 z6
  obtain ⟨b6_0, b6_1, b6_2, k6_0, k6_1, k6_2, rfl, N6q, K6, KF6, gb6_0, ltb6_0, gb6_1, ltb6_1, lob6_1, gb6_2, ltb6_2, lob6_2, Y6_0, Y6_1, Y6_2, Y6_3, Y6_4, Y6_5, Y6_6⟩ := hQ6
  have sz6 : h5.size ≤ T6.heap.size := K6.1
  have N6 := Fr.app N4 N6q
  refine GoW.trans st6 ?_
  show GoW p e below s _ _ _ (T6.setTop (mkF m 176 #[sI p0, sI p1, sI p2, sL q3, sS, sL q4, sS, sI p5, sI i8, sI i9, sI i10, sI i11, sI i12, sR ra, sN, sL q15, sS, sL q17, sS, sL q19, sS, sL q21, sS, sR b1, sR b3, sU, sU, sU] [(.ref b5)]))
  refine GoW.pre (st' := T6.setTop (mkF m 180 #[sI p0, sI p1, sI p2, sL q3, sS, sL q4, sS, sI p5, sI i8, sI i9, sI i10, sI i11, sI i12, sR ra, sN, sL q15, sS, sL q17, sS, sL q19, sS, sL q21, sS, sR b1, sR b3, sR b5, sU, sU] [(.int i12)])) (fun target kt => ?_) ?_
  · show Steps p.tables e below (T6.setTop (mkF m 176 #[sI p0, sI p1, sI p2, sL q3, sS, sL q4, sS, sI p5, sI i8, sI i9, sI i10, sI i11, sI i12, sR ra, sN, sL q15, sS, sL q17, sS, sL q19, sS, sL q21, sS, sR b1, sR b3, sU, sU, sU] [(.ref b5)])) _
    refine XS.astore X6.here hx rfl (hb hby at_176) rfl rfl (l' := #[.val (.int p0), .val (.int p1), .val (.int p2), .val (.long q3), .second, .val (.long q4), .second, .val (.int p5), .val (.int i8), .val (.int i9), .val (.int i10), .val (.int i11), .val (.int i12), .val (.ref ra), .val .null, .val (.long q15), .second, .val (.long q17), .second, .val (.long q19), .second, .val (.long q21), .second, .val (.ref b1), .val (.ref b3), .val (.ref b5), .unset, .unset]) rfl ?_
    refine XS.iload X6.here hx rfl (hb hby at_178) rfl ?_
    exact kt
  by_cases h180_7 : i12 = (0 : Int32)
  · refine GoW.pre (st' := T6.setTop (mkF m 188 #[sI p0, sI p1, sI p2, sL q3, sS, sL q4, sS, sI p5, sI i8, sI i9, sI i10, sI i11, sI i12, sR ra, sN, sL q15, sS, sL q17, sS, sL q19, sS, sL q21, sS, sR b1, sR b3, sR b5, sU, sU] [])) (fun target kt => ?_) ?_
    · show Steps p.tables e below (T6.setTop (mkF m 180 #[sI p0, sI p1, sI p2, sL q3, sS, sL q4, sS, sI p5, sI i8, sI i9, sI i10, sI i11, sI i12, sR ra, sN, sL q15, sS, sL q17, sS, sL q19, sS, sL q21, sS, sR b1, sR b3, sR b5, sU, sU] [(.int i12)])) _
      refine XS.ifYes X6.here hx rfl (pc0 := 180) (pc' := 188) rfl (hb hby at_180) rfl ((if0 _ _).trans (teq h180_7).1) (by decide) (by decide) ?_
      exact kt
    obtain ⟨T8, h8, X8, e8, E8, A8, D8, -, st8⟩ := newO X6 hx hZ hown (ow hw 28 rfl) (ow hw 29 rfl) (ow hw 30 rfl) rfl (g := (mkF m 188 #[sI p0, sI p1, sI p2, sL q3, sS, sL q4, sS, sI p5, sI i8, sI i9, sI i10, sI i11, sI i12, sR ra, sN, sL q15, sS, sL q17, sS, sL q19, sS, sL q21, sS, sR b1, sR b3, sR b5, sU, sU] [])) rfl (hb hby at_188) (by decide) (by decide)
    obtain ⟨b8, g8⟩ : ∃ z, z = T6.heap.size := ⟨_, rfl⟩
    rw [← g8] at A8 D8 st8
    have sz8 : T6.heap.size ≤ h8.size := E8.1
    have lt8 : b8 < h8.size := A8.lt
    have F8_entities : Fld Z h8 b8 "com/example/satzung/satzung/validate/PlacePage" "entities" "[Ljava/lang/String;" .null := D8 (Or.inr (ow hw 38 rfl)) (ty := (.array (.object "java/lang/String"))) (by decide)
    have F8_lines : Fld Z h8 b8 "com/example/satzung/satzung/validate/PlacePage" "lines" "[J" .null := D8 (Or.inr (ow hw 41 rfl)) (ty := (.array .long)) (by decide)
    have F8_columns : Fld Z h8 b8 "com/example/satzung/satzung/validate/PlacePage" "columns" "[J" .null := D8 (Or.inr (ow hw 43 rfl)) (ty := (.array .long)) (by decide)
    refine GoW.pre st8 ?_
    show GoW p e below s _ _ _ (T8.setTop (mkF m 191 #[sI p0, sI p1, sI p2, sL q3, sS, sL q4, sS, sI p5, sI i8, sI i9, sI i10, sI i11, sI i12, sR ra, sN, sL q15, sS, sL q17, sS, sL q19, sS, sL q21, sS, sR b1, sR b3, sR b5, sU, sU] [(.ref b8)]))
    refine GoW.pre (st' := T8.setTop (mkF m 192 #[sI p0, sI p1, sI p2, sL q3, sS, sL q4, sS, sI p5, sI i8, sI i9, sI i10, sI i11, sI i12, sR ra, sN, sL q15, sS, sL q17, sS, sL q19, sS, sL q21, sS, sR b1, sR b3, sR b5, sU, sU] [(.ref b8), (.ref b8)])) (fun target kt => ?_) ?_
    · show Steps p.tables e below (T8.setTop (mkF m 191 #[sI p0, sI p1, sI p2, sL q3, sS, sL q4, sS, sI p5, sI i8, sI i9, sI i10, sI i11, sI i12, sR ra, sN, sL q15, sS, sL q17, sS, sL q19, sS, sL q21, sS, sR b1, sR b3, sR b5, sU, sU] [(.ref b8)])) _
      refine XS.dup X8.here hx rfl (hb hby at_191) rfl rfl ?_
      exact kt
    obtain ⟨_, _, ⟨T9, L9, k9, n9⟩, -, X9, ⟨Lc9, hQ9, l9, y9, z9⟩, st9⟩ := X8.specialBack hx (y := (⟨"com/example/satzung/satzung/validate/PlacePage", "<init>", "()V"⟩ : MethodName)) rfl hown (mvT hZ (ow hw 31 rfl)) (mvT hZ (ow hw 32 rfl)) (mvT hZ (ow hw 33 rfl)) (by decide) (backOf (W := 1) (rm4 l Z a0 hw [] b8 .null .null .null h8 n0 (by omega) A8 F8_entities (by omega) F8_lines F8_columns) hZ (ow hw 33 rfl) (ow hw 30 rfl) (by decide) (by decide)) (g := (mkF m 192 #[sI p0, sI p1, sI p2, sL q3, sS, sL q4, sS, sI p5, sI i8, sI i9, sI i10, sI i11, sI i12, sR ra, sN, sL q15, sS, sL q17, sS, sL q19, sS, sL q21, sS, sR b1, sR b3, sR b5, sU, sU] [(.ref b8), (.ref b8)])) rfl (by rw [hml]; rfl) (Steps.refl _) (a := b8) (argsL := []) (rest := [(.ref b8)]) (lenOf pd139B_1 rfl) rfl (by show 2 * 0 + _ ≤ _; exact Nat.le_of_eq rfl) (hb hby at_192) (fun vm₁ hvm => ⟨rfl, e8, (by decide : 27 + 3 ≤ _), (by decide : 3284 + 3072 ≤ _)⟩)
    dsimp only [Pt.U, Pt.locs, Pt.cells, Pt.slots] at X9 l9 y9 z9 st9 hQ9
    subst l9 y9 z9
    obtain ⟨b9_0, b9_1, b9_2, k9_0, k9_1, k9_2, rfl, N9q, K9, KF9, gb9_0, ltb9_0, gb9_1, ltb9_1, lob9_1, gb9_2, ltb9_2, lob9_2, Y9_0, Y9_1, Y9_2, Y9_3, Y9_4, Y9_5, Y9_6⟩ := hQ9
    have sz9 : h8.size ≤ T9.heap.size := K9.1
    have N9 := Fr.app N6 N9q
    refine GoW.trans st9 ?_
    show GoW p e below s _ _ _ (T9.setTop (mkF m 195 #[sI p0, sI p1, sI p2, sL q3, sS, sL q4, sS, sI p5, sI i8, sI i9, sI i10, sI i11, sI i12, sR ra, sN, sL q15, sS, sL q17, sS, sL q19, sS, sL q21, sS, sR b1, sR b3, sR b5, sU, sU] [(.ref b8)]))
    refine GoW.pre (st' := T9.setTop (mkF m 203 #[sI p0, sI p1, sI p2, sL q3, sS, sL q4, sS, sI p5, sI i8, sI i9, sI i10, sI i11, sI i12, sR ra, sN, sL q15, sS, sL q17, sS, sL q19, sS, sL q21, sS, sR b1, sR b3, sR b5, sR b8, sU] [(.ref b3), (.int i10), (.ref b5)])) (fun target kt => ?_) ?_
    · show Steps p.tables e below (T9.setTop (mkF m 195 #[sI p0, sI p1, sI p2, sL q3, sS, sL q4, sS, sI p5, sI i8, sI i9, sI i10, sI i11, sI i12, sR ra, sN, sL q15, sS, sL q17, sS, sL q19, sS, sL q21, sS, sR b1, sR b3, sR b5, sU, sU] [(.ref b8)])) _
      refine XS.astore X9.here hx rfl (hb hby at_195) rfl rfl (l' := #[.val (.int p0), .val (.int p1), .val (.int p2), .val (.long q3), .second, .val (.long q4), .second, .val (.int p5), .val (.int i8), .val (.int i9), .val (.int i10), .val (.int i11), .val (.int i12), .val (.ref ra), .val .null, .val (.long q15), .second, .val (.long q17), .second, .val (.long q19), .second, .val (.long q21), .second, .val (.ref b1), .val (.ref b3), .val (.ref b5), .val (.ref b8), .unset]) rfl ?_
      refine XS.aload X9.here hx rfl (hb hby at_197) rfl rfl ?_
      refine XS.iload X9.here hx rfl (hb hby at_199) rfl ?_
      refine XS.aload X9.here hx rfl (hb hby at_201) rfl rfl ?_
      exact kt
    have Y11 : Exa Z T9.heap b5 "com/example/satzung/satzung/validate/PlacePage" := (((A5.keep K6).ext E8).keep K9)
    have Y12 : Fld Z T9.heap b5 "com/example/satzung/satzung/validate/PlacePage" "entities" "[Ljava/lang/String;" (.ref b6_0) := ((Y6_0.ext E8).keep K9 (ninS (neN (by omega)) nin0))
    have Y13 : Arf Z T9.heap b6_0 k6_0 (.object "java/lang/String") (1024 : Int32) (fun _ => .null) := ((Y6_3.ext E8).keep K9 (ninS (neN (by omega)) nin0))
    have Y14 : Fld Z T9.heap b5 "com/example/satzung/satzung/validate/PlacePage" "lines" "[J" (.ref b6_1) := ((Y6_1.ext E8).keep K9 (ninS (neN (by omega)) nin0))
    have Y15 : Arf Z T9.heap b6_1 k6_1 .long (1024 : Int32) (fun _ => (.long (0 : Int64))) := ((Y6_5.ext E8).keep K9 (ninS (neN (by omega)) nin0))
    have Y16 : Fld Z T9.heap b5 "com/example/satzung/satzung/validate/PlacePage" "columns" "[J" (.ref b6_2) := ((Y6_2.ext E8).keep K9 (ninS (neN (by omega)) nin0))
    have Y17 : Arf Z T9.heap b6_2 k6_2 .long (1024 : Int32) (fun _ => (.long (0 : Int64))) := ((Y6_6.ext E8).keep K9 (ninS (neN (by omega)) nin0))
    have Y18 : Exa Z T9.heap b3 "com/example/satzung/satzung/diagnostics/Location" := (((((A3.keep K4).ext E5).keep K6).ext E8).keep K9)
    have Y19 : Fld Z T9.heap b3 "com/example/satzung/satzung/diagnostics/Location" "entity" "Ljava/lang/String;" .null := ((((Y4_0.ext E5).keep K6 (ninS (neN (by omega)) nin0)).ext E8).keep K9 (ninS (neN (by omega)) nin0))
    have Y20 : Fld Z T9.heap b3 "com/example/satzung/satzung/diagnostics/Location" "line" "J" (.long q19) := ((((Y4_1.ext E5).keep K6 (ninS (neN (by omega)) nin0)).ext E8).keep K9 (ninS (neN (by omega)) nin0))
    have Y21 : Fld Z T9.heap b3 "com/example/satzung/satzung/diagnostics/Location" "column" "J" (.long q21) := ((((Y4_2.ext E5).keep K6 (ninS (neN (by omega)) nin0)).ext E8).keep K9 (ninS (neN (by omega)) nin0))
    obtain ⟨cq10, kq10, q10a, q10b, q10c⟩ := isOf hZ rfl Y11
    obtain ⟨_, _, ⟨T10, L10, k10, n10⟩, -, X10, ⟨Lc10, hQ10, l10, y10, z10⟩, st10⟩ := X9.virtualBack hx (y := (⟨"com/example/satzung/satzung/validate/PlacePage", "set", "(ILcom/example/satzung/satzung/diagnostics/Location;)V"⟩ : MethodName)) (z := (⟨"com/example/satzung/satzung/validate/PlacePage", "set", "(ILcom/example/satzung/satzung/diagnostics/Location;)V"⟩ : MethodName)) hown (mvT hZ (ow hw 44 rfl)) (mvT hZ (ow hw 45 rfl)) (notFace_of_selects (args := #[]) (mvT hZ (ow hw 47 rfl))) (mvT hZ (ow hw 47 rfl)) (mvT hZ (ow hw 46 rfl)) (by decide) (backOf (W := 0) (rm5N l Z a0 hw [] b5 i10 b3 q19 q21 b6_0 b6_1 b6_2 k6_0 k6_1 k6_2 (fun _ => .null) (fun _ => (.long (0 : Int64))) (fun _ => (.long (0 : Int64))) T9.heap n0 (by omega) Y11 Y12 Y13 Y14 Y15 Y16 Y17 Y6_4 Y18 Y19 Y20 Y21 (neN (by omega)) (neN (by omega)) (neN (by omega)) (neN (by omega)) (neN (by omega)) (neN (by omega)) (neN (by omega)) (neN (by omega)) (neN (by omega)) (by omega) (by omega) (by omega) (by first | assumption | decide)) hZ (ow hw 48 rfl) (ow hw 30 rfl) (by decide) (by decide)) q10a q10c (g := (mkF m 203 #[sI p0, sI p1, sI p2, sL q3, sS, sL q4, sS, sI p5, sI i8, sI i9, sI i10, sI i11, sI i12, sR ra, sN, sL q15, sS, sL q17, sS, sL q19, sS, sL q21, sS, sR b1, sR b3, sR b5, sR b8, sU] [(.ref b3), (.int i10), (.ref b5)])) rfl (by rw [hml]; rfl) (Steps.refl _) (argsL := [(.int i10), (.ref b3)]) (rest := []) (lenOf pd139B_2 rfl) rfl (by show 2 * 0 + _ ≤ _; exact Nat.le_of_eq rfl) (hb hby at_203) (fun vm₁ hvm => ⟨rfl, rfl, (by decide : 30 + 0 ≤ _), (by decide : 6356 + 0 ≤ _)⟩)
    dsimp only [Pt.U, Pt.locs, Pt.cells, Pt.slots] at X10 l10 y10 z10 st10 hQ10
    subst l10 y10 z10
    obtain ⟨rfl, N10q, K10, KF10, Y10_0, Y10_1, Y10_2⟩ := hQ10
    have sz10 : T9.heap.size ≤ T10.heap.size := K10.1
    have N10 := Fr.app N9 N10q
    refine GoW.trans st10 ?_
    show GoW p e below s _ _ _ (T10.setTop (mkF m 206 #[sI p0, sI p1, sI p2, sL q3, sS, sL q4, sS, sI p5, sI i8, sI i9, sI i10, sI i11, sI i12, sR ra, sN, sL q15, sS, sL q17, sS, sL q19, sS, sL q21, sS, sR b1, sR b3, sR b5, sR b8, sU] []))
    refine GoW.pre (st' := T10.setTop (mkF m 212 #[sI p0, sI p1, sI p2, sL q3, sS, sL q4, sS, sI p5, sI i8, sI i9, sI i10, sI i11, sI i12, sR ra, sN, sL q15, sS, sL q17, sS, sL q19, sS, sL q21, sS, sR b1, sR b3, sR b5, sR b8, sU] [(.ref b1), (.int i9), (.ref b8)])) (fun target kt => ?_) ?_
    · show Steps p.tables e below (T10.setTop (mkF m 206 #[sI p0, sI p1, sI p2, sL q3, sS, sL q4, sS, sI p5, sI i8, sI i9, sI i10, sI i11, sI i12, sR ra, sN, sL q15, sS, sL q17, sS, sL q19, sS, sL q21, sS, sR b1, sR b3, sR b5, sR b8, sU] [])) _
      refine XS.aload X10.here hx rfl (hb hby at_206) rfl rfl ?_
      refine XS.iload X10.here hx rfl (hb hby at_208) rfl ?_
      refine XS.aload X10.here hx rfl (hb hby at_210) rfl rfl ?_
      exact kt
    have Y23 : Exa Z T10.heap b8 "com/example/satzung/satzung/validate/PlacePage" := ((A8.keep K9).keep K10)
    have Y24 : Fld Z T10.heap b8 "com/example/satzung/satzung/validate/PlacePage" "entities" "[Ljava/lang/String;" (.ref b9_0) := (Y9_0.keep K10 (ninS (neN (by omega)) (ninS (neN (by omega)) (ninS (neN (by omega)) nin0))))
    have Y25 : Arf Z T10.heap b9_0 k9_0 (.object "java/lang/String") (1024 : Int32) (fun _ => .null) := (Y9_3.keep K10 (ninS (neN (by omega)) (ninS (neN (by omega)) (ninS (neN (by omega)) nin0))))
    have Y26 : Fld Z T10.heap b8 "com/example/satzung/satzung/validate/PlacePage" "lines" "[J" (.ref b9_1) := (Y9_1.keep K10 (ninS (neN (by omega)) (ninS (neN (by omega)) (ninS (neN (by omega)) nin0))))
    have Y27 : Arf Z T10.heap b9_1 k9_1 .long (1024 : Int32) (fun _ => (.long (0 : Int64))) := (Y9_5.keep K10 (ninS (neN (by omega)) (ninS (neN (by omega)) (ninS (neN (by omega)) nin0))))
    have Y28 : Fld Z T10.heap b8 "com/example/satzung/satzung/validate/PlacePage" "columns" "[J" (.ref b9_2) := (Y9_2.keep K10 (ninS (neN (by omega)) (ninS (neN (by omega)) (ninS (neN (by omega)) nin0))))
    have Y29 : Arf Z T10.heap b9_2 k9_2 .long (1024 : Int32) (fun _ => (.long (0 : Int64))) := (Y9_6.keep K10 (ninS (neN (by omega)) (ninS (neN (by omega)) (ninS (neN (by omega)) nin0))))
    have Y30 : Exa Z T10.heap b1 "com/example/satzung/satzung/diagnostics/Location" := ((((((((A1.keep K2).ext E3).keep K4).ext E5).keep K6).ext E8).keep K9).keep K10)
    have Y31 : Fld Z T10.heap b1 "com/example/satzung/satzung/diagnostics/Location" "entity" "Ljava/lang/String;" (.ref ra) := (((((((Y2_0.ext E3).keep K4 (ninS (neN (by omega)) nin0)).ext E5).keep K6 (ninS (neN (by omega)) nin0)).ext E8).keep K9 (ninS (neN (by omega)) nin0)).keep K10 (ninS (neN (by omega)) (ninS (neN (by omega)) (ninS (neN (by omega)) nin0))))
    have Y32 : Fld Z T10.heap b1 "com/example/satzung/satzung/diagnostics/Location" "line" "J" (.long q15) := (((((((Y2_1.ext E3).keep K4 (ninS (neN (by omega)) nin0)).ext E5).keep K6 (ninS (neN (by omega)) nin0)).ext E8).keep K9 (ninS (neN (by omega)) nin0)).keep K10 (ninS (neN (by omega)) (ninS (neN (by omega)) (ninS (neN (by omega)) nin0))))
    have Y33 : Fld Z T10.heap b1 "com/example/satzung/satzung/diagnostics/Location" "column" "J" (.long q17) := (((((((Y2_2.ext E3).keep K4 (ninS (neN (by omega)) nin0)).ext E5).keep K6 (ninS (neN (by omega)) nin0)).ext E8).keep K9 (ninS (neN (by omega)) nin0)).keep K10 (ninS (neN (by omega)) (ninS (neN (by omega)) (ninS (neN (by omega)) nin0))))
    have Y34 : Exa Z T10.heap ra "java/lang/String" := (((((((((E_ra.ext E1).keep K2).ext E3).keep K4).ext E5).keep K6).ext E8).keep K9).keep K10)
    obtain ⟨cq22, kq22, q22a, q22b, q22c⟩ := isOf hZ rfl Y23
    obtain ⟨_, _, ⟨T22, L22, k22, n22⟩, -, X22, ⟨Lc22, hQ22, l22, y22, z22⟩, st22⟩ := X10.virtualBack hx (y := (⟨"com/example/satzung/satzung/validate/PlacePage", "set", "(ILcom/example/satzung/satzung/diagnostics/Location;)V"⟩ : MethodName)) (z := (⟨"com/example/satzung/satzung/validate/PlacePage", "set", "(ILcom/example/satzung/satzung/diagnostics/Location;)V"⟩ : MethodName)) hown (mvT hZ (ow hw 44 rfl)) (mvT hZ (ow hw 45 rfl)) (notFace_of_selects (args := #[]) (mvT hZ (ow hw 47 rfl))) (mvT hZ (ow hw 47 rfl)) (mvT hZ (ow hw 46 rfl)) (by decide) (backOf (W := 0) (rm5R l Z a0 hw [] b8 i9 b1 ra q15 q17 b9_0 b9_1 b9_2 k9_0 k9_1 k9_2 (fun _ => .null) (fun _ => (.long (0 : Int64))) (fun _ => (.long (0 : Int64))) T10.heap n0 (by omega) Y23 Y24 Y25 Y26 Y27 Y28 Y29 Y9_4 Y30 Y31 Y32 Y33 Y34 (neN (by omega)) (neN (by omega)) (neN (by omega)) (neN (by omega)) (neN (by omega)) (neN (by omega)) (neN (by omega)) (neN (by omega)) (neN (by omega)) (by omega) (by omega) (by omega) (by first | assumption | decide)) hZ (ow hw 48 rfl) (ow hw 30 rfl) (by decide) (by decide)) q22a q22c (g := (mkF m 212 #[sI p0, sI p1, sI p2, sL q3, sS, sL q4, sS, sI p5, sI i8, sI i9, sI i10, sI i11, sI i12, sR ra, sN, sL q15, sS, sL q17, sS, sL q19, sS, sL q21, sS, sR b1, sR b3, sR b5, sR b8, sU] [(.ref b1), (.int i9), (.ref b8)])) rfl (by rw [hml]; rfl) (Steps.refl _) (argsL := [(.int i9), (.ref b1)]) (rest := []) (lenOf pd139B_2 rfl) rfl (by show 2 * 0 + _ ≤ _; exact Nat.le_of_eq rfl) (hb hby at_212) (fun vm₁ hvm => ⟨rfl, rfl, (by decide : 30 + 0 ≤ _), (by decide : 6356 + 0 ≤ _)⟩)
    dsimp only [Pt.U, Pt.locs, Pt.cells, Pt.slots] at X22 l22 y22 z22 st22 hQ22
    subst l22 y22 z22
    obtain ⟨rfl, N22q, K22, KF22, Y22_0, Y22_1, Y22_2⟩ := hQ22
    have sz22 : T10.heap.size ≤ T22.heap.size := K22.1
    have N22 := Fr.app N10 N22q
    refine GoW.trans st22 ?_
    show GoW p e below s _ _ _ (T22.setTop (mkF m 215 #[sI p0, sI p1, sI p2, sL q3, sS, sL q4, sS, sI p5, sI i8, sI i9, sI i10, sI i11, sI i12, sR ra, sN, sL q15, sS, sL q17, sS, sL q19, sS, sL q21, sS, sR b1, sR b3, sR b5, sR b8, sU] []))
    refine GoW.pre (st' := T22.setTop (mkF m 223 #[sI p0, sI p1, sI p2, sL q3, sS, sL q4, sS, sI p5, sI i8, sI i9, sI i10, sI i11, sI i12, sR ra, sN, sL q15, sS, sL q17, sS, sL q19, sS, sL q21, sS, sR b1, sR b3, sR b5, sR b8, sU] [(.int i9), (.ref b8), (.int i8), (.ref b5)])) (fun target kt => ?_) ?_
    · show Steps p.tables e below (T22.setTop (mkF m 215 #[sI p0, sI p1, sI p2, sL q3, sS, sL q4, sS, sI p5, sI i8, sI i9, sI i10, sI i11, sI i12, sR ra, sN, sL q15, sS, sL q17, sS, sL q19, sS, sL q21, sS, sR b1, sR b3, sR b5, sR b8, sU] [])) _
      refine XS.aload X22.here hx rfl (hb hby at_215) rfl rfl ?_
      refine XS.iload X22.here hx rfl (hb hby at_217) rfl ?_
      refine XS.aload X22.here hx rfl (hb hby at_219) rfl rfl ?_
      refine XS.iload X22.here hx rfl (hb hby at_221) rfl ?_
      exact kt
    have Y36 : Exa Z T22.heap b5 "com/example/satzung/satzung/validate/PlacePage" := ((Y11.keep K10).keep K22)
    have Y37 : Fld Z T22.heap b5 "com/example/satzung/satzung/validate/PlacePage" "entities" "[Ljava/lang/String;" (.ref b6_0) := ((Y12.keep K10 (ninS (neN (by omega)) (ninS (neN (by omega)) (ninS (neN (by omega)) nin0)))).keep K22 (ninS (neN (by omega)) (ninS (neN (by omega)) (ninS (neN (by omega)) nin0))))
    have Y38 : Arf Z T22.heap b6_0 k6_0 (.object "java/lang/String") (1024 : Int32) (own_upd (fun _ => .null) i10 .null) := (Y10_0.keep K22 (ninS (neN (by omega)) (ninS (neN (by omega)) (ninS (neN (by omega)) nin0))))
    have Y39 : Fld Z T22.heap b5 "com/example/satzung/satzung/validate/PlacePage" "lines" "[J" (.ref b6_1) := ((Y14.keep K10 (ninS (neN (by omega)) (ninS (neN (by omega)) (ninS (neN (by omega)) nin0)))).keep K22 (ninS (neN (by omega)) (ninS (neN (by omega)) (ninS (neN (by omega)) nin0))))
    have Y40 : Arf Z T22.heap b6_1 k6_1 .long (1024 : Int32) (own_upd (fun _ => (.long (0 : Int64))) i10 (.long q19)) := (Y10_1.keep K22 (ninS (neN (by omega)) (ninS (neN (by omega)) (ninS (neN (by omega)) nin0))))
    have Y41 : Fld Z T22.heap b5 "com/example/satzung/satzung/validate/PlacePage" "columns" "[J" (.ref b6_2) := ((Y16.keep K10 (ninS (neN (by omega)) (ninS (neN (by omega)) (ninS (neN (by omega)) nin0)))).keep K22 (ninS (neN (by omega)) (ninS (neN (by omega)) (ninS (neN (by omega)) nin0))))
    have Y42 : Arf Z T22.heap b6_2 k6_2 .long (1024 : Int32) (own_upd (fun _ => (.long (0 : Int64))) i10 (.long q21)) := (Y10_2.keep K22 (ninS (neN (by omega)) (ninS (neN (by omega)) (ninS (neN (by omega)) nin0))))
    have Y43 : Exa Z T22.heap b8 "com/example/satzung/satzung/validate/PlacePage" := (Y23.keep K22)
    have Y44 : Fld Z T22.heap b8 "com/example/satzung/satzung/validate/PlacePage" "entities" "[Ljava/lang/String;" (.ref b9_0) := (Y24.keep K22 (ninS (neN (by omega)) (ninS (neN (by omega)) (ninS (neN (by omega)) nin0))))
    have Y45 : Fld Z T22.heap b8 "com/example/satzung/satzung/validate/PlacePage" "lines" "[J" (.ref b9_1) := (Y26.keep K22 (ninS (neN (by omega)) (ninS (neN (by omega)) (ninS (neN (by omega)) nin0))))
    have Y46 : Fld Z T22.heap b8 "com/example/satzung/satzung/validate/PlacePage" "columns" "[J" (.ref b9_2) := (Y28.keep K22 (ninS (neN (by omega)) (ninS (neN (by omega)) (ninS (neN (by omega)) nin0))))
    have Y47 : Exa Z T22.heap ra "java/lang/String" := (Y34.keep K22)
    obtain ⟨cq35, kq35, q35a, q35b, q35c⟩ := isOf hZ rfl Y36
    obtain ⟨_, _, ⟨T35, L35, k35, n35⟩, -, X35, ⟨Lc35, hQ35, l35, y35, z35⟩, st35⟩ := X22.virtualBack hx (y := (⟨"com/example/satzung/satzung/validate/PlacePage", "set", "(ILcom/example/satzung/satzung/validate/PlacePage;I)V"⟩ : MethodName)) (z := (⟨"com/example/satzung/satzung/validate/PlacePage", "set", "(ILcom/example/satzung/satzung/validate/PlacePage;I)V"⟩ : MethodName)) hown (mvT hZ (ow hw 65 rfl)) (mvT hZ (ow hw 66 rfl)) (notFace_of_selects (args := #[]) (mvT hZ (ow hw 68 rfl))) (mvT hZ (ow hw 68 rfl)) (mvT hZ (ow hw 67 rfl)) (by decide) (backOf (W := 0) (rm9dR l Z a0 hw [] b5 i8 b8 i9 ra q15 q17 b6_0 b6_1 b6_2 k6_0 k6_1 k6_2 (own_upd (fun _ => .null) i10 .null) (own_upd (fun _ => (.long (0 : Int64))) i10 (.long q19)) (own_upd (fun _ => (.long (0 : Int64))) i10 (.long q21)) b9_0 b9_1 b9_2 k9_0 k9_1 k9_2 (own_upd (fun _ => .null) i9 (.ref ra)) (own_upd (fun _ => (.long (0 : Int64))) i9 (.long q15)) (own_upd (fun _ => (.long (0 : Int64))) i9 (.long q17)) T22.heap n0 (by omega) Y36 Y37 Y38 Y39 Y40 Y41 Y42 Y6_4 Y43 Y44 Y22_0 Y45 Y22_1 Y46 Y22_2 Y9_4 (own_hit _ _ _) (own_hit _ _ _) (own_hit _ _ _) Y47 (neN (by omega)) (neN (by omega)) (neN (by omega)) (neN (by omega)) (neN (by omega)) (neN (by omega)) (neN (by omega)) (neN (by omega)) (neN (by omega)) (neN (by omega)) (neN (by omega)) (neN (by omega)) (neN (by omega)) (neN (by omega)) (neN (by omega)) (neN (by omega)) (neN (by omega)) (neN (by omega)) (by omega) (by omega) (by omega) (by first | assumption | decide) (by first | assumption | decide)) hZ (ow hw 69 rfl) (ow hw 30 rfl) (by decide) (by decide)) q35a q35c (g := (mkF m 223 #[sI p0, sI p1, sI p2, sL q3, sS, sL q4, sS, sI p5, sI i8, sI i9, sI i10, sI i11, sI i12, sR ra, sN, sL q15, sS, sL q17, sS, sL q19, sS, sL q21, sS, sR b1, sR b3, sR b5, sR b8, sU] [(.int i9), (.ref b8), (.int i8), (.ref b5)])) rfl (by rw [hml]; rfl) (Steps.refl _) (argsL := [(.int i8), (.ref b8), (.int i9)]) (rest := []) (lenOf pd139B_3 rfl) rfl (by show 2 * 0 + _ ≤ _; exact Nat.le_of_eq rfl) (hb hby at_223) (fun vm₁ hvm => ⟨rfl, rfl, (by decide : 30 + 0 ≤ _), (by decide : 6356 + 0 ≤ _)⟩)
    dsimp only [Pt.U, Pt.locs, Pt.cells, Pt.slots] at X35 l35 y35 z35 st35 hQ35
    subst l35 y35 z35
    obtain ⟨rfl, N35q, K35, KF35, Y35_0, Y35_1, Y35_2⟩ := hQ35
    have sz35 : T22.heap.size ≤ T35.heap.size := K35.1
    have N35 := Fr.app N22 N35q
    refine GoW.trans st35 ?_
    show GoW p e below s _ _ _ (T35.setTop (mkF m 226 #[sI p0, sI p1, sI p2, sL q3, sS, sL q4, sS, sI p5, sI i8, sI i9, sI i10, sI i11, sI i12, sR ra, sN, sL q15, sS, sL q17, sS, sL q19, sS, sL q21, sS, sR b1, sR b3, sR b5, sR b8, sU] []))
    refine GoW.pre (st' := T35.setTop (mkF m 230 #[sI p0, sI p1, sI p2, sL q3, sS, sL q4, sS, sI p5, sI i8, sI i9, sI i10, sI i11, sI i12, sR ra, sN, sL q15, sS, sL q17, sS, sL q19, sS, sL q21, sS, sR b1, sR b3, sR b5, sR b8, sU] [(.int i8), (.int i10)])) (fun target kt => ?_) ?_
    · show Steps p.tables e below (T35.setTop (mkF m 226 #[sI p0, sI p1, sI p2, sL q3, sS, sL q4, sS, sI p5, sI i8, sI i9, sI i10, sI i11, sI i12, sR ra, sN, sL q15, sS, sL q17, sS, sL q19, sS, sL q21, sS, sR b1, sR b3, sR b5, sR b8, sU] [])) _
      refine XS.iload X35.here hx rfl (hb hby at_226) rfl ?_
      refine XS.iload X35.here hx rfl (hb hby at_228) rfl ?_
      exact kt
    by_cases h230_48 : i10 = i8
    · refine GoW.pre (st' := T35.setTop (mkF m 245 #[sI p0, sI p1, sI p2, sL q3, sS, sL q4, sS, sI p5, sI i8, sI i9, sI i10, sI i11, sI i12, sR ra, sN, sL q15, sS, sL q17, sS, sL q19, sS, sL q21, sS, sR b1, sR b3, sR b5, sR b8, sU] [])) (fun target kt => ?_) ?_
      · show Steps p.tables e below (T35.setTop (mkF m 230 #[sI p0, sI p1, sI p2, sL q3, sS, sL q4, sS, sI p5, sI i8, sI i9, sI i10, sI i11, sI i12, sR ra, sN, sL q15, sS, sL q17, sS, sL q19, sS, sL q21, sS, sR b1, sR b3, sR b5, sR b8, sU] [(.int i8), (.int i10)])) _
        refine XS.icmpYes X35.here hx rfl (pc0 := 230) (pc' := 245) rfl (hb hby at_230) rfl (teq h230_48).1 (by decide) (by decide) ?_
        exact kt
      refine GoW.pre (st' := T35.setTop (mkF m 258 #[sI p0, sI p1, sI p2, sL q3, sS, sL q4, sS, sI p5, sI i8, sI i9, sI i10, sI i11, sI i12, sR ra, sN, sL q15, sS, sL q17, sS, sL q19, sS, sL q21, sS, sR b1, sR b3, sR b5, sR b8, sR b1] [(.int i8), (.ref b5)])) (fun target kt => ?_) ?_
      · show Steps p.tables e below (T35.setTop (mkF m 245 #[sI p0, sI p1, sI p2, sL q3, sS, sL q4, sS, sI p5, sI i8, sI i9, sI i10, sI i11, sI i12, sR ra, sN, sL q15, sS, sL q17, sS, sL q19, sS, sL q21, sS, sR b1, sR b3, sR b5, sR b8, sU] [])) _
        refine XS.aload X35.here hx rfl (hb hby at_245) rfl rfl ?_
        refine XS.goto X35.here hx rfl (pc0 := 247) (pc' := 252) rfl (hb hby at_247) (by decide) (by decide) ?_
        refine XS.astore X35.here hx rfl (hb hby at_252) rfl rfl (l' := #[.val (.int p0), .val (.int p1), .val (.int p2), .val (.long q3), .second, .val (.long q4), .second, .val (.int p5), .val (.int i8), .val (.int i9), .val (.int i10), .val (.int i11), .val (.int i12), .val (.ref ra), .val .null, .val (.long q15), .second, .val (.long q17), .second, .val (.long q19), .second, .val (.long q21), .second, .val (.ref b1), .val (.ref b3), .val (.ref b5), .val (.ref b8), .val (.ref b1)]) rfl ?_
        refine XS.aload X35.here hx rfl (hb hby at_254) rfl rfl ?_
        refine XS.iload X35.here hx rfl (hb hby at_256) rfl ?_
        exact kt
      have Y50 : Exa Z T35.heap b5 "com/example/satzung/satzung/validate/PlacePage" := (Y36.keep K35)
      have Y51 : Fld Z T35.heap b5 "com/example/satzung/satzung/validate/PlacePage" "entities" "[Ljava/lang/String;" (.ref b6_0) := (Y37.keep K35 (ninS (neN (by omega)) (ninS (neN (by omega)) (ninS (neN (by omega)) nin0))))
      have Y52 : Fld Z T35.heap b5 "com/example/satzung/satzung/validate/PlacePage" "lines" "[J" (.ref b6_1) := (Y39.keep K35 (ninS (neN (by omega)) (ninS (neN (by omega)) (ninS (neN (by omega)) nin0))))
      have Y53 : Fld Z T35.heap b5 "com/example/satzung/satzung/validate/PlacePage" "columns" "[J" (.ref b6_2) := (Y41.keep K35 (ninS (neN (by omega)) (ninS (neN (by omega)) (ninS (neN (by omega)) nin0))))
      obtain ⟨cq49, kq49, q49a, q49b, q49c⟩ := isOf hZ rfl Y50
      obtain ⟨_, _, ⟨T49, L49, k49, n49⟩, -, X49, ⟨Lc49, hQ49, l49, y49, z49⟩, st49⟩ := X35.virtualBack hx (y := (⟨"com/example/satzung/satzung/validate/PlacePage", "get", "(I)Lcom/example/satzung/satzung/diagnostics/Location;"⟩ : MethodName)) (z := (⟨"com/example/satzung/satzung/validate/PlacePage", "get", "(I)Lcom/example/satzung/satzung/diagnostics/Location;"⟩ : MethodName)) hown (mvT hZ (ow hw 70 rfl)) (mvT hZ (ow hw 71 rfl)) (notFace_of_selects (args := #[]) (mvT hZ (ow hw 73 rfl))) (mvT hZ (ow hw 73 rfl)) (mvT hZ (ow hw 72 rfl)) (by decide) (backOf (W := 0) (rm10R l Z a0 hw [] b5 i8 ra q15 q17 b6_0 b6_1 b6_2 k6_0 k6_1 k6_2 (own_upd (own_upd (fun _ => .null) i10 .null) i8 (.ref ra)) (own_upd (own_upd (fun _ => (.long (0 : Int64))) i10 (.long q19)) i8 (.long q15)) (own_upd (own_upd (fun _ => (.long (0 : Int64))) i10 (.long q21)) i8 (.long q17)) T35.heap n0 (by omega) Y50 Y51 Y35_0 Y52 Y35_1 Y53 Y35_2 Y6_4 (own_hit _ _ _) (own_hit _ _ _) (own_hit _ _ _) (by first | assumption | decide) (by first | assumption | decide) (by first | assumption | decide)) hZ (ow hw 74 rfl) (ow hw 30 rfl) (by decide) (by decide)) q49a q49c (g := (mkF m 258 #[sI p0, sI p1, sI p2, sL q3, sS, sL q4, sS, sI p5, sI i8, sI i9, sI i10, sI i11, sI i12, sR ra, sN, sL q15, sS, sL q17, sS, sL q19, sS, sL q21, sS, sR b1, sR b3, sR b5, sR b8, sR b1] [(.int i8), (.ref b5)])) rfl (by rw [hml]; rfl) (Steps.refl _) (argsL := [(.int i8)]) (rest := []) (lenOf pd139B_4 rfl) rfl (by show 2 * 0 + _ ≤ _; exact Nat.le_of_eq rfl) (hb hby at_258) (fun vm₁ hvm => ⟨rfl, rfl, (by decide : 30 + 1 ≤ _), (by decide : 6356 + 3 ≤ _)⟩)
      dsimp only [Pt.U, Pt.locs, Pt.cells, Pt.slots] at X49 l49 y49 z49 st49 hQ49
      subst l49 y49 z49
      obtain ⟨b49_0, rfl, N49q, K49, KF49, gb49_0, ltb49_0, Y49_0, Y49_1, Y49_2, Y49_3⟩ := hQ49
      have sz49 : T35.heap.size ≤ T49.heap.size := K49.1
      have N49 := Fr.app N35 N49q
      refine GoW.trans st49 ?_
      show GoW p e below s _ _ _ (T49.setTop (mkF m 261 #[sI p0, sI p1, sI p2, sL q3, sS, sL q4, sS, sI p5, sI i8, sI i9, sI i10, sI i11, sI i12, sR ra, sN, sL q15, sS, sL q17, sS, sL q19, sS, sL q21, sS, sR b1, sR b3, sR b5, sR b8, sR b1] [(.ref b49_0)]))
      refine GoW.pre (st' := T49.setTop (mkF m 263 #[sI p0, sI p1, sI p2, sL q3, sS, sL q4, sS, sI p5, sI i8, sI i9, sI i10, sI i11, sI i12, sR ra, sN, sL q15, sS, sL q17, sS, sL q19, sS, sL q21, sS, sR b1, sR b3, sR b5, sR b8, sR b1] [(.ref b1), (.ref b49_0)])) (fun target kt => ?_) ?_
      · show Steps p.tables e below (T49.setTop (mkF m 261 #[sI p0, sI p1, sI p2, sL q3, sS, sL q4, sS, sI p5, sI i8, sI i9, sI i10, sI i11, sI i12, sR ra, sN, sL q15, sS, sL q17, sS, sL q19, sS, sL q21, sS, sR b1, sR b3, sR b5, sR b8, sR b1] [(.ref b49_0)])) _
        refine XS.aload X49.here hx rfl (hb hby at_261) rfl rfl ?_
        exact kt
      have Y55 : Exa Z T49.heap b1 "com/example/satzung/satzung/diagnostics/Location" := (((Y30.keep K22).keep K35).keep K49)
      have Y56 : Fld Z T49.heap b1 "com/example/satzung/satzung/diagnostics/Location" "entity" "Ljava/lang/String;" (.ref ra) := (((Y31.keep K22 (ninS (neN (by omega)) (ninS (neN (by omega)) (ninS (neN (by omega)) nin0)))).keep K35 (ninS (neN (by omega)) (ninS (neN (by omega)) (ninS (neN (by omega)) nin0)))).keep K49 nin0)
      have Y57 : Fld Z T49.heap b1 "com/example/satzung/satzung/diagnostics/Location" "line" "J" (.long q15) := (((Y32.keep K22 (ninS (neN (by omega)) (ninS (neN (by omega)) (ninS (neN (by omega)) nin0)))).keep K35 (ninS (neN (by omega)) (ninS (neN (by omega)) (ninS (neN (by omega)) nin0)))).keep K49 nin0)
      have Y58 : Fld Z T49.heap b1 "com/example/satzung/satzung/diagnostics/Location" "column" "J" (.long q17) := (((Y33.keep K22 (ninS (neN (by omega)) (ninS (neN (by omega)) (ninS (neN (by omega)) nin0)))).keep K35 (ninS (neN (by omega)) (ninS (neN (by omega)) (ninS (neN (by omega)) nin0)))).keep K49 nin0)
      obtain ⟨cq54, kq54, q54a, q54b, q54c⟩ := isOf hZ rfl Y49_0
      obtain ⟨_, _, ⟨T54, L54, k54, n54⟩, -, X54, ⟨Lc54, hQ54, l54, y54, z54⟩, st54⟩ := X49.virtualBack hx (y := (⟨"com/example/satzung/satzung/diagnostics/Location", "equals", "(Ljava/lang/Object;)Z"⟩ : MethodName)) (z := (⟨"com/example/satzung/satzung/diagnostics/Location", "equals", "(Ljava/lang/Object;)Z"⟩ : MethodName)) hown (mvT hZ (ow hw 77 rfl)) (mvT hZ (ow hw 78 rfl)) (notFace_of_selects (args := #[]) (mvT hZ (ow hw 80 rfl))) (mvT hZ (ow hw 80 rfl)) (mvT hZ (ow hw 79 rfl)) (by decide) (backOf (W := 0) (rm11R l Z a0 hw [] b49_0 b1 ra q15 q17 T49.heap n0 (by omega) Y49_0 Y49_1 Y49_2 Y49_3 Y55 Y56 Y57 Y58) hZ (ow hw 81 rfl) (ow hw 15 rfl) (by decide) (by decide)) q54a q54c (g := (mkF m 263 #[sI p0, sI p1, sI p2, sL q3, sS, sL q4, sS, sI p5, sI i8, sI i9, sI i10, sI i11, sI i12, sR ra, sN, sL q15, sS, sL q17, sS, sL q19, sS, sL q21, sS, sR b1, sR b3, sR b5, sR b8, sR b1] [(.ref b1), (.ref b49_0)])) rfl (by rw [hml]; rfl) (Steps.refl _) (argsL := [(.ref b1)]) (rest := []) (lenOf pd139B_5 rfl) rfl (by show 2 * 0 + _ ≤ _; exact Nat.le_of_eq rfl) (hb hby at_263) (fun vm₁ hvm => ⟨rfl, rfl, (by decide : 31 + 0 ≤ _), (by decide : 6359 + 0 ≤ _)⟩)
      dsimp only [Pt.U, Pt.locs, Pt.cells, Pt.slots] at X54 l54 y54 z54 st54 hQ54
      subst l54 y54 z54
      obtain ⟨rfl, N54q, e54⟩ := hQ54
      have N54 := Fr.app N49 N54q
      refine GoW.trans st54 ?_
      show GoW p e below s _ _ _ (T54.setTop (mkF m 266 #[sI p0, sI p1, sI p2, sL q3, sS, sL q4, sS, sI p5, sI i8, sI i9, sI i10, sI i11, sI i12, sR ra, sN, sL q15, sS, sL q17, sS, sL q19, sS, sL q21, sS, sR b1, sR b3, sR b5, sR b8, sR b1] [(.int (1 : Int32))]))
      refine GoW.pre (st' := T54.setTop (mkF m 273 #[sI p0, sI p1, sI p2, sL q3, sS, sL q4, sS, sI p5, sI i8, sI i9, sI i10, sI i11, sI i12, sR ra, sN, sL q15, sS, sL q17, sS, sL q19, sS, sL q21, sS, sR b1, sR b3, sR b5, sR b8, sR b1] [(.int i10), (.ref b5)])) (fun target kt => ?_) ?_
      · show Steps p.tables e below (T54.setTop (mkF m 266 #[sI p0, sI p1, sI p2, sL q3, sS, sL q4, sS, sI p5, sI i8, sI i9, sI i10, sI i11, sI i12, sR ra, sN, sL q15, sS, sL q17, sS, sL q19, sS, sL q21, sS, sR b1, sR b3, sR b5, sR b8, sR b1] [(.int (1 : Int32))])) _
        refine XS.ifNo X54.here hx rfl (hb hby at_266) rfl ((if0 _ _).trans (feq (by decide)).1) ?_
        refine XS.aload X54.here hx rfl (hb hby at_269) rfl rfl ?_
        refine XS.iload X54.here hx rfl (hb hby at_271) rfl ?_
        exact kt
      have Y60 : Exa Z T49.heap b5 "com/example/satzung/satzung/validate/PlacePage" := (Y50.keep K49)
      have Y61 : Fld Z T49.heap b5 "com/example/satzung/satzung/validate/PlacePage" "entities" "[Ljava/lang/String;" (.ref b6_0) := (Y51.keep K49 nin0)
      have Y62 : Arf Z T49.heap b6_0 k6_0 (.object "java/lang/String") (1024 : Int32) (own_upd (own_upd (fun _ => .null) i10 .null) i8 (.ref ra)) := (Y35_0.keep K49 nin0)
      have Y63 : Fld Z T49.heap b5 "com/example/satzung/satzung/validate/PlacePage" "lines" "[J" (.ref b6_1) := (Y52.keep K49 nin0)
      have Y64 : Arf Z T49.heap b6_1 k6_1 .long (1024 : Int32) (own_upd (own_upd (fun _ => (.long (0 : Int64))) i10 (.long q19)) i8 (.long q15)) := (Y35_1.keep K49 nin0)
      have Y65 : Fld Z T49.heap b5 "com/example/satzung/satzung/validate/PlacePage" "columns" "[J" (.ref b6_2) := (Y53.keep K49 nin0)
      have Y66 : Arf Z T49.heap b6_2 k6_2 .long (1024 : Int32) (own_upd (own_upd (fun _ => (.long (0 : Int64))) i10 (.long q21)) i8 (.long q17)) := (Y35_2.keep K49 nin0)
      obtain ⟨cq59, kq59, q59a, q59b, q59c⟩ := isOf hZ e54 Y60
      obtain ⟨_, _, ⟨T59, L59, k59, n59⟩, -, X59, ⟨Lc59, hQ59, l59, y59, z59⟩, st59⟩ := X54.virtualBack hx (y := (⟨"com/example/satzung/satzung/validate/PlacePage", "get", "(I)Lcom/example/satzung/satzung/diagnostics/Location;"⟩ : MethodName)) (z := (⟨"com/example/satzung/satzung/validate/PlacePage", "get", "(I)Lcom/example/satzung/satzung/diagnostics/Location;"⟩ : MethodName)) hown (mvT hZ (ow hw 70 rfl)) (mvT hZ (ow hw 71 rfl)) (notFace_of_selects (args := #[]) (mvT hZ (ow hw 73 rfl))) (mvT hZ (ow hw 73 rfl)) (mvT hZ (ow hw 72 rfl)) (by decide) (backOf (W := 0) (rm10R l Z a0 hw [] b5 i10 ra q15 q17 b6_0 b6_1 b6_2 k6_0 k6_1 k6_2 (own_upd (own_upd (fun _ => .null) i10 .null) i8 (.ref ra)) (own_upd (own_upd (fun _ => (.long (0 : Int64))) i10 (.long q19)) i8 (.long q15)) (own_upd (own_upd (fun _ => (.long (0 : Int64))) i10 (.long q21)) i8 (.long q17)) T49.heap n0 (by omega) Y60 Y61 Y62 Y63 Y64 Y65 Y66 Y6_4 (own_at h230_48) (own_at h230_48) (own_at h230_48) (by first | assumption | decide) (by first | assumption | decide) (by first | assumption | decide)) hZ (ow hw 74 rfl) (ow hw 30 rfl) (by decide) (by decide)) q59a q59c (g := (mkF m 273 #[sI p0, sI p1, sI p2, sL q3, sS, sL q4, sS, sI p5, sI i8, sI i9, sI i10, sI i11, sI i12, sR ra, sN, sL q15, sS, sL q17, sS, sL q19, sS, sL q21, sS, sR b1, sR b3, sR b5, sR b8, sR b1] [(.int i10), (.ref b5)])) rfl (by rw [hml]; rfl) (Steps.refl _) (argsL := [(.int i10)]) (rest := []) (lenOf pd139B_4 rfl) rfl (by show 2 * 0 + _ ≤ _; exact Nat.le_of_eq rfl) (hb hby at_273) (fun vm₁ hvm => ⟨rfl, e54, (by decide : 31 + 1 ≤ _), (by decide : 6359 + 3 ≤ _)⟩)
      dsimp only [Pt.U, Pt.locs, Pt.cells, Pt.slots] at X59 l59 y59 z59 st59 hQ59
      subst l59 y59 z59
      obtain ⟨b59_0, rfl, N59q, K59, KF59, gb59_0, ltb59_0, Y59_0, Y59_1, Y59_2, Y59_3⟩ := hQ59
      have sz59 : T49.heap.size ≤ T59.heap.size := K59.1
      have N59 := Fr.app N54 N59q
      refine GoW.trans st59 ?_
      show GoW p e below s _ _ _ (T59.setTop (mkF m 276 #[sI p0, sI p1, sI p2, sL q3, sS, sL q4, sS, sI p5, sI i8, sI i9, sI i10, sI i11, sI i12, sR ra, sN, sL q15, sS, sL q17, sS, sL q19, sS, sL q21, sS, sR b1, sR b3, sR b5, sR b8, sR b1] [(.ref b59_0)]))
      refine GoW.pre (st' := T59.setTop (mkF m 278 #[sI p0, sI p1, sI p2, sL q3, sS, sL q4, sS, sI p5, sI i8, sI i9, sI i10, sI i11, sI i12, sR ra, sN, sL q15, sS, sL q17, sS, sL q19, sS, sL q21, sS, sR b1, sR b3, sR b5, sR b8, sR b1] [(.ref b1), (.ref b59_0)])) (fun target kt => ?_) ?_
      · show Steps p.tables e below (T59.setTop (mkF m 276 #[sI p0, sI p1, sI p2, sL q3, sS, sL q4, sS, sI p5, sI i8, sI i9, sI i10, sI i11, sI i12, sR ra, sN, sL q15, sS, sL q17, sS, sL q19, sS, sL q21, sS, sR b1, sR b3, sR b5, sR b8, sR b1] [(.ref b59_0)])) _
        refine XS.aload X59.here hx rfl (hb hby at_276) rfl rfl ?_
        exact kt
      have Y68 : Exa Z T59.heap b1 "com/example/satzung/satzung/diagnostics/Location" := (Y55.keep K59)
      have Y69 : Fld Z T59.heap b1 "com/example/satzung/satzung/diagnostics/Location" "entity" "Ljava/lang/String;" (.ref ra) := (Y56.keep K59 nin0)
      have Y70 : Fld Z T59.heap b1 "com/example/satzung/satzung/diagnostics/Location" "line" "J" (.long q15) := (Y57.keep K59 nin0)
      have Y71 : Fld Z T59.heap b1 "com/example/satzung/satzung/diagnostics/Location" "column" "J" (.long q17) := (Y58.keep K59 nin0)
      obtain ⟨cq67, kq67, q67a, q67b, q67c⟩ := isOf hZ rfl Y59_0
      obtain ⟨_, _, ⟨T67, L67, k67, n67⟩, -, X67, ⟨Lc67, hQ67, l67, y67, z67⟩, st67⟩ := X59.virtualBack hx (y := (⟨"com/example/satzung/satzung/diagnostics/Location", "equals", "(Ljava/lang/Object;)Z"⟩ : MethodName)) (z := (⟨"com/example/satzung/satzung/diagnostics/Location", "equals", "(Ljava/lang/Object;)Z"⟩ : MethodName)) hown (mvT hZ (ow hw 77 rfl)) (mvT hZ (ow hw 78 rfl)) (notFace_of_selects (args := #[]) (mvT hZ (ow hw 80 rfl))) (mvT hZ (ow hw 80 rfl)) (mvT hZ (ow hw 79 rfl)) (by decide) (backOf (W := 0) (rm11R l Z a0 hw [] b59_0 b1 ra q15 q17 T59.heap n0 (by omega) Y59_0 Y59_1 Y59_2 Y59_3 Y68 Y69 Y70 Y71) hZ (ow hw 81 rfl) (ow hw 15 rfl) (by decide) (by decide)) q67a q67c (g := (mkF m 278 #[sI p0, sI p1, sI p2, sL q3, sS, sL q4, sS, sI p5, sI i8, sI i9, sI i10, sI i11, sI i12, sR ra, sN, sL q15, sS, sL q17, sS, sL q19, sS, sL q21, sS, sR b1, sR b3, sR b5, sR b8, sR b1] [(.ref b1), (.ref b59_0)])) rfl (by rw [hml]; rfl) (Steps.refl _) (argsL := [(.ref b1)]) (rest := []) (lenOf pd139B_5 rfl) rfl (by show 2 * 0 + _ ≤ _; exact Nat.le_of_eq rfl) (hb hby at_278) (fun vm₁ hvm => ⟨rfl, rfl, (by decide : 32 + 0 ≤ _), (by decide : 6362 + 0 ≤ _)⟩)
      dsimp only [Pt.U, Pt.locs, Pt.cells, Pt.slots] at X67 l67 y67 z67 st67 hQ67
      subst l67 y67 z67
      obtain ⟨rfl, N67q, e67⟩ := hQ67
      have N67 := Fr.app N59 N67q
      refine GoW.trans st67 ?_
      show GoW p e below s _ _ _ (T67.setTop (mkF m 281 #[sI p0, sI p1, sI p2, sL q3, sS, sL q4, sS, sI p5, sI i8, sI i9, sI i10, sI i11, sI i12, sR ra, sN, sL q15, sS, sL q17, sS, sL q19, sS, sL q21, sS, sR b1, sR b3, sR b5, sR b8, sR b1] [(.int (1 : Int32))]))
      refine GoW.pre (st' := T67.setTop (mkF m 288 #[sI p0, sI p1, sI p2, sL q3, sS, sL q4, sS, sI p5, sI i8, sI i9, sI i10, sI i11, sI i12, sR ra, sN, sL q15, sS, sL q17, sS, sL q19, sS, sL q21, sS, sR b1, sR b3, sR b5, sR b8, sR b1] [(.int i9), (.ref b8)])) (fun target kt => ?_) ?_
      · show Steps p.tables e below (T67.setTop (mkF m 281 #[sI p0, sI p1, sI p2, sL q3, sS, sL q4, sS, sI p5, sI i8, sI i9, sI i10, sI i11, sI i12, sR ra, sN, sL q15, sS, sL q17, sS, sL q19, sS, sL q21, sS, sR b1, sR b3, sR b5, sR b8, sR b1] [(.int (1 : Int32))])) _
        refine XS.ifNo X67.here hx rfl (hb hby at_281) rfl ((if0 _ _).trans (feq (by decide)).1) ?_
        refine XS.aload X67.here hx rfl (hb hby at_284) rfl rfl ?_
        refine XS.iload X67.here hx rfl (hb hby at_286) rfl ?_
        exact kt
      have Y73 : Exa Z T59.heap b8 "com/example/satzung/satzung/validate/PlacePage" := (((Y43.keep K35).keep K49).keep K59)
      have Y74 : Fld Z T59.heap b8 "com/example/satzung/satzung/validate/PlacePage" "entities" "[Ljava/lang/String;" (.ref b9_0) := (((Y44.keep K35 (ninS (neN (by omega)) (ninS (neN (by omega)) (ninS (neN (by omega)) nin0)))).keep K49 nin0).keep K59 nin0)
      have Y75 : Arf Z T59.heap b9_0 k9_0 (.object "java/lang/String") (1024 : Int32) (own_upd (fun _ => .null) i9 (.ref ra)) := (((Y22_0.keep K35 (ninS (neN (by omega)) (ninS (neN (by omega)) (ninS (neN (by omega)) nin0)))).keep K49 nin0).keep K59 nin0)
      have Y76 : Fld Z T59.heap b8 "com/example/satzung/satzung/validate/PlacePage" "lines" "[J" (.ref b9_1) := (((Y45.keep K35 (ninS (neN (by omega)) (ninS (neN (by omega)) (ninS (neN (by omega)) nin0)))).keep K49 nin0).keep K59 nin0)
      have Y77 : Arf Z T59.heap b9_1 k9_1 .long (1024 : Int32) (own_upd (fun _ => (.long (0 : Int64))) i9 (.long q15)) := (((Y22_1.keep K35 (ninS (neN (by omega)) (ninS (neN (by omega)) (ninS (neN (by omega)) nin0)))).keep K49 nin0).keep K59 nin0)
      have Y78 : Fld Z T59.heap b8 "com/example/satzung/satzung/validate/PlacePage" "columns" "[J" (.ref b9_2) := (((Y46.keep K35 (ninS (neN (by omega)) (ninS (neN (by omega)) (ninS (neN (by omega)) nin0)))).keep K49 nin0).keep K59 nin0)
      have Y79 : Arf Z T59.heap b9_2 k9_2 .long (1024 : Int32) (own_upd (fun _ => (.long (0 : Int64))) i9 (.long q17)) := (((Y22_2.keep K35 (ninS (neN (by omega)) (ninS (neN (by omega)) (ninS (neN (by omega)) nin0)))).keep K49 nin0).keep K59 nin0)
      obtain ⟨cq72, kq72, q72a, q72b, q72c⟩ := isOf hZ e67 Y73
      obtain ⟨_, _, ⟨T72, L72, k72, n72⟩, -, X72, ⟨Lc72, hQ72, l72, y72, z72⟩, st72⟩ := X67.virtualBack hx (y := (⟨"com/example/satzung/satzung/validate/PlacePage", "get", "(I)Lcom/example/satzung/satzung/diagnostics/Location;"⟩ : MethodName)) (z := (⟨"com/example/satzung/satzung/validate/PlacePage", "get", "(I)Lcom/example/satzung/satzung/diagnostics/Location;"⟩ : MethodName)) hown (mvT hZ (ow hw 70 rfl)) (mvT hZ (ow hw 71 rfl)) (notFace_of_selects (args := #[]) (mvT hZ (ow hw 73 rfl))) (mvT hZ (ow hw 73 rfl)) (mvT hZ (ow hw 72 rfl)) (by decide) (backOf (W := 0) (rm10R l Z a0 hw [] b8 i9 ra q15 q17 b9_0 b9_1 b9_2 k9_0 k9_1 k9_2 (own_upd (fun _ => .null) i9 (.ref ra)) (own_upd (fun _ => (.long (0 : Int64))) i9 (.long q15)) (own_upd (fun _ => (.long (0 : Int64))) i9 (.long q17)) T59.heap n0 (by omega) Y73 Y74 Y75 Y76 Y77 Y78 Y79 Y9_4 (own_hit _ _ _) (own_hit _ _ _) (own_hit _ _ _) (by first | assumption | decide) (by first | assumption | decide) (by first | assumption | decide)) hZ (ow hw 74 rfl) (ow hw 30 rfl) (by decide) (by decide)) q72a q72c (g := (mkF m 288 #[sI p0, sI p1, sI p2, sL q3, sS, sL q4, sS, sI p5, sI i8, sI i9, sI i10, sI i11, sI i12, sR ra, sN, sL q15, sS, sL q17, sS, sL q19, sS, sL q21, sS, sR b1, sR b3, sR b5, sR b8, sR b1] [(.int i9), (.ref b8)])) rfl (by rw [hml]; rfl) (Steps.refl _) (argsL := [(.int i9)]) (rest := []) (lenOf pd139B_4 rfl) rfl (by show 2 * 0 + _ ≤ _; exact Nat.le_of_eq rfl) (hb hby at_288) (fun vm₁ hvm => ⟨rfl, e67, (by decide : 32 + 1 ≤ _), (by decide : 6362 + 3 ≤ _)⟩)
      dsimp only [Pt.U, Pt.locs, Pt.cells, Pt.slots] at X72 l72 y72 z72 st72 hQ72
      subst l72 y72 z72
      obtain ⟨b72_0, rfl, N72q, K72, KF72, gb72_0, ltb72_0, Y72_0, Y72_1, Y72_2, Y72_3⟩ := hQ72
      have sz72 : T59.heap.size ≤ T72.heap.size := K72.1
      have N72 := Fr.app N67 N72q
      refine GoW.trans st72 ?_
      show GoW p e below s _ _ _ (T72.setTop (mkF m 291 #[sI p0, sI p1, sI p2, sL q3, sS, sL q4, sS, sI p5, sI i8, sI i9, sI i10, sI i11, sI i12, sR ra, sN, sL q15, sS, sL q17, sS, sL q19, sS, sL q21, sS, sR b1, sR b3, sR b5, sR b8, sR b1] [(.ref b72_0)]))
      refine GoW.pre (st' := T72.setTop (mkF m 293 #[sI p0, sI p1, sI p2, sL q3, sS, sL q4, sS, sI p5, sI i8, sI i9, sI i10, sI i11, sI i12, sR ra, sN, sL q15, sS, sL q17, sS, sL q19, sS, sL q21, sS, sR b1, sR b3, sR b5, sR b8, sR b1] [(.ref b1), (.ref b72_0)])) (fun target kt => ?_) ?_
      · show Steps p.tables e below (T72.setTop (mkF m 291 #[sI p0, sI p1, sI p2, sL q3, sS, sL q4, sS, sI p5, sI i8, sI i9, sI i10, sI i11, sI i12, sR ra, sN, sL q15, sS, sL q17, sS, sL q19, sS, sL q21, sS, sR b1, sR b3, sR b5, sR b8, sR b1] [(.ref b72_0)])) _
        refine XS.aload X72.here hx rfl (hb hby at_291) rfl rfl ?_
        exact kt
      have Y81 : Exa Z T72.heap b1 "com/example/satzung/satzung/diagnostics/Location" := (Y68.keep K72)
      have Y82 : Fld Z T72.heap b1 "com/example/satzung/satzung/diagnostics/Location" "entity" "Ljava/lang/String;" (.ref ra) := (Y69.keep K72 nin0)
      have Y83 : Fld Z T72.heap b1 "com/example/satzung/satzung/diagnostics/Location" "line" "J" (.long q15) := (Y70.keep K72 nin0)
      have Y84 : Fld Z T72.heap b1 "com/example/satzung/satzung/diagnostics/Location" "column" "J" (.long q17) := (Y71.keep K72 nin0)
      obtain ⟨cq80, kq80, q80a, q80b, q80c⟩ := isOf hZ rfl Y72_0
      obtain ⟨_, _, ⟨T80, L80, k80, n80⟩, -, X80, ⟨Lc80, hQ80, l80, y80, z80⟩, st80⟩ := X72.virtualBack hx (y := (⟨"com/example/satzung/satzung/diagnostics/Location", "equals", "(Ljava/lang/Object;)Z"⟩ : MethodName)) (z := (⟨"com/example/satzung/satzung/diagnostics/Location", "equals", "(Ljava/lang/Object;)Z"⟩ : MethodName)) hown (mvT hZ (ow hw 77 rfl)) (mvT hZ (ow hw 78 rfl)) (notFace_of_selects (args := #[]) (mvT hZ (ow hw 80 rfl))) (mvT hZ (ow hw 80 rfl)) (mvT hZ (ow hw 79 rfl)) (by decide) (backOf (W := 0) (rm11R l Z a0 hw [] b72_0 b1 ra q15 q17 T72.heap n0 (by omega) Y72_0 Y72_1 Y72_2 Y72_3 Y81 Y82 Y83 Y84) hZ (ow hw 81 rfl) (ow hw 15 rfl) (by decide) (by decide)) q80a q80c (g := (mkF m 293 #[sI p0, sI p1, sI p2, sL q3, sS, sL q4, sS, sI p5, sI i8, sI i9, sI i10, sI i11, sI i12, sR ra, sN, sL q15, sS, sL q17, sS, sL q19, sS, sL q21, sS, sR b1, sR b3, sR b5, sR b8, sR b1] [(.ref b1), (.ref b72_0)])) rfl (by rw [hml]; rfl) (Steps.refl _) (argsL := [(.ref b1)]) (rest := []) (lenOf pd139B_5 rfl) rfl (by show 2 * 0 + _ ≤ _; exact Nat.le_of_eq rfl) (hb hby at_293) (fun vm₁ hvm => ⟨rfl, rfl, (by decide : 33 + 0 ≤ _), (by decide : 6365 + 0 ≤ _)⟩)
      dsimp only [Pt.U, Pt.locs, Pt.cells, Pt.slots] at X80 l80 y80 z80 st80 hQ80
      subst l80 y80 z80
      obtain ⟨rfl, N80q, e80⟩ := hQ80
      have N80 := Fr.app N72 N80q
      refine GoW.trans st80 ?_
      show GoW p e below s _ _ _ (T80.setTop (mkF m 296 #[sI p0, sI p1, sI p2, sL q3, sS, sL q4, sS, sI p5, sI i8, sI i9, sI i10, sI i11, sI i12, sR ra, sN, sL q15, sS, sL q17, sS, sL q19, sS, sL q21, sS, sR b1, sR b3, sR b5, sR b8, sR b1] [(.int (1 : Int32))]))
      refine GoW.pre (st' := T80.setTop (mkF m 304 #[sI p0, sI p1, sI p2, sL q3, sS, sL q4, sS, sI p5, sI i8, sI i9, sI i10, sI i11, sI i12, sR ra, sN, sL q15, sS, sL q17, sS, sL q19, sS, sL q21, sS, sR b1, sR b3, sR b5, sR b8, sR b1] [(.int (1 : Int32))])) (fun target kt => ?_) ?_
      · show Steps p.tables e below (T80.setTop (mkF m 296 #[sI p0, sI p1, sI p2, sL q3, sS, sL q4, sS, sI p5, sI i8, sI i9, sI i10, sI i11, sI i12, sR ra, sN, sL q15, sS, sL q17, sS, sL q19, sS, sL q21, sS, sR b1, sR b3, sR b5, sR b8, sR b1] [(.int (1 : Int32))])) _
        refine XS.ifNo X80.here hx rfl (hb hby at_296) rfl ((if0 _ _).trans (feq (by decide)).1) ?_
        refine XS.iconst X80.here hx rfl (hb hby at_299) ?_
        refine XS.goto X80.here hx rfl (pc0 := 300) (pc' := 304) rfl (hb hby at_300) (by decide) (by decide) ?_
        exact kt
      exact GoW.retN X80 hS (leH e80 (by omega)) hx hlk hrt (z' := (1 : Int32)) (by simp) (hb hby at_304) rfl (by decide) (by decide) (by first | exact ⟨rfl, N80⟩ | (rw [e80]; exact ⟨rfl, N80⟩))
    · refine GoW.pre (st' := T35.setTop (mkF m 233 #[sI p0, sI p1, sI p2, sL q3, sS, sL q4, sS, sI p5, sI i8, sI i9, sI i10, sI i11, sI i12, sR ra, sN, sL q15, sS, sL q17, sS, sL q19, sS, sL q21, sS, sR b1, sR b3, sR b5, sR b8, sU] [])) (fun target kt => ?_) ?_
      · show Steps p.tables e below (T35.setTop (mkF m 230 #[sI p0, sI p1, sI p2, sL q3, sS, sL q4, sS, sI p5, sI i8, sI i9, sI i10, sI i11, sI i12, sR ra, sN, sL q15, sS, sL q17, sS, sL q19, sS, sL q21, sS, sR b1, sR b3, sR b5, sR b8, sU] [(.int i8), (.int i10)])) _
        refine XS.icmpNo X35.here hx rfl (hb hby at_230) rfl (feq h230_48).1 ?_
        exact kt
      refine GoW.pre (st' := T35.setTop (mkF m 258 #[sI p0, sI p1, sI p2, sL q3, sS, sL q4, sS, sI p5, sI i8, sI i9, sI i10, sI i11, sI i12, sR ra, sN, sL q15, sS, sL q17, sS, sL q19, sS, sL q21, sS, sR b1, sR b3, sR b5, sR b8, sR b3] [(.int i8), (.ref b5)])) (fun target kt => ?_) ?_
      · show Steps p.tables e below (T35.setTop (mkF m 233 #[sI p0, sI p1, sI p2, sL q3, sS, sL q4, sS, sI p5, sI i8, sI i9, sI i10, sI i11, sI i12, sR ra, sN, sL q15, sS, sL q17, sS, sL q19, sS, sL q21, sS, sR b1, sR b3, sR b5, sR b8, sU] [])) _
        refine XS.iload X35.here hx rfl (hb hby at_233) rfl ?_
        refine XS.ifYes X35.here hx rfl (pc0 := 235) (pc' := 250) rfl (hb hby at_235) rfl ((if0 _ _).trans (teq h180_7).1) (by decide) (by decide) ?_
        refine XS.aload X35.here hx rfl (hb hby at_250) rfl rfl ?_
        refine XS.astore X35.here hx rfl (hb hby at_252) rfl rfl (l' := #[.val (.int p0), .val (.int p1), .val (.int p2), .val (.long q3), .second, .val (.long q4), .second, .val (.int p5), .val (.int i8), .val (.int i9), .val (.int i10), .val (.int i11), .val (.int i12), .val (.ref ra), .val .null, .val (.long q15), .second, .val (.long q17), .second, .val (.long q19), .second, .val (.long q21), .second, .val (.ref b1), .val (.ref b3), .val (.ref b5), .val (.ref b8), .val (.ref b3)]) rfl ?_
        refine XS.aload X35.here hx rfl (hb hby at_254) rfl rfl ?_
        refine XS.iload X35.here hx rfl (hb hby at_256) rfl ?_
        exact kt
      have Y86 : Exa Z T35.heap b5 "com/example/satzung/satzung/validate/PlacePage" := (Y36.keep K35)
      have Y87 : Fld Z T35.heap b5 "com/example/satzung/satzung/validate/PlacePage" "entities" "[Ljava/lang/String;" (.ref b6_0) := (Y37.keep K35 (ninS (neN (by omega)) (ninS (neN (by omega)) (ninS (neN (by omega)) nin0))))
      have Y88 : Fld Z T35.heap b5 "com/example/satzung/satzung/validate/PlacePage" "lines" "[J" (.ref b6_1) := (Y39.keep K35 (ninS (neN (by omega)) (ninS (neN (by omega)) (ninS (neN (by omega)) nin0))))
      have Y89 : Fld Z T35.heap b5 "com/example/satzung/satzung/validate/PlacePage" "columns" "[J" (.ref b6_2) := (Y41.keep K35 (ninS (neN (by omega)) (ninS (neN (by omega)) (ninS (neN (by omega)) nin0))))
      obtain ⟨cq85, kq85, q85a, q85b, q85c⟩ := isOf hZ rfl Y86
      obtain ⟨_, _, ⟨T85, L85, k85, n85⟩, -, X85, ⟨Lc85, hQ85, l85, y85, z85⟩, st85⟩ := X35.virtualBack hx (y := (⟨"com/example/satzung/satzung/validate/PlacePage", "get", "(I)Lcom/example/satzung/satzung/diagnostics/Location;"⟩ : MethodName)) (z := (⟨"com/example/satzung/satzung/validate/PlacePage", "get", "(I)Lcom/example/satzung/satzung/diagnostics/Location;"⟩ : MethodName)) hown (mvT hZ (ow hw 70 rfl)) (mvT hZ (ow hw 71 rfl)) (notFace_of_selects (args := #[]) (mvT hZ (ow hw 73 rfl))) (mvT hZ (ow hw 73 rfl)) (mvT hZ (ow hw 72 rfl)) (by decide) (backOf (W := 0) (rm10R l Z a0 hw [] b5 i8 ra q15 q17 b6_0 b6_1 b6_2 k6_0 k6_1 k6_2 (own_upd (own_upd (fun _ => .null) i10 .null) i8 (.ref ra)) (own_upd (own_upd (fun _ => (.long (0 : Int64))) i10 (.long q19)) i8 (.long q15)) (own_upd (own_upd (fun _ => (.long (0 : Int64))) i10 (.long q21)) i8 (.long q17)) T35.heap n0 (by omega) Y86 Y87 Y35_0 Y88 Y35_1 Y89 Y35_2 Y6_4 (own_hit _ _ _) (own_hit _ _ _) (own_hit _ _ _) (by first | assumption | decide) (by first | assumption | decide) (by first | assumption | decide)) hZ (ow hw 74 rfl) (ow hw 30 rfl) (by decide) (by decide)) q85a q85c (g := (mkF m 258 #[sI p0, sI p1, sI p2, sL q3, sS, sL q4, sS, sI p5, sI i8, sI i9, sI i10, sI i11, sI i12, sR ra, sN, sL q15, sS, sL q17, sS, sL q19, sS, sL q21, sS, sR b1, sR b3, sR b5, sR b8, sR b3] [(.int i8), (.ref b5)])) rfl (by rw [hml]; rfl) (Steps.refl _) (argsL := [(.int i8)]) (rest := []) (lenOf pd139B_4 rfl) rfl (by show 2 * 0 + _ ≤ _; exact Nat.le_of_eq rfl) (hb hby at_258) (fun vm₁ hvm => ⟨rfl, rfl, (by decide : 30 + 1 ≤ _), (by decide : 6356 + 3 ≤ _)⟩)
      dsimp only [Pt.U, Pt.locs, Pt.cells, Pt.slots] at X85 l85 y85 z85 st85 hQ85
      subst l85 y85 z85
      obtain ⟨b85_0, rfl, N85q, K85, KF85, gb85_0, ltb85_0, Y85_0, Y85_1, Y85_2, Y85_3⟩ := hQ85
      have sz85 : T35.heap.size ≤ T85.heap.size := K85.1
      have N85 := Fr.app N35 N85q
      refine GoW.trans st85 ?_
      show GoW p e below s _ _ _ (T85.setTop (mkF m 261 #[sI p0, sI p1, sI p2, sL q3, sS, sL q4, sS, sI p5, sI i8, sI i9, sI i10, sI i11, sI i12, sR ra, sN, sL q15, sS, sL q17, sS, sL q19, sS, sL q21, sS, sR b1, sR b3, sR b5, sR b8, sR b3] [(.ref b85_0)]))
      refine GoW.pre (st' := T85.setTop (mkF m 263 #[sI p0, sI p1, sI p2, sL q3, sS, sL q4, sS, sI p5, sI i8, sI i9, sI i10, sI i11, sI i12, sR ra, sN, sL q15, sS, sL q17, sS, sL q19, sS, sL q21, sS, sR b1, sR b3, sR b5, sR b8, sR b3] [(.ref b1), (.ref b85_0)])) (fun target kt => ?_) ?_
      · show Steps p.tables e below (T85.setTop (mkF m 261 #[sI p0, sI p1, sI p2, sL q3, sS, sL q4, sS, sI p5, sI i8, sI i9, sI i10, sI i11, sI i12, sR ra, sN, sL q15, sS, sL q17, sS, sL q19, sS, sL q21, sS, sR b1, sR b3, sR b5, sR b8, sR b3] [(.ref b85_0)])) _
        refine XS.aload X85.here hx rfl (hb hby at_261) rfl rfl ?_
        exact kt
      have Y91 : Exa Z T85.heap b1 "com/example/satzung/satzung/diagnostics/Location" := (((Y30.keep K22).keep K35).keep K85)
      have Y92 : Fld Z T85.heap b1 "com/example/satzung/satzung/diagnostics/Location" "entity" "Ljava/lang/String;" (.ref ra) := (((Y31.keep K22 (ninS (neN (by omega)) (ninS (neN (by omega)) (ninS (neN (by omega)) nin0)))).keep K35 (ninS (neN (by omega)) (ninS (neN (by omega)) (ninS (neN (by omega)) nin0)))).keep K85 nin0)
      have Y93 : Fld Z T85.heap b1 "com/example/satzung/satzung/diagnostics/Location" "line" "J" (.long q15) := (((Y32.keep K22 (ninS (neN (by omega)) (ninS (neN (by omega)) (ninS (neN (by omega)) nin0)))).keep K35 (ninS (neN (by omega)) (ninS (neN (by omega)) (ninS (neN (by omega)) nin0)))).keep K85 nin0)
      have Y94 : Fld Z T85.heap b1 "com/example/satzung/satzung/diagnostics/Location" "column" "J" (.long q17) := (((Y33.keep K22 (ninS (neN (by omega)) (ninS (neN (by omega)) (ninS (neN (by omega)) nin0)))).keep K35 (ninS (neN (by omega)) (ninS (neN (by omega)) (ninS (neN (by omega)) nin0)))).keep K85 nin0)
      obtain ⟨cq90, kq90, q90a, q90b, q90c⟩ := isOf hZ rfl Y85_0
      obtain ⟨_, _, ⟨T90, L90, k90, n90⟩, -, X90, ⟨Lc90, hQ90, l90, y90, z90⟩, st90⟩ := X85.virtualBack hx (y := (⟨"com/example/satzung/satzung/diagnostics/Location", "equals", "(Ljava/lang/Object;)Z"⟩ : MethodName)) (z := (⟨"com/example/satzung/satzung/diagnostics/Location", "equals", "(Ljava/lang/Object;)Z"⟩ : MethodName)) hown (mvT hZ (ow hw 77 rfl)) (mvT hZ (ow hw 78 rfl)) (notFace_of_selects (args := #[]) (mvT hZ (ow hw 80 rfl))) (mvT hZ (ow hw 80 rfl)) (mvT hZ (ow hw 79 rfl)) (by decide) (backOf (W := 0) (rm11R l Z a0 hw [] b85_0 b1 ra q15 q17 T85.heap n0 (by omega) Y85_0 Y85_1 Y85_2 Y85_3 Y91 Y92 Y93 Y94) hZ (ow hw 81 rfl) (ow hw 15 rfl) (by decide) (by decide)) q90a q90c (g := (mkF m 263 #[sI p0, sI p1, sI p2, sL q3, sS, sL q4, sS, sI p5, sI i8, sI i9, sI i10, sI i11, sI i12, sR ra, sN, sL q15, sS, sL q17, sS, sL q19, sS, sL q21, sS, sR b1, sR b3, sR b5, sR b8, sR b3] [(.ref b1), (.ref b85_0)])) rfl (by rw [hml]; rfl) (Steps.refl _) (argsL := [(.ref b1)]) (rest := []) (lenOf pd139B_5 rfl) rfl (by show 2 * 0 + _ ≤ _; exact Nat.le_of_eq rfl) (hb hby at_263) (fun vm₁ hvm => ⟨rfl, rfl, (by decide : 31 + 0 ≤ _), (by decide : 6359 + 0 ≤ _)⟩)
      dsimp only [Pt.U, Pt.locs, Pt.cells, Pt.slots] at X90 l90 y90 z90 st90 hQ90
      subst l90 y90 z90
      obtain ⟨rfl, N90q, e90⟩ := hQ90
      have N90 := Fr.app N85 N90q
      refine GoW.trans st90 ?_
      show GoW p e below s _ _ _ (T90.setTop (mkF m 266 #[sI p0, sI p1, sI p2, sL q3, sS, sL q4, sS, sI p5, sI i8, sI i9, sI i10, sI i11, sI i12, sR ra, sN, sL q15, sS, sL q17, sS, sL q19, sS, sL q21, sS, sR b1, sR b3, sR b5, sR b8, sR b3] [(.int (1 : Int32))]))
      refine GoW.pre (st' := T90.setTop (mkF m 273 #[sI p0, sI p1, sI p2, sL q3, sS, sL q4, sS, sI p5, sI i8, sI i9, sI i10, sI i11, sI i12, sR ra, sN, sL q15, sS, sL q17, sS, sL q19, sS, sL q21, sS, sR b1, sR b3, sR b5, sR b8, sR b3] [(.int i10), (.ref b5)])) (fun target kt => ?_) ?_
      · show Steps p.tables e below (T90.setTop (mkF m 266 #[sI p0, sI p1, sI p2, sL q3, sS, sL q4, sS, sI p5, sI i8, sI i9, sI i10, sI i11, sI i12, sR ra, sN, sL q15, sS, sL q17, sS, sL q19, sS, sL q21, sS, sR b1, sR b3, sR b5, sR b8, sR b3] [(.int (1 : Int32))])) _
        refine XS.ifNo X90.here hx rfl (hb hby at_266) rfl ((if0 _ _).trans (feq (by decide)).1) ?_
        refine XS.aload X90.here hx rfl (hb hby at_269) rfl rfl ?_
        refine XS.iload X90.here hx rfl (hb hby at_271) rfl ?_
        exact kt
      have Y96 : Exa Z T85.heap b5 "com/example/satzung/satzung/validate/PlacePage" := (Y86.keep K85)
      have Y97 : Fld Z T85.heap b5 "com/example/satzung/satzung/validate/PlacePage" "entities" "[Ljava/lang/String;" (.ref b6_0) := (Y87.keep K85 nin0)
      have Y98 : Arf Z T85.heap b6_0 k6_0 (.object "java/lang/String") (1024 : Int32) (own_upd (own_upd (fun _ => .null) i10 .null) i8 (.ref ra)) := (Y35_0.keep K85 nin0)
      have Y99 : Fld Z T85.heap b5 "com/example/satzung/satzung/validate/PlacePage" "lines" "[J" (.ref b6_1) := (Y88.keep K85 nin0)
      have Y100 : Arf Z T85.heap b6_1 k6_1 .long (1024 : Int32) (own_upd (own_upd (fun _ => (.long (0 : Int64))) i10 (.long q19)) i8 (.long q15)) := (Y35_1.keep K85 nin0)
      have Y101 : Fld Z T85.heap b5 "com/example/satzung/satzung/validate/PlacePage" "columns" "[J" (.ref b6_2) := (Y89.keep K85 nin0)
      have Y102 : Arf Z T85.heap b6_2 k6_2 .long (1024 : Int32) (own_upd (own_upd (fun _ => (.long (0 : Int64))) i10 (.long q21)) i8 (.long q17)) := (Y35_2.keep K85 nin0)
      obtain ⟨cq95, kq95, q95a, q95b, q95c⟩ := isOf hZ e90 Y96
      obtain ⟨_, _, ⟨T95, L95, k95, n95⟩, -, X95, ⟨Lc95, hQ95, l95, y95, z95⟩, st95⟩ := X90.virtualBack hx (y := (⟨"com/example/satzung/satzung/validate/PlacePage", "get", "(I)Lcom/example/satzung/satzung/diagnostics/Location;"⟩ : MethodName)) (z := (⟨"com/example/satzung/satzung/validate/PlacePage", "get", "(I)Lcom/example/satzung/satzung/diagnostics/Location;"⟩ : MethodName)) hown (mvT hZ (ow hw 70 rfl)) (mvT hZ (ow hw 71 rfl)) (notFace_of_selects (args := #[]) (mvT hZ (ow hw 73 rfl))) (mvT hZ (ow hw 73 rfl)) (mvT hZ (ow hw 72 rfl)) (by decide) (backOf (W := 0) (rm10N l Z a0 hw [] b5 i10 q19 q21 b6_0 b6_1 b6_2 k6_0 k6_1 k6_2 (own_upd (own_upd (fun _ => .null) i10 .null) i8 (.ref ra)) (own_upd (own_upd (fun _ => (.long (0 : Int64))) i10 (.long q19)) i8 (.long q15)) (own_upd (own_upd (fun _ => (.long (0 : Int64))) i10 (.long q21)) i8 (.long q17)) T85.heap n0 (by omega) Y96 Y97 Y98 Y99 Y100 Y101 Y102 Y6_4 (own_miss h230_48 (own_hit _ _ _)) (own_miss h230_48 (own_hit _ _ _)) (own_miss h230_48 (own_hit _ _ _)) (by first | assumption | decide) (by first | assumption | decide) (by first | assumption | decide)) hZ (ow hw 74 rfl) (ow hw 30 rfl) (by decide) (by decide)) q95a q95c (g := (mkF m 273 #[sI p0, sI p1, sI p2, sL q3, sS, sL q4, sS, sI p5, sI i8, sI i9, sI i10, sI i11, sI i12, sR ra, sN, sL q15, sS, sL q17, sS, sL q19, sS, sL q21, sS, sR b1, sR b3, sR b5, sR b8, sR b3] [(.int i10), (.ref b5)])) rfl (by rw [hml]; rfl) (Steps.refl _) (argsL := [(.int i10)]) (rest := []) (lenOf pd139B_4 rfl) rfl (by show 2 * 0 + _ ≤ _; exact Nat.le_of_eq rfl) (hb hby at_273) (fun vm₁ hvm => ⟨rfl, e90, (by decide : 31 + 1 ≤ _), (by decide : 6359 + 3 ≤ _)⟩)
      dsimp only [Pt.U, Pt.locs, Pt.cells, Pt.slots] at X95 l95 y95 z95 st95 hQ95
      subst l95 y95 z95
      obtain ⟨b95_0, rfl, N95q, K95, KF95, gb95_0, ltb95_0, Y95_0, Y95_1, Y95_2, Y95_3⟩ := hQ95
      have sz95 : T85.heap.size ≤ T95.heap.size := K95.1
      have N95 := Fr.app N90 N95q
      refine GoW.trans st95 ?_
      show GoW p e below s _ _ _ (T95.setTop (mkF m 276 #[sI p0, sI p1, sI p2, sL q3, sS, sL q4, sS, sI p5, sI i8, sI i9, sI i10, sI i11, sI i12, sR ra, sN, sL q15, sS, sL q17, sS, sL q19, sS, sL q21, sS, sR b1, sR b3, sR b5, sR b8, sR b3] [(.ref b95_0)]))
      refine GoW.pre (st' := T95.setTop (mkF m 278 #[sI p0, sI p1, sI p2, sL q3, sS, sL q4, sS, sI p5, sI i8, sI i9, sI i10, sI i11, sI i12, sR ra, sN, sL q15, sS, sL q17, sS, sL q19, sS, sL q21, sS, sR b1, sR b3, sR b5, sR b8, sR b3] [(.ref b3), (.ref b95_0)])) (fun target kt => ?_) ?_
      · show Steps p.tables e below (T95.setTop (mkF m 276 #[sI p0, sI p1, sI p2, sL q3, sS, sL q4, sS, sI p5, sI i8, sI i9, sI i10, sI i11, sI i12, sR ra, sN, sL q15, sS, sL q17, sS, sL q19, sS, sL q21, sS, sR b1, sR b3, sR b5, sR b8, sR b3] [(.ref b95_0)])) _
        refine XS.aload X95.here hx rfl (hb hby at_276) rfl rfl ?_
        exact kt
      have Y104 : Exa Z T95.heap b3 "com/example/satzung/satzung/diagnostics/Location" := (((((Y18.keep K10).keep K22).keep K35).keep K85).keep K95)
      have Y105 : Fld Z T95.heap b3 "com/example/satzung/satzung/diagnostics/Location" "entity" "Ljava/lang/String;" .null := (((((Y19.keep K10 (ninS (neN (by omega)) (ninS (neN (by omega)) (ninS (neN (by omega)) nin0)))).keep K22 (ninS (neN (by omega)) (ninS (neN (by omega)) (ninS (neN (by omega)) nin0)))).keep K35 (ninS (neN (by omega)) (ninS (neN (by omega)) (ninS (neN (by omega)) nin0)))).keep K85 nin0).keep K95 nin0)
      have Y106 : Fld Z T95.heap b3 "com/example/satzung/satzung/diagnostics/Location" "line" "J" (.long q19) := (((((Y20.keep K10 (ninS (neN (by omega)) (ninS (neN (by omega)) (ninS (neN (by omega)) nin0)))).keep K22 (ninS (neN (by omega)) (ninS (neN (by omega)) (ninS (neN (by omega)) nin0)))).keep K35 (ninS (neN (by omega)) (ninS (neN (by omega)) (ninS (neN (by omega)) nin0)))).keep K85 nin0).keep K95 nin0)
      have Y107 : Fld Z T95.heap b3 "com/example/satzung/satzung/diagnostics/Location" "column" "J" (.long q21) := (((((Y21.keep K10 (ninS (neN (by omega)) (ninS (neN (by omega)) (ninS (neN (by omega)) nin0)))).keep K22 (ninS (neN (by omega)) (ninS (neN (by omega)) (ninS (neN (by omega)) nin0)))).keep K35 (ninS (neN (by omega)) (ninS (neN (by omega)) (ninS (neN (by omega)) nin0)))).keep K85 nin0).keep K95 nin0)
      obtain ⟨cq103, kq103, q103a, q103b, q103c⟩ := isOf hZ rfl Y95_0
      obtain ⟨_, _, ⟨T103, L103, k103, n103⟩, -, X103, ⟨Lc103, hQ103, l103, y103, z103⟩, st103⟩ := X95.virtualBack hx (y := (⟨"com/example/satzung/satzung/diagnostics/Location", "equals", "(Ljava/lang/Object;)Z"⟩ : MethodName)) (z := (⟨"com/example/satzung/satzung/diagnostics/Location", "equals", "(Ljava/lang/Object;)Z"⟩ : MethodName)) hown (mvT hZ (ow hw 77 rfl)) (mvT hZ (ow hw 78 rfl)) (notFace_of_selects (args := #[]) (mvT hZ (ow hw 80 rfl))) (mvT hZ (ow hw 80 rfl)) (mvT hZ (ow hw 79 rfl)) (by decide) (backOf (W := 0) (rm11N l Z a0 hw [] b95_0 b3 q19 q21 T95.heap n0 (by omega) Y95_0 Y95_1 Y95_2 Y95_3 Y104 Y105 Y106 Y107) hZ (ow hw 81 rfl) (ow hw 15 rfl) (by decide) (by decide)) q103a q103c (g := (mkF m 278 #[sI p0, sI p1, sI p2, sL q3, sS, sL q4, sS, sI p5, sI i8, sI i9, sI i10, sI i11, sI i12, sR ra, sN, sL q15, sS, sL q17, sS, sL q19, sS, sL q21, sS, sR b1, sR b3, sR b5, sR b8, sR b3] [(.ref b3), (.ref b95_0)])) rfl (by rw [hml]; rfl) (Steps.refl _) (argsL := [(.ref b3)]) (rest := []) (lenOf pd139B_5 rfl) rfl (by show 2 * 0 + _ ≤ _; exact Nat.le_of_eq rfl) (hb hby at_278) (fun vm₁ hvm => ⟨rfl, rfl, (by decide : 32 + 0 ≤ _), (by decide : 6362 + 0 ≤ _)⟩)
      dsimp only [Pt.U, Pt.locs, Pt.cells, Pt.slots] at X103 l103 y103 z103 st103 hQ103
      subst l103 y103 z103
      obtain ⟨rfl, N103q, e103⟩ := hQ103
      have N103 := Fr.app N95 N103q
      refine GoW.trans st103 ?_
      show GoW p e below s _ _ _ (T103.setTop (mkF m 281 #[sI p0, sI p1, sI p2, sL q3, sS, sL q4, sS, sI p5, sI i8, sI i9, sI i10, sI i11, sI i12, sR ra, sN, sL q15, sS, sL q17, sS, sL q19, sS, sL q21, sS, sR b1, sR b3, sR b5, sR b8, sR b3] [(.int (1 : Int32))]))
      refine GoW.pre (st' := T103.setTop (mkF m 288 #[sI p0, sI p1, sI p2, sL q3, sS, sL q4, sS, sI p5, sI i8, sI i9, sI i10, sI i11, sI i12, sR ra, sN, sL q15, sS, sL q17, sS, sL q19, sS, sL q21, sS, sR b1, sR b3, sR b5, sR b8, sR b3] [(.int i9), (.ref b8)])) (fun target kt => ?_) ?_
      · show Steps p.tables e below (T103.setTop (mkF m 281 #[sI p0, sI p1, sI p2, sL q3, sS, sL q4, sS, sI p5, sI i8, sI i9, sI i10, sI i11, sI i12, sR ra, sN, sL q15, sS, sL q17, sS, sL q19, sS, sL q21, sS, sR b1, sR b3, sR b5, sR b8, sR b3] [(.int (1 : Int32))])) _
        refine XS.ifNo X103.here hx rfl (hb hby at_281) rfl ((if0 _ _).trans (feq (by decide)).1) ?_
        refine XS.aload X103.here hx rfl (hb hby at_284) rfl rfl ?_
        refine XS.iload X103.here hx rfl (hb hby at_286) rfl ?_
        exact kt
      have Y109 : Exa Z T95.heap b8 "com/example/satzung/satzung/validate/PlacePage" := (((Y43.keep K35).keep K85).keep K95)
      have Y110 : Fld Z T95.heap b8 "com/example/satzung/satzung/validate/PlacePage" "entities" "[Ljava/lang/String;" (.ref b9_0) := (((Y44.keep K35 (ninS (neN (by omega)) (ninS (neN (by omega)) (ninS (neN (by omega)) nin0)))).keep K85 nin0).keep K95 nin0)
      have Y111 : Arf Z T95.heap b9_0 k9_0 (.object "java/lang/String") (1024 : Int32) (own_upd (fun _ => .null) i9 (.ref ra)) := (((Y22_0.keep K35 (ninS (neN (by omega)) (ninS (neN (by omega)) (ninS (neN (by omega)) nin0)))).keep K85 nin0).keep K95 nin0)
      have Y112 : Fld Z T95.heap b8 "com/example/satzung/satzung/validate/PlacePage" "lines" "[J" (.ref b9_1) := (((Y45.keep K35 (ninS (neN (by omega)) (ninS (neN (by omega)) (ninS (neN (by omega)) nin0)))).keep K85 nin0).keep K95 nin0)
      have Y113 : Arf Z T95.heap b9_1 k9_1 .long (1024 : Int32) (own_upd (fun _ => (.long (0 : Int64))) i9 (.long q15)) := (((Y22_1.keep K35 (ninS (neN (by omega)) (ninS (neN (by omega)) (ninS (neN (by omega)) nin0)))).keep K85 nin0).keep K95 nin0)
      have Y114 : Fld Z T95.heap b8 "com/example/satzung/satzung/validate/PlacePage" "columns" "[J" (.ref b9_2) := (((Y46.keep K35 (ninS (neN (by omega)) (ninS (neN (by omega)) (ninS (neN (by omega)) nin0)))).keep K85 nin0).keep K95 nin0)
      have Y115 : Arf Z T95.heap b9_2 k9_2 .long (1024 : Int32) (own_upd (fun _ => (.long (0 : Int64))) i9 (.long q17)) := (((Y22_2.keep K35 (ninS (neN (by omega)) (ninS (neN (by omega)) (ninS (neN (by omega)) nin0)))).keep K85 nin0).keep K95 nin0)
      obtain ⟨cq108, kq108, q108a, q108b, q108c⟩ := isOf hZ e103 Y109
      obtain ⟨_, _, ⟨T108, L108, k108, n108⟩, -, X108, ⟨Lc108, hQ108, l108, y108, z108⟩, st108⟩ := X103.virtualBack hx (y := (⟨"com/example/satzung/satzung/validate/PlacePage", "get", "(I)Lcom/example/satzung/satzung/diagnostics/Location;"⟩ : MethodName)) (z := (⟨"com/example/satzung/satzung/validate/PlacePage", "get", "(I)Lcom/example/satzung/satzung/diagnostics/Location;"⟩ : MethodName)) hown (mvT hZ (ow hw 70 rfl)) (mvT hZ (ow hw 71 rfl)) (notFace_of_selects (args := #[]) (mvT hZ (ow hw 73 rfl))) (mvT hZ (ow hw 73 rfl)) (mvT hZ (ow hw 72 rfl)) (by decide) (backOf (W := 0) (rm10R l Z a0 hw [] b8 i9 ra q15 q17 b9_0 b9_1 b9_2 k9_0 k9_1 k9_2 (own_upd (fun _ => .null) i9 (.ref ra)) (own_upd (fun _ => (.long (0 : Int64))) i9 (.long q15)) (own_upd (fun _ => (.long (0 : Int64))) i9 (.long q17)) T95.heap n0 (by omega) Y109 Y110 Y111 Y112 Y113 Y114 Y115 Y9_4 (own_hit _ _ _) (own_hit _ _ _) (own_hit _ _ _) (by first | assumption | decide) (by first | assumption | decide) (by first | assumption | decide)) hZ (ow hw 74 rfl) (ow hw 30 rfl) (by decide) (by decide)) q108a q108c (g := (mkF m 288 #[sI p0, sI p1, sI p2, sL q3, sS, sL q4, sS, sI p5, sI i8, sI i9, sI i10, sI i11, sI i12, sR ra, sN, sL q15, sS, sL q17, sS, sL q19, sS, sL q21, sS, sR b1, sR b3, sR b5, sR b8, sR b3] [(.int i9), (.ref b8)])) rfl (by rw [hml]; rfl) (Steps.refl _) (argsL := [(.int i9)]) (rest := []) (lenOf pd139B_4 rfl) rfl (by show 2 * 0 + _ ≤ _; exact Nat.le_of_eq rfl) (hb hby at_288) (fun vm₁ hvm => ⟨rfl, e103, (by decide : 32 + 1 ≤ _), (by decide : 6362 + 3 ≤ _)⟩)
      dsimp only [Pt.U, Pt.locs, Pt.cells, Pt.slots] at X108 l108 y108 z108 st108 hQ108
      subst l108 y108 z108
      obtain ⟨b108_0, rfl, N108q, K108, KF108, gb108_0, ltb108_0, Y108_0, Y108_1, Y108_2, Y108_3⟩ := hQ108
      have sz108 : T95.heap.size ≤ T108.heap.size := K108.1
      have N108 := Fr.app N103 N108q
      refine GoW.trans st108 ?_
      show GoW p e below s _ _ _ (T108.setTop (mkF m 291 #[sI p0, sI p1, sI p2, sL q3, sS, sL q4, sS, sI p5, sI i8, sI i9, sI i10, sI i11, sI i12, sR ra, sN, sL q15, sS, sL q17, sS, sL q19, sS, sL q21, sS, sR b1, sR b3, sR b5, sR b8, sR b3] [(.ref b108_0)]))
      refine GoW.pre (st' := T108.setTop (mkF m 293 #[sI p0, sI p1, sI p2, sL q3, sS, sL q4, sS, sI p5, sI i8, sI i9, sI i10, sI i11, sI i12, sR ra, sN, sL q15, sS, sL q17, sS, sL q19, sS, sL q21, sS, sR b1, sR b3, sR b5, sR b8, sR b3] [(.ref b1), (.ref b108_0)])) (fun target kt => ?_) ?_
      · show Steps p.tables e below (T108.setTop (mkF m 291 #[sI p0, sI p1, sI p2, sL q3, sS, sL q4, sS, sI p5, sI i8, sI i9, sI i10, sI i11, sI i12, sR ra, sN, sL q15, sS, sL q17, sS, sL q19, sS, sL q21, sS, sR b1, sR b3, sR b5, sR b8, sR b3] [(.ref b108_0)])) _
        refine XS.aload X108.here hx rfl (hb hby at_291) rfl rfl ?_
        exact kt
      have Y117 : Exa Z T108.heap b1 "com/example/satzung/satzung/diagnostics/Location" := ((Y91.keep K95).keep K108)
      have Y118 : Fld Z T108.heap b1 "com/example/satzung/satzung/diagnostics/Location" "entity" "Ljava/lang/String;" (.ref ra) := ((Y92.keep K95 nin0).keep K108 nin0)
      have Y119 : Fld Z T108.heap b1 "com/example/satzung/satzung/diagnostics/Location" "line" "J" (.long q15) := ((Y93.keep K95 nin0).keep K108 nin0)
      have Y120 : Fld Z T108.heap b1 "com/example/satzung/satzung/diagnostics/Location" "column" "J" (.long q17) := ((Y94.keep K95 nin0).keep K108 nin0)
      obtain ⟨cq116, kq116, q116a, q116b, q116c⟩ := isOf hZ rfl Y108_0
      obtain ⟨_, _, ⟨T116, L116, k116, n116⟩, -, X116, ⟨Lc116, hQ116, l116, y116, z116⟩, st116⟩ := X108.virtualBack hx (y := (⟨"com/example/satzung/satzung/diagnostics/Location", "equals", "(Ljava/lang/Object;)Z"⟩ : MethodName)) (z := (⟨"com/example/satzung/satzung/diagnostics/Location", "equals", "(Ljava/lang/Object;)Z"⟩ : MethodName)) hown (mvT hZ (ow hw 77 rfl)) (mvT hZ (ow hw 78 rfl)) (notFace_of_selects (args := #[]) (mvT hZ (ow hw 80 rfl))) (mvT hZ (ow hw 80 rfl)) (mvT hZ (ow hw 79 rfl)) (by decide) (backOf (W := 0) (rm11R l Z a0 hw [] b108_0 b1 ra q15 q17 T108.heap n0 (by omega) Y108_0 Y108_1 Y108_2 Y108_3 Y117 Y118 Y119 Y120) hZ (ow hw 81 rfl) (ow hw 15 rfl) (by decide) (by decide)) q116a q116c (g := (mkF m 293 #[sI p0, sI p1, sI p2, sL q3, sS, sL q4, sS, sI p5, sI i8, sI i9, sI i10, sI i11, sI i12, sR ra, sN, sL q15, sS, sL q17, sS, sL q19, sS, sL q21, sS, sR b1, sR b3, sR b5, sR b8, sR b3] [(.ref b1), (.ref b108_0)])) rfl (by rw [hml]; rfl) (Steps.refl _) (argsL := [(.ref b1)]) (rest := []) (lenOf pd139B_5 rfl) rfl (by show 2 * 0 + _ ≤ _; exact Nat.le_of_eq rfl) (hb hby at_293) (fun vm₁ hvm => ⟨rfl, rfl, (by decide : 33 + 0 ≤ _), (by decide : 6365 + 0 ≤ _)⟩)
      dsimp only [Pt.U, Pt.locs, Pt.cells, Pt.slots] at X116 l116 y116 z116 st116 hQ116
      subst l116 y116 z116
      obtain ⟨rfl, N116q, e116⟩ := hQ116
      have N116 := Fr.app N108 N116q
      refine GoW.trans st116 ?_
      show GoW p e below s _ _ _ (T116.setTop (mkF m 296 #[sI p0, sI p1, sI p2, sL q3, sS, sL q4, sS, sI p5, sI i8, sI i9, sI i10, sI i11, sI i12, sR ra, sN, sL q15, sS, sL q17, sS, sL q19, sS, sL q21, sS, sR b1, sR b3, sR b5, sR b8, sR b3] [(.int (1 : Int32))]))
      refine GoW.pre (st' := T116.setTop (mkF m 304 #[sI p0, sI p1, sI p2, sL q3, sS, sL q4, sS, sI p5, sI i8, sI i9, sI i10, sI i11, sI i12, sR ra, sN, sL q15, sS, sL q17, sS, sL q19, sS, sL q21, sS, sR b1, sR b3, sR b5, sR b8, sR b3] [(.int (1 : Int32))])) (fun target kt => ?_) ?_
      · show Steps p.tables e below (T116.setTop (mkF m 296 #[sI p0, sI p1, sI p2, sL q3, sS, sL q4, sS, sI p5, sI i8, sI i9, sI i10, sI i11, sI i12, sR ra, sN, sL q15, sS, sL q17, sS, sL q19, sS, sL q21, sS, sR b1, sR b3, sR b5, sR b8, sR b3] [(.int (1 : Int32))])) _
        refine XS.ifNo X116.here hx rfl (hb hby at_296) rfl ((if0 _ _).trans (feq (by decide)).1) ?_
        refine XS.iconst X116.here hx rfl (hb hby at_299) ?_
        refine XS.goto X116.here hx rfl (pc0 := 300) (pc' := 304) rfl (hb hby at_300) (by decide) (by decide) ?_
        exact kt
      exact GoW.retN X116 hS (leH e116 (by omega)) hx hlk hrt (z' := (1 : Int32)) (by simp) (hb hby at_304) rfl (by decide) (by decide) (by first | exact ⟨rfl, N116⟩ | (rw [e116]; exact ⟨rfl, N116⟩))
  · refine GoW.pre (st' := T6.setTop (mkF m 183 #[sI p0, sI p1, sI p2, sL q3, sS, sL q4, sS, sI p5, sI i8, sI i9, sI i10, sI i11, sI i12, sR ra, sN, sL q15, sS, sL q17, sS, sL q19, sS, sL q21, sS, sR b1, sR b3, sR b5, sU, sU] [])) (fun target kt => ?_) ?_
    · show Steps p.tables e below (T6.setTop (mkF m 180 #[sI p0, sI p1, sI p2, sL q3, sS, sL q4, sS, sI p5, sI i8, sI i9, sI i10, sI i11, sI i12, sR ra, sN, sL q15, sS, sL q17, sS, sL q19, sS, sL q21, sS, sR b1, sR b3, sR b5, sU, sU] [(.int i12)])) _
      refine XS.ifNo X6.here hx rfl (hb hby at_180) rfl ((if0 _ _).trans (feq h180_7).1) ?_
      exact kt
    refine GoW.pre (st' := T6.setTop (mkF m 203 #[sI p0, sI p1, sI p2, sL q3, sS, sL q4, sS, sI p5, sI i8, sI i9, sI i10, sI i11, sI i12, sR ra, sN, sL q15, sS, sL q17, sS, sL q19, sS, sL q21, sS, sR b1, sR b3, sR b5, sR b5, sU] [(.ref b3), (.int i10), (.ref b5)])) (fun target kt => ?_) ?_
    · show Steps p.tables e below (T6.setTop (mkF m 183 #[sI p0, sI p1, sI p2, sL q3, sS, sL q4, sS, sI p5, sI i8, sI i9, sI i10, sI i11, sI i12, sR ra, sN, sL q15, sS, sL q17, sS, sL q19, sS, sL q21, sS, sR b1, sR b3, sR b5, sU, sU] [])) _
      refine XS.aload X6.here hx rfl (hb hby at_183) rfl rfl ?_
      refine XS.goto X6.here hx rfl (pc0 := 185) (pc' := 195) rfl (hb hby at_185) (by decide) (by decide) ?_
      refine XS.astore X6.here hx rfl (hb hby at_195) rfl rfl (l' := #[.val (.int p0), .val (.int p1), .val (.int p2), .val (.long q3), .second, .val (.long q4), .second, .val (.int p5), .val (.int i8), .val (.int i9), .val (.int i10), .val (.int i11), .val (.int i12), .val (.ref ra), .val .null, .val (.long q15), .second, .val (.long q17), .second, .val (.long q19), .second, .val (.long q21), .second, .val (.ref b1), .val (.ref b3), .val (.ref b5), .val (.ref b5), .unset]) rfl ?_
      refine XS.aload X6.here hx rfl (hb hby at_197) rfl rfl ?_
      refine XS.iload X6.here hx rfl (hb hby at_199) rfl ?_
      refine XS.aload X6.here hx rfl (hb hby at_201) rfl rfl ?_
      exact kt
    have Y122 : Exa Z T6.heap b5 "com/example/satzung/satzung/validate/PlacePage" := (A5.keep K6)
    have Y123 : Exa Z T6.heap b3 "com/example/satzung/satzung/diagnostics/Location" := (((A3.keep K4).ext E5).keep K6)
    have Y124 : Fld Z T6.heap b3 "com/example/satzung/satzung/diagnostics/Location" "entity" "Ljava/lang/String;" .null := ((Y4_0.ext E5).keep K6 (ninS (neN (by omega)) nin0))
    have Y125 : Fld Z T6.heap b3 "com/example/satzung/satzung/diagnostics/Location" "line" "J" (.long q19) := ((Y4_1.ext E5).keep K6 (ninS (neN (by omega)) nin0))
    have Y126 : Fld Z T6.heap b3 "com/example/satzung/satzung/diagnostics/Location" "column" "J" (.long q21) := ((Y4_2.ext E5).keep K6 (ninS (neN (by omega)) nin0))
    obtain ⟨cq121, kq121, q121a, q121b, q121c⟩ := isOf hZ rfl Y122
    obtain ⟨_, _, ⟨T121, L121, k121, n121⟩, -, X121, ⟨Lc121, hQ121, l121, y121, z121⟩, st121⟩ := X6.virtualBack hx (y := (⟨"com/example/satzung/satzung/validate/PlacePage", "set", "(ILcom/example/satzung/satzung/diagnostics/Location;)V"⟩ : MethodName)) (z := (⟨"com/example/satzung/satzung/validate/PlacePage", "set", "(ILcom/example/satzung/satzung/diagnostics/Location;)V"⟩ : MethodName)) hown (mvT hZ (ow hw 44 rfl)) (mvT hZ (ow hw 45 rfl)) (notFace_of_selects (args := #[]) (mvT hZ (ow hw 47 rfl))) (mvT hZ (ow hw 47 rfl)) (mvT hZ (ow hw 46 rfl)) (by decide) (backOf (W := 0) (rm5N l Z a0 hw [] b5 i10 b3 q19 q21 b6_0 b6_1 b6_2 k6_0 k6_1 k6_2 (fun _ => .null) (fun _ => (.long (0 : Int64))) (fun _ => (.long (0 : Int64))) T6.heap n0 (by omega) Y122 Y6_0 Y6_3 Y6_1 Y6_5 Y6_2 Y6_6 Y6_4 Y123 Y124 Y125 Y126 (neN (by omega)) (neN (by omega)) (neN (by omega)) (neN (by omega)) (neN (by omega)) (neN (by omega)) (neN (by omega)) (neN (by omega)) (neN (by omega)) (by omega) (by omega) (by omega) (by first | assumption | decide)) hZ (ow hw 48 rfl) (ow hw 30 rfl) (by decide) (by decide)) q121a q121c (g := (mkF m 203 #[sI p0, sI p1, sI p2, sL q3, sS, sL q4, sS, sI p5, sI i8, sI i9, sI i10, sI i11, sI i12, sR ra, sN, sL q15, sS, sL q17, sS, sL q19, sS, sL q21, sS, sR b1, sR b3, sR b5, sR b5, sU] [(.ref b3), (.int i10), (.ref b5)])) rfl (by rw [hml]; rfl) (Steps.refl _) (argsL := [(.int i10), (.ref b3)]) (rest := []) (lenOf pd139B_2 rfl) rfl (by show 2 * 0 + _ ≤ _; exact Nat.le_of_eq rfl) (hb hby at_203) (fun vm₁ hvm => ⟨rfl, rfl, (by decide : 26 + 0 ≤ _), (by decide : 3281 + 0 ≤ _)⟩)
    dsimp only [Pt.U, Pt.locs, Pt.cells, Pt.slots] at X121 l121 y121 z121 st121 hQ121
    subst l121 y121 z121
    obtain ⟨rfl, N121q, K121, KF121, Y121_0, Y121_1, Y121_2⟩ := hQ121
    have sz121 : T6.heap.size ≤ T121.heap.size := K121.1
    have N121 := Fr.app N6 N121q
    refine GoW.trans st121 ?_
    show GoW p e below s _ _ _ (T121.setTop (mkF m 206 #[sI p0, sI p1, sI p2, sL q3, sS, sL q4, sS, sI p5, sI i8, sI i9, sI i10, sI i11, sI i12, sR ra, sN, sL q15, sS, sL q17, sS, sL q19, sS, sL q21, sS, sR b1, sR b3, sR b5, sR b5, sU] []))
    refine GoW.pre (st' := T121.setTop (mkF m 212 #[sI p0, sI p1, sI p2, sL q3, sS, sL q4, sS, sI p5, sI i8, sI i9, sI i10, sI i11, sI i12, sR ra, sN, sL q15, sS, sL q17, sS, sL q19, sS, sL q21, sS, sR b1, sR b3, sR b5, sR b5, sU] [(.ref b1), (.int i9), (.ref b5)])) (fun target kt => ?_) ?_
    · show Steps p.tables e below (T121.setTop (mkF m 206 #[sI p0, sI p1, sI p2, sL q3, sS, sL q4, sS, sI p5, sI i8, sI i9, sI i10, sI i11, sI i12, sR ra, sN, sL q15, sS, sL q17, sS, sL q19, sS, sL q21, sS, sR b1, sR b3, sR b5, sR b5, sU] [])) _
      refine XS.aload X121.here hx rfl (hb hby at_206) rfl rfl ?_
      refine XS.iload X121.here hx rfl (hb hby at_208) rfl ?_
      refine XS.aload X121.here hx rfl (hb hby at_210) rfl rfl ?_
      exact kt
    have Y128 : Exa Z T121.heap b5 "com/example/satzung/satzung/validate/PlacePage" := (Y122.keep K121)
    have Y129 : Fld Z T121.heap b5 "com/example/satzung/satzung/validate/PlacePage" "entities" "[Ljava/lang/String;" (.ref b6_0) := (Y6_0.keep K121 (ninS (neN (by omega)) (ninS (neN (by omega)) (ninS (neN (by omega)) nin0))))
    have Y130 : Fld Z T121.heap b5 "com/example/satzung/satzung/validate/PlacePage" "lines" "[J" (.ref b6_1) := (Y6_1.keep K121 (ninS (neN (by omega)) (ninS (neN (by omega)) (ninS (neN (by omega)) nin0))))
    have Y131 : Fld Z T121.heap b5 "com/example/satzung/satzung/validate/PlacePage" "columns" "[J" (.ref b6_2) := (Y6_2.keep K121 (ninS (neN (by omega)) (ninS (neN (by omega)) (ninS (neN (by omega)) nin0))))
    have Y132 : Exa Z T121.heap b1 "com/example/satzung/satzung/diagnostics/Location" := ((((((A1.keep K2).ext E3).keep K4).ext E5).keep K6).keep K121)
    have Y133 : Fld Z T121.heap b1 "com/example/satzung/satzung/diagnostics/Location" "entity" "Ljava/lang/String;" (.ref ra) := (((((Y2_0.ext E3).keep K4 (ninS (neN (by omega)) nin0)).ext E5).keep K6 (ninS (neN (by omega)) nin0)).keep K121 (ninS (neN (by omega)) (ninS (neN (by omega)) (ninS (neN (by omega)) nin0))))
    have Y134 : Fld Z T121.heap b1 "com/example/satzung/satzung/diagnostics/Location" "line" "J" (.long q15) := (((((Y2_1.ext E3).keep K4 (ninS (neN (by omega)) nin0)).ext E5).keep K6 (ninS (neN (by omega)) nin0)).keep K121 (ninS (neN (by omega)) (ninS (neN (by omega)) (ninS (neN (by omega)) nin0))))
    have Y135 : Fld Z T121.heap b1 "com/example/satzung/satzung/diagnostics/Location" "column" "J" (.long q17) := (((((Y2_2.ext E3).keep K4 (ninS (neN (by omega)) nin0)).ext E5).keep K6 (ninS (neN (by omega)) nin0)).keep K121 (ninS (neN (by omega)) (ninS (neN (by omega)) (ninS (neN (by omega)) nin0))))
    have Y136 : Exa Z T121.heap ra "java/lang/String" := (((((((E_ra.ext E1).keep K2).ext E3).keep K4).ext E5).keep K6).keep K121)
    obtain ⟨cq127, kq127, q127a, q127b, q127c⟩ := isOf hZ rfl Y128
    obtain ⟨_, _, ⟨T127, L127, k127, n127⟩, -, X127, ⟨Lc127, hQ127, l127, y127, z127⟩, st127⟩ := X121.virtualBack hx (y := (⟨"com/example/satzung/satzung/validate/PlacePage", "set", "(ILcom/example/satzung/satzung/diagnostics/Location;)V"⟩ : MethodName)) (z := (⟨"com/example/satzung/satzung/validate/PlacePage", "set", "(ILcom/example/satzung/satzung/diagnostics/Location;)V"⟩ : MethodName)) hown (mvT hZ (ow hw 44 rfl)) (mvT hZ (ow hw 45 rfl)) (notFace_of_selects (args := #[]) (mvT hZ (ow hw 47 rfl))) (mvT hZ (ow hw 47 rfl)) (mvT hZ (ow hw 46 rfl)) (by decide) (backOf (W := 0) (rm5R l Z a0 hw [] b5 i9 b1 ra q15 q17 b6_0 b6_1 b6_2 k6_0 k6_1 k6_2 (own_upd (fun _ => .null) i10 .null) (own_upd (fun _ => (.long (0 : Int64))) i10 (.long q19)) (own_upd (fun _ => (.long (0 : Int64))) i10 (.long q21)) T121.heap n0 (by omega) Y128 Y129 Y121_0 Y130 Y121_1 Y131 Y121_2 Y6_4 Y132 Y133 Y134 Y135 Y136 (neN (by omega)) (neN (by omega)) (neN (by omega)) (neN (by omega)) (neN (by omega)) (neN (by omega)) (neN (by omega)) (neN (by omega)) (neN (by omega)) (by omega) (by omega) (by omega) (by first | assumption | decide)) hZ (ow hw 48 rfl) (ow hw 30 rfl) (by decide) (by decide)) q127a q127c (g := (mkF m 212 #[sI p0, sI p1, sI p2, sL q3, sS, sL q4, sS, sI p5, sI i8, sI i9, sI i10, sI i11, sI i12, sR ra, sN, sL q15, sS, sL q17, sS, sL q19, sS, sL q21, sS, sR b1, sR b3, sR b5, sR b5, sU] [(.ref b1), (.int i9), (.ref b5)])) rfl (by rw [hml]; rfl) (Steps.refl _) (argsL := [(.int i9), (.ref b1)]) (rest := []) (lenOf pd139B_2 rfl) rfl (by show 2 * 0 + _ ≤ _; exact Nat.le_of_eq rfl) (hb hby at_212) (fun vm₁ hvm => ⟨rfl, rfl, (by decide : 26 + 0 ≤ _), (by decide : 3281 + 0 ≤ _)⟩)
    dsimp only [Pt.U, Pt.locs, Pt.cells, Pt.slots] at X127 l127 y127 z127 st127 hQ127
    subst l127 y127 z127
    obtain ⟨rfl, N127q, K127, KF127, Y127_0, Y127_1, Y127_2⟩ := hQ127
    have sz127 : T121.heap.size ≤ T127.heap.size := K127.1
    have N127 := Fr.app N121 N127q
    refine GoW.trans st127 ?_
    show GoW p e below s _ _ _ (T127.setTop (mkF m 215 #[sI p0, sI p1, sI p2, sL q3, sS, sL q4, sS, sI p5, sI i8, sI i9, sI i10, sI i11, sI i12, sR ra, sN, sL q15, sS, sL q17, sS, sL q19, sS, sL q21, sS, sR b1, sR b3, sR b5, sR b5, sU] []))
    refine GoW.pre (st' := T127.setTop (mkF m 223 #[sI p0, sI p1, sI p2, sL q3, sS, sL q4, sS, sI p5, sI i8, sI i9, sI i10, sI i11, sI i12, sR ra, sN, sL q15, sS, sL q17, sS, sL q19, sS, sL q21, sS, sR b1, sR b3, sR b5, sR b5, sU] [(.int i9), (.ref b5), (.int i8), (.ref b5)])) (fun target kt => ?_) ?_
    · show Steps p.tables e below (T127.setTop (mkF m 215 #[sI p0, sI p1, sI p2, sL q3, sS, sL q4, sS, sI p5, sI i8, sI i9, sI i10, sI i11, sI i12, sR ra, sN, sL q15, sS, sL q17, sS, sL q19, sS, sL q21, sS, sR b1, sR b3, sR b5, sR b5, sU] [])) _
      refine XS.aload X127.here hx rfl (hb hby at_215) rfl rfl ?_
      refine XS.iload X127.here hx rfl (hb hby at_217) rfl ?_
      refine XS.aload X127.here hx rfl (hb hby at_219) rfl rfl ?_
      refine XS.iload X127.here hx rfl (hb hby at_221) rfl ?_
      exact kt
    have Y138 : Exa Z T127.heap b5 "com/example/satzung/satzung/validate/PlacePage" := (Y128.keep K127)
    have Y139 : Fld Z T127.heap b5 "com/example/satzung/satzung/validate/PlacePage" "entities" "[Ljava/lang/String;" (.ref b6_0) := (Y129.keep K127 (ninS (neN (by omega)) (ninS (neN (by omega)) (ninS (neN (by omega)) nin0))))
    have Y140 : Fld Z T127.heap b5 "com/example/satzung/satzung/validate/PlacePage" "lines" "[J" (.ref b6_1) := (Y130.keep K127 (ninS (neN (by omega)) (ninS (neN (by omega)) (ninS (neN (by omega)) nin0))))
    have Y141 : Fld Z T127.heap b5 "com/example/satzung/satzung/validate/PlacePage" "columns" "[J" (.ref b6_2) := (Y131.keep K127 (ninS (neN (by omega)) (ninS (neN (by omega)) (ninS (neN (by omega)) nin0))))
    have Y142 : Exa Z T127.heap ra "java/lang/String" := (Y136.keep K127)
    obtain ⟨cq137, kq137, q137a, q137b, q137c⟩ := isOf hZ rfl Y138
    obtain ⟨_, _, ⟨T137, L137, k137, n137⟩, -, X137, ⟨Lc137, hQ137, l137, y137, z137⟩, st137⟩ := X127.virtualBack hx (y := (⟨"com/example/satzung/satzung/validate/PlacePage", "set", "(ILcom/example/satzung/satzung/validate/PlacePage;I)V"⟩ : MethodName)) (z := (⟨"com/example/satzung/satzung/validate/PlacePage", "set", "(ILcom/example/satzung/satzung/validate/PlacePage;I)V"⟩ : MethodName)) hown (mvT hZ (ow hw 65 rfl)) (mvT hZ (ow hw 66 rfl)) (notFace_of_selects (args := #[]) (mvT hZ (ow hw 68 rfl))) (mvT hZ (ow hw 68 rfl)) (mvT hZ (ow hw 67 rfl)) (by decide) (backOf (W := 0) (rm9sR l Z a0 hw [] b5 i8 i9 ra q15 q17 b6_0 b6_1 b6_2 k6_0 k6_1 k6_2 (own_upd (own_upd (fun _ => .null) i10 .null) i9 (.ref ra)) (own_upd (own_upd (fun _ => (.long (0 : Int64))) i10 (.long q19)) i9 (.long q15)) (own_upd (own_upd (fun _ => (.long (0 : Int64))) i10 (.long q21)) i9 (.long q17)) T127.heap n0 (by omega) Y138 Y139 Y127_0 Y140 Y127_1 Y141 Y127_2 Y6_4 (own_hit _ _ _) (own_hit _ _ _) (own_hit _ _ _) Y142 (neN (by omega)) (neN (by omega)) (neN (by omega)) (neN (by omega)) (neN (by omega)) (neN (by omega)) (by omega) (by omega) (by omega) (by first | assumption | decide) (by first | assumption | decide)) hZ (ow hw 69 rfl) (ow hw 30 rfl) (by decide) (by decide)) q137a q137c (g := (mkF m 223 #[sI p0, sI p1, sI p2, sL q3, sS, sL q4, sS, sI p5, sI i8, sI i9, sI i10, sI i11, sI i12, sR ra, sN, sL q15, sS, sL q17, sS, sL q19, sS, sL q21, sS, sR b1, sR b3, sR b5, sR b5, sU] [(.int i9), (.ref b5), (.int i8), (.ref b5)])) rfl (by rw [hml]; rfl) (Steps.refl _) (argsL := [(.int i8), (.ref b5), (.int i9)]) (rest := []) (lenOf pd139B_3 rfl) rfl (by show 2 * 0 + _ ≤ _; exact Nat.le_of_eq rfl) (hb hby at_223) (fun vm₁ hvm => ⟨rfl, rfl, (by decide : 26 + 0 ≤ _), (by decide : 3281 + 0 ≤ _)⟩)
    dsimp only [Pt.U, Pt.locs, Pt.cells, Pt.slots] at X137 l137 y137 z137 st137 hQ137
    subst l137 y137 z137
    obtain ⟨rfl, N137q, K137, KF137, Y137_0, Y137_1, Y137_2⟩ := hQ137
    have sz137 : T127.heap.size ≤ T137.heap.size := K137.1
    have N137 := Fr.app N127 N137q
    refine GoW.trans st137 ?_
    show GoW p e below s _ _ _ (T137.setTop (mkF m 226 #[sI p0, sI p1, sI p2, sL q3, sS, sL q4, sS, sI p5, sI i8, sI i9, sI i10, sI i11, sI i12, sR ra, sN, sL q15, sS, sL q17, sS, sL q19, sS, sL q21, sS, sR b1, sR b3, sR b5, sR b5, sU] []))
    refine GoW.pre (st' := T137.setTop (mkF m 230 #[sI p0, sI p1, sI p2, sL q3, sS, sL q4, sS, sI p5, sI i8, sI i9, sI i10, sI i11, sI i12, sR ra, sN, sL q15, sS, sL q17, sS, sL q19, sS, sL q21, sS, sR b1, sR b3, sR b5, sR b5, sU] [(.int i8), (.int i10)])) (fun target kt => ?_) ?_
    · show Steps p.tables e below (T137.setTop (mkF m 226 #[sI p0, sI p1, sI p2, sL q3, sS, sL q4, sS, sI p5, sI i8, sI i9, sI i10, sI i11, sI i12, sR ra, sN, sL q15, sS, sL q17, sS, sL q19, sS, sL q21, sS, sR b1, sR b3, sR b5, sR b5, sU] [])) _
      refine XS.iload X137.here hx rfl (hb hby at_226) rfl ?_
      refine XS.iload X137.here hx rfl (hb hby at_228) rfl ?_
      exact kt
    by_cases h230_143 : i10 = i8
    · refine GoW.pre (st' := T137.setTop (mkF m 245 #[sI p0, sI p1, sI p2, sL q3, sS, sL q4, sS, sI p5, sI i8, sI i9, sI i10, sI i11, sI i12, sR ra, sN, sL q15, sS, sL q17, sS, sL q19, sS, sL q21, sS, sR b1, sR b3, sR b5, sR b5, sU] [])) (fun target kt => ?_) ?_
      · show Steps p.tables e below (T137.setTop (mkF m 230 #[sI p0, sI p1, sI p2, sL q3, sS, sL q4, sS, sI p5, sI i8, sI i9, sI i10, sI i11, sI i12, sR ra, sN, sL q15, sS, sL q17, sS, sL q19, sS, sL q21, sS, sR b1, sR b3, sR b5, sR b5, sU] [(.int i8), (.int i10)])) _
        refine XS.icmpYes X137.here hx rfl (pc0 := 230) (pc' := 245) rfl (hb hby at_230) rfl (teq h230_143).1 (by decide) (by decide) ?_
        exact kt
      refine GoW.pre (st' := T137.setTop (mkF m 258 #[sI p0, sI p1, sI p2, sL q3, sS, sL q4, sS, sI p5, sI i8, sI i9, sI i10, sI i11, sI i12, sR ra, sN, sL q15, sS, sL q17, sS, sL q19, sS, sL q21, sS, sR b1, sR b3, sR b5, sR b5, sR b1] [(.int i8), (.ref b5)])) (fun target kt => ?_) ?_
      · show Steps p.tables e below (T137.setTop (mkF m 245 #[sI p0, sI p1, sI p2, sL q3, sS, sL q4, sS, sI p5, sI i8, sI i9, sI i10, sI i11, sI i12, sR ra, sN, sL q15, sS, sL q17, sS, sL q19, sS, sL q21, sS, sR b1, sR b3, sR b5, sR b5, sU] [])) _
        refine XS.aload X137.here hx rfl (hb hby at_245) rfl rfl ?_
        refine XS.goto X137.here hx rfl (pc0 := 247) (pc' := 252) rfl (hb hby at_247) (by decide) (by decide) ?_
        refine XS.astore X137.here hx rfl (hb hby at_252) rfl rfl (l' := #[.val (.int p0), .val (.int p1), .val (.int p2), .val (.long q3), .second, .val (.long q4), .second, .val (.int p5), .val (.int i8), .val (.int i9), .val (.int i10), .val (.int i11), .val (.int i12), .val (.ref ra), .val .null, .val (.long q15), .second, .val (.long q17), .second, .val (.long q19), .second, .val (.long q21), .second, .val (.ref b1), .val (.ref b3), .val (.ref b5), .val (.ref b5), .val (.ref b1)]) rfl ?_
        refine XS.aload X137.here hx rfl (hb hby at_254) rfl rfl ?_
        refine XS.iload X137.here hx rfl (hb hby at_256) rfl ?_
        exact kt
      have Y145 : Exa Z T137.heap b5 "com/example/satzung/satzung/validate/PlacePage" := (Y138.keep K137)
      have Y146 : Fld Z T137.heap b5 "com/example/satzung/satzung/validate/PlacePage" "entities" "[Ljava/lang/String;" (.ref b6_0) := (Y139.keep K137 (ninS (neN (by omega)) (ninS (neN (by omega)) (ninS (neN (by omega)) nin0))))
      have Y147 : Fld Z T137.heap b5 "com/example/satzung/satzung/validate/PlacePage" "lines" "[J" (.ref b6_1) := (Y140.keep K137 (ninS (neN (by omega)) (ninS (neN (by omega)) (ninS (neN (by omega)) nin0))))
      have Y148 : Fld Z T137.heap b5 "com/example/satzung/satzung/validate/PlacePage" "columns" "[J" (.ref b6_2) := (Y141.keep K137 (ninS (neN (by omega)) (ninS (neN (by omega)) (ninS (neN (by omega)) nin0))))
      obtain ⟨cq144, kq144, q144a, q144b, q144c⟩ := isOf hZ rfl Y145
      obtain ⟨_, _, ⟨T144, L144, k144, n144⟩, -, X144, ⟨Lc144, hQ144, l144, y144, z144⟩, st144⟩ := X137.virtualBack hx (y := (⟨"com/example/satzung/satzung/validate/PlacePage", "get", "(I)Lcom/example/satzung/satzung/diagnostics/Location;"⟩ : MethodName)) (z := (⟨"com/example/satzung/satzung/validate/PlacePage", "get", "(I)Lcom/example/satzung/satzung/diagnostics/Location;"⟩ : MethodName)) hown (mvT hZ (ow hw 70 rfl)) (mvT hZ (ow hw 71 rfl)) (notFace_of_selects (args := #[]) (mvT hZ (ow hw 73 rfl))) (mvT hZ (ow hw 73 rfl)) (mvT hZ (ow hw 72 rfl)) (by decide) (backOf (W := 0) (rm10R l Z a0 hw [] b5 i8 ra q15 q17 b6_0 b6_1 b6_2 k6_0 k6_1 k6_2 (own_upd (own_upd (own_upd (fun _ => .null) i10 .null) i9 (.ref ra)) i8 (.ref ra)) (own_upd (own_upd (own_upd (fun _ => (.long (0 : Int64))) i10 (.long q19)) i9 (.long q15)) i8 (.long q15)) (own_upd (own_upd (own_upd (fun _ => (.long (0 : Int64))) i10 (.long q21)) i9 (.long q17)) i8 (.long q17)) T137.heap n0 (by omega) Y145 Y146 Y137_0 Y147 Y137_1 Y148 Y137_2 Y6_4 (own_hit _ _ _) (own_hit _ _ _) (own_hit _ _ _) (by first | assumption | decide) (by first | assumption | decide) (by first | assumption | decide)) hZ (ow hw 74 rfl) (ow hw 30 rfl) (by decide) (by decide)) q144a q144c (g := (mkF m 258 #[sI p0, sI p1, sI p2, sL q3, sS, sL q4, sS, sI p5, sI i8, sI i9, sI i10, sI i11, sI i12, sR ra, sN, sL q15, sS, sL q17, sS, sL q19, sS, sL q21, sS, sR b1, sR b3, sR b5, sR b5, sR b1] [(.int i8), (.ref b5)])) rfl (by rw [hml]; rfl) (Steps.refl _) (argsL := [(.int i8)]) (rest := []) (lenOf pd139B_4 rfl) rfl (by show 2 * 0 + _ ≤ _; exact Nat.le_of_eq rfl) (hb hby at_258) (fun vm₁ hvm => ⟨rfl, rfl, (by decide : 26 + 1 ≤ _), (by decide : 3281 + 3 ≤ _)⟩)
      dsimp only [Pt.U, Pt.locs, Pt.cells, Pt.slots] at X144 l144 y144 z144 st144 hQ144
      subst l144 y144 z144
      obtain ⟨b144_0, rfl, N144q, K144, KF144, gb144_0, ltb144_0, Y144_0, Y144_1, Y144_2, Y144_3⟩ := hQ144
      have sz144 : T137.heap.size ≤ T144.heap.size := K144.1
      have N144 := Fr.app N137 N144q
      refine GoW.trans st144 ?_
      show GoW p e below s _ _ _ (T144.setTop (mkF m 261 #[sI p0, sI p1, sI p2, sL q3, sS, sL q4, sS, sI p5, sI i8, sI i9, sI i10, sI i11, sI i12, sR ra, sN, sL q15, sS, sL q17, sS, sL q19, sS, sL q21, sS, sR b1, sR b3, sR b5, sR b5, sR b1] [(.ref b144_0)]))
      refine GoW.pre (st' := T144.setTop (mkF m 263 #[sI p0, sI p1, sI p2, sL q3, sS, sL q4, sS, sI p5, sI i8, sI i9, sI i10, sI i11, sI i12, sR ra, sN, sL q15, sS, sL q17, sS, sL q19, sS, sL q21, sS, sR b1, sR b3, sR b5, sR b5, sR b1] [(.ref b1), (.ref b144_0)])) (fun target kt => ?_) ?_
      · show Steps p.tables e below (T144.setTop (mkF m 261 #[sI p0, sI p1, sI p2, sL q3, sS, sL q4, sS, sI p5, sI i8, sI i9, sI i10, sI i11, sI i12, sR ra, sN, sL q15, sS, sL q17, sS, sL q19, sS, sL q21, sS, sR b1, sR b3, sR b5, sR b5, sR b1] [(.ref b144_0)])) _
        refine XS.aload X144.here hx rfl (hb hby at_261) rfl rfl ?_
        exact kt
      have Y150 : Exa Z T144.heap b1 "com/example/satzung/satzung/diagnostics/Location" := (((Y132.keep K127).keep K137).keep K144)
      have Y151 : Fld Z T144.heap b1 "com/example/satzung/satzung/diagnostics/Location" "entity" "Ljava/lang/String;" (.ref ra) := (((Y133.keep K127 (ninS (neN (by omega)) (ninS (neN (by omega)) (ninS (neN (by omega)) nin0)))).keep K137 (ninS (neN (by omega)) (ninS (neN (by omega)) (ninS (neN (by omega)) nin0)))).keep K144 nin0)
      have Y152 : Fld Z T144.heap b1 "com/example/satzung/satzung/diagnostics/Location" "line" "J" (.long q15) := (((Y134.keep K127 (ninS (neN (by omega)) (ninS (neN (by omega)) (ninS (neN (by omega)) nin0)))).keep K137 (ninS (neN (by omega)) (ninS (neN (by omega)) (ninS (neN (by omega)) nin0)))).keep K144 nin0)
      have Y153 : Fld Z T144.heap b1 "com/example/satzung/satzung/diagnostics/Location" "column" "J" (.long q17) := (((Y135.keep K127 (ninS (neN (by omega)) (ninS (neN (by omega)) (ninS (neN (by omega)) nin0)))).keep K137 (ninS (neN (by omega)) (ninS (neN (by omega)) (ninS (neN (by omega)) nin0)))).keep K144 nin0)
      obtain ⟨cq149, kq149, q149a, q149b, q149c⟩ := isOf hZ rfl Y144_0
      obtain ⟨_, _, ⟨T149, L149, k149, n149⟩, -, X149, ⟨Lc149, hQ149, l149, y149, z149⟩, st149⟩ := X144.virtualBack hx (y := (⟨"com/example/satzung/satzung/diagnostics/Location", "equals", "(Ljava/lang/Object;)Z"⟩ : MethodName)) (z := (⟨"com/example/satzung/satzung/diagnostics/Location", "equals", "(Ljava/lang/Object;)Z"⟩ : MethodName)) hown (mvT hZ (ow hw 77 rfl)) (mvT hZ (ow hw 78 rfl)) (notFace_of_selects (args := #[]) (mvT hZ (ow hw 80 rfl))) (mvT hZ (ow hw 80 rfl)) (mvT hZ (ow hw 79 rfl)) (by decide) (backOf (W := 0) (rm11R l Z a0 hw [] b144_0 b1 ra q15 q17 T144.heap n0 (by omega) Y144_0 Y144_1 Y144_2 Y144_3 Y150 Y151 Y152 Y153) hZ (ow hw 81 rfl) (ow hw 15 rfl) (by decide) (by decide)) q149a q149c (g := (mkF m 263 #[sI p0, sI p1, sI p2, sL q3, sS, sL q4, sS, sI p5, sI i8, sI i9, sI i10, sI i11, sI i12, sR ra, sN, sL q15, sS, sL q17, sS, sL q19, sS, sL q21, sS, sR b1, sR b3, sR b5, sR b5, sR b1] [(.ref b1), (.ref b144_0)])) rfl (by rw [hml]; rfl) (Steps.refl _) (argsL := [(.ref b1)]) (rest := []) (lenOf pd139B_5 rfl) rfl (by show 2 * 0 + _ ≤ _; exact Nat.le_of_eq rfl) (hb hby at_263) (fun vm₁ hvm => ⟨rfl, rfl, (by decide : 27 + 0 ≤ _), (by decide : 3284 + 0 ≤ _)⟩)
      dsimp only [Pt.U, Pt.locs, Pt.cells, Pt.slots] at X149 l149 y149 z149 st149 hQ149
      subst l149 y149 z149
      obtain ⟨rfl, N149q, e149⟩ := hQ149
      have N149 := Fr.app N144 N149q
      refine GoW.trans st149 ?_
      show GoW p e below s _ _ _ (T149.setTop (mkF m 266 #[sI p0, sI p1, sI p2, sL q3, sS, sL q4, sS, sI p5, sI i8, sI i9, sI i10, sI i11, sI i12, sR ra, sN, sL q15, sS, sL q17, sS, sL q19, sS, sL q21, sS, sR b1, sR b3, sR b5, sR b5, sR b1] [(.int (1 : Int32))]))
      refine GoW.pre (st' := T149.setTop (mkF m 273 #[sI p0, sI p1, sI p2, sL q3, sS, sL q4, sS, sI p5, sI i8, sI i9, sI i10, sI i11, sI i12, sR ra, sN, sL q15, sS, sL q17, sS, sL q19, sS, sL q21, sS, sR b1, sR b3, sR b5, sR b5, sR b1] [(.int i10), (.ref b5)])) (fun target kt => ?_) ?_
      · show Steps p.tables e below (T149.setTop (mkF m 266 #[sI p0, sI p1, sI p2, sL q3, sS, sL q4, sS, sI p5, sI i8, sI i9, sI i10, sI i11, sI i12, sR ra, sN, sL q15, sS, sL q17, sS, sL q19, sS, sL q21, sS, sR b1, sR b3, sR b5, sR b5, sR b1] [(.int (1 : Int32))])) _
        refine XS.ifNo X149.here hx rfl (hb hby at_266) rfl ((if0 _ _).trans (feq (by decide)).1) ?_
        refine XS.aload X149.here hx rfl (hb hby at_269) rfl rfl ?_
        refine XS.iload X149.here hx rfl (hb hby at_271) rfl ?_
        exact kt
      have Y155 : Exa Z T144.heap b5 "com/example/satzung/satzung/validate/PlacePage" := (Y145.keep K144)
      have Y156 : Fld Z T144.heap b5 "com/example/satzung/satzung/validate/PlacePage" "entities" "[Ljava/lang/String;" (.ref b6_0) := (Y146.keep K144 nin0)
      have Y157 : Arf Z T144.heap b6_0 k6_0 (.object "java/lang/String") (1024 : Int32) (own_upd (own_upd (own_upd (fun _ => .null) i10 .null) i9 (.ref ra)) i8 (.ref ra)) := (Y137_0.keep K144 nin0)
      have Y158 : Fld Z T144.heap b5 "com/example/satzung/satzung/validate/PlacePage" "lines" "[J" (.ref b6_1) := (Y147.keep K144 nin0)
      have Y159 : Arf Z T144.heap b6_1 k6_1 .long (1024 : Int32) (own_upd (own_upd (own_upd (fun _ => (.long (0 : Int64))) i10 (.long q19)) i9 (.long q15)) i8 (.long q15)) := (Y137_1.keep K144 nin0)
      have Y160 : Fld Z T144.heap b5 "com/example/satzung/satzung/validate/PlacePage" "columns" "[J" (.ref b6_2) := (Y148.keep K144 nin0)
      have Y161 : Arf Z T144.heap b6_2 k6_2 .long (1024 : Int32) (own_upd (own_upd (own_upd (fun _ => (.long (0 : Int64))) i10 (.long q21)) i9 (.long q17)) i8 (.long q17)) := (Y137_2.keep K144 nin0)
      obtain ⟨cq154, kq154, q154a, q154b, q154c⟩ := isOf hZ e149 Y155
      obtain ⟨_, _, ⟨T154, L154, k154, n154⟩, -, X154, ⟨Lc154, hQ154, l154, y154, z154⟩, st154⟩ := X149.virtualBack hx (y := (⟨"com/example/satzung/satzung/validate/PlacePage", "get", "(I)Lcom/example/satzung/satzung/diagnostics/Location;"⟩ : MethodName)) (z := (⟨"com/example/satzung/satzung/validate/PlacePage", "get", "(I)Lcom/example/satzung/satzung/diagnostics/Location;"⟩ : MethodName)) hown (mvT hZ (ow hw 70 rfl)) (mvT hZ (ow hw 71 rfl)) (notFace_of_selects (args := #[]) (mvT hZ (ow hw 73 rfl))) (mvT hZ (ow hw 73 rfl)) (mvT hZ (ow hw 72 rfl)) (by decide) (backOf (W := 0) (rm10R l Z a0 hw [] b5 i10 ra q15 q17 b6_0 b6_1 b6_2 k6_0 k6_1 k6_2 (own_upd (own_upd (own_upd (fun _ => .null) i10 .null) i9 (.ref ra)) i8 (.ref ra)) (own_upd (own_upd (own_upd (fun _ => (.long (0 : Int64))) i10 (.long q19)) i9 (.long q15)) i8 (.long q15)) (own_upd (own_upd (own_upd (fun _ => (.long (0 : Int64))) i10 (.long q21)) i9 (.long q17)) i8 (.long q17)) T144.heap n0 (by omega) Y155 Y156 Y157 Y158 Y159 Y160 Y161 Y6_4 (own_at h230_143) (own_at h230_143) (own_at h230_143) (by first | assumption | decide) (by first | assumption | decide) (by first | assumption | decide)) hZ (ow hw 74 rfl) (ow hw 30 rfl) (by decide) (by decide)) q154a q154c (g := (mkF m 273 #[sI p0, sI p1, sI p2, sL q3, sS, sL q4, sS, sI p5, sI i8, sI i9, sI i10, sI i11, sI i12, sR ra, sN, sL q15, sS, sL q17, sS, sL q19, sS, sL q21, sS, sR b1, sR b3, sR b5, sR b5, sR b1] [(.int i10), (.ref b5)])) rfl (by rw [hml]; rfl) (Steps.refl _) (argsL := [(.int i10)]) (rest := []) (lenOf pd139B_4 rfl) rfl (by show 2 * 0 + _ ≤ _; exact Nat.le_of_eq rfl) (hb hby at_273) (fun vm₁ hvm => ⟨rfl, e149, (by decide : 27 + 1 ≤ _), (by decide : 3284 + 3 ≤ _)⟩)
      dsimp only [Pt.U, Pt.locs, Pt.cells, Pt.slots] at X154 l154 y154 z154 st154 hQ154
      subst l154 y154 z154
      obtain ⟨b154_0, rfl, N154q, K154, KF154, gb154_0, ltb154_0, Y154_0, Y154_1, Y154_2, Y154_3⟩ := hQ154
      have sz154 : T144.heap.size ≤ T154.heap.size := K154.1
      have N154 := Fr.app N149 N154q
      refine GoW.trans st154 ?_
      show GoW p e below s _ _ _ (T154.setTop (mkF m 276 #[sI p0, sI p1, sI p2, sL q3, sS, sL q4, sS, sI p5, sI i8, sI i9, sI i10, sI i11, sI i12, sR ra, sN, sL q15, sS, sL q17, sS, sL q19, sS, sL q21, sS, sR b1, sR b3, sR b5, sR b5, sR b1] [(.ref b154_0)]))
      refine GoW.pre (st' := T154.setTop (mkF m 278 #[sI p0, sI p1, sI p2, sL q3, sS, sL q4, sS, sI p5, sI i8, sI i9, sI i10, sI i11, sI i12, sR ra, sN, sL q15, sS, sL q17, sS, sL q19, sS, sL q21, sS, sR b1, sR b3, sR b5, sR b5, sR b1] [(.ref b1), (.ref b154_0)])) (fun target kt => ?_) ?_
      · show Steps p.tables e below (T154.setTop (mkF m 276 #[sI p0, sI p1, sI p2, sL q3, sS, sL q4, sS, sI p5, sI i8, sI i9, sI i10, sI i11, sI i12, sR ra, sN, sL q15, sS, sL q17, sS, sL q19, sS, sL q21, sS, sR b1, sR b3, sR b5, sR b5, sR b1] [(.ref b154_0)])) _
        refine XS.aload X154.here hx rfl (hb hby at_276) rfl rfl ?_
        exact kt
      have Y163 : Exa Z T154.heap b1 "com/example/satzung/satzung/diagnostics/Location" := (Y150.keep K154)
      have Y164 : Fld Z T154.heap b1 "com/example/satzung/satzung/diagnostics/Location" "entity" "Ljava/lang/String;" (.ref ra) := (Y151.keep K154 nin0)
      have Y165 : Fld Z T154.heap b1 "com/example/satzung/satzung/diagnostics/Location" "line" "J" (.long q15) := (Y152.keep K154 nin0)
      have Y166 : Fld Z T154.heap b1 "com/example/satzung/satzung/diagnostics/Location" "column" "J" (.long q17) := (Y153.keep K154 nin0)
      obtain ⟨cq162, kq162, q162a, q162b, q162c⟩ := isOf hZ rfl Y154_0
      obtain ⟨_, _, ⟨T162, L162, k162, n162⟩, -, X162, ⟨Lc162, hQ162, l162, y162, z162⟩, st162⟩ := X154.virtualBack hx (y := (⟨"com/example/satzung/satzung/diagnostics/Location", "equals", "(Ljava/lang/Object;)Z"⟩ : MethodName)) (z := (⟨"com/example/satzung/satzung/diagnostics/Location", "equals", "(Ljava/lang/Object;)Z"⟩ : MethodName)) hown (mvT hZ (ow hw 77 rfl)) (mvT hZ (ow hw 78 rfl)) (notFace_of_selects (args := #[]) (mvT hZ (ow hw 80 rfl))) (mvT hZ (ow hw 80 rfl)) (mvT hZ (ow hw 79 rfl)) (by decide) (backOf (W := 0) (rm11R l Z a0 hw [] b154_0 b1 ra q15 q17 T154.heap n0 (by omega) Y154_0 Y154_1 Y154_2 Y154_3 Y163 Y164 Y165 Y166) hZ (ow hw 81 rfl) (ow hw 15 rfl) (by decide) (by decide)) q162a q162c (g := (mkF m 278 #[sI p0, sI p1, sI p2, sL q3, sS, sL q4, sS, sI p5, sI i8, sI i9, sI i10, sI i11, sI i12, sR ra, sN, sL q15, sS, sL q17, sS, sL q19, sS, sL q21, sS, sR b1, sR b3, sR b5, sR b5, sR b1] [(.ref b1), (.ref b154_0)])) rfl (by rw [hml]; rfl) (Steps.refl _) (argsL := [(.ref b1)]) (rest := []) (lenOf pd139B_5 rfl) rfl (by show 2 * 0 + _ ≤ _; exact Nat.le_of_eq rfl) (hb hby at_278) (fun vm₁ hvm => ⟨rfl, rfl, (by decide : 28 + 0 ≤ _), (by decide : 3287 + 0 ≤ _)⟩)
      dsimp only [Pt.U, Pt.locs, Pt.cells, Pt.slots] at X162 l162 y162 z162 st162 hQ162
      subst l162 y162 z162
      obtain ⟨rfl, N162q, e162⟩ := hQ162
      have N162 := Fr.app N154 N162q
      refine GoW.trans st162 ?_
      show GoW p e below s _ _ _ (T162.setTop (mkF m 281 #[sI p0, sI p1, sI p2, sL q3, sS, sL q4, sS, sI p5, sI i8, sI i9, sI i10, sI i11, sI i12, sR ra, sN, sL q15, sS, sL q17, sS, sL q19, sS, sL q21, sS, sR b1, sR b3, sR b5, sR b5, sR b1] [(.int (1 : Int32))]))
      refine GoW.pre (st' := T162.setTop (mkF m 288 #[sI p0, sI p1, sI p2, sL q3, sS, sL q4, sS, sI p5, sI i8, sI i9, sI i10, sI i11, sI i12, sR ra, sN, sL q15, sS, sL q17, sS, sL q19, sS, sL q21, sS, sR b1, sR b3, sR b5, sR b5, sR b1] [(.int i9), (.ref b5)])) (fun target kt => ?_) ?_
      · show Steps p.tables e below (T162.setTop (mkF m 281 #[sI p0, sI p1, sI p2, sL q3, sS, sL q4, sS, sI p5, sI i8, sI i9, sI i10, sI i11, sI i12, sR ra, sN, sL q15, sS, sL q17, sS, sL q19, sS, sL q21, sS, sR b1, sR b3, sR b5, sR b5, sR b1] [(.int (1 : Int32))])) _
        refine XS.ifNo X162.here hx rfl (hb hby at_281) rfl ((if0 _ _).trans (feq (by decide)).1) ?_
        refine XS.aload X162.here hx rfl (hb hby at_284) rfl rfl ?_
        refine XS.iload X162.here hx rfl (hb hby at_286) rfl ?_
        exact kt
      have Y168 : Exa Z T154.heap b5 "com/example/satzung/satzung/validate/PlacePage" := (Y155.keep K154)
      have Y169 : Fld Z T154.heap b5 "com/example/satzung/satzung/validate/PlacePage" "entities" "[Ljava/lang/String;" (.ref b6_0) := (Y156.keep K154 nin0)
      have Y170 : Arf Z T154.heap b6_0 k6_0 (.object "java/lang/String") (1024 : Int32) (own_upd (own_upd (own_upd (fun _ => .null) i10 .null) i9 (.ref ra)) i8 (.ref ra)) := (Y157.keep K154 nin0)
      have Y171 : Fld Z T154.heap b5 "com/example/satzung/satzung/validate/PlacePage" "lines" "[J" (.ref b6_1) := (Y158.keep K154 nin0)
      have Y172 : Arf Z T154.heap b6_1 k6_1 .long (1024 : Int32) (own_upd (own_upd (own_upd (fun _ => (.long (0 : Int64))) i10 (.long q19)) i9 (.long q15)) i8 (.long q15)) := (Y159.keep K154 nin0)
      have Y173 : Fld Z T154.heap b5 "com/example/satzung/satzung/validate/PlacePage" "columns" "[J" (.ref b6_2) := (Y160.keep K154 nin0)
      have Y174 : Arf Z T154.heap b6_2 k6_2 .long (1024 : Int32) (own_upd (own_upd (own_upd (fun _ => (.long (0 : Int64))) i10 (.long q21)) i9 (.long q17)) i8 (.long q17)) := (Y161.keep K154 nin0)
      obtain ⟨cq167, kq167, q167a, q167b, q167c⟩ := isOf hZ e162 Y168
      obtain ⟨_, _, ⟨T167, L167, k167, n167⟩, -, X167, ⟨Lc167, hQ167, l167, y167, z167⟩, st167⟩ := X162.virtualBack hx (y := (⟨"com/example/satzung/satzung/validate/PlacePage", "get", "(I)Lcom/example/satzung/satzung/diagnostics/Location;"⟩ : MethodName)) (z := (⟨"com/example/satzung/satzung/validate/PlacePage", "get", "(I)Lcom/example/satzung/satzung/diagnostics/Location;"⟩ : MethodName)) hown (mvT hZ (ow hw 70 rfl)) (mvT hZ (ow hw 71 rfl)) (notFace_of_selects (args := #[]) (mvT hZ (ow hw 73 rfl))) (mvT hZ (ow hw 73 rfl)) (mvT hZ (ow hw 72 rfl)) (by decide) (backOf (W := 0) (rm10R l Z a0 hw [] b5 i9 ra q15 q17 b6_0 b6_1 b6_2 k6_0 k6_1 k6_2 (own_upd (own_upd (own_upd (fun _ => .null) i10 .null) i9 (.ref ra)) i8 (.ref ra)) (own_upd (own_upd (own_upd (fun _ => (.long (0 : Int64))) i10 (.long q19)) i9 (.long q15)) i8 (.long q15)) (own_upd (own_upd (own_upd (fun _ => (.long (0 : Int64))) i10 (.long q21)) i9 (.long q17)) i8 (.long q17)) T154.heap n0 (by omega) Y168 Y169 Y170 Y171 Y172 Y173 Y174 Y6_4 (own_or (own_hit _ _ _)) (own_or (own_hit _ _ _)) (own_or (own_hit _ _ _)) (by first | assumption | decide) (by first | assumption | decide) (by first | assumption | decide)) hZ (ow hw 74 rfl) (ow hw 30 rfl) (by decide) (by decide)) q167a q167c (g := (mkF m 288 #[sI p0, sI p1, sI p2, sL q3, sS, sL q4, sS, sI p5, sI i8, sI i9, sI i10, sI i11, sI i12, sR ra, sN, sL q15, sS, sL q17, sS, sL q19, sS, sL q21, sS, sR b1, sR b3, sR b5, sR b5, sR b1] [(.int i9), (.ref b5)])) rfl (by rw [hml]; rfl) (Steps.refl _) (argsL := [(.int i9)]) (rest := []) (lenOf pd139B_4 rfl) rfl (by show 2 * 0 + _ ≤ _; exact Nat.le_of_eq rfl) (hb hby at_288) (fun vm₁ hvm => ⟨rfl, e162, (by decide : 28 + 1 ≤ _), (by decide : 3287 + 3 ≤ _)⟩)
      dsimp only [Pt.U, Pt.locs, Pt.cells, Pt.slots] at X167 l167 y167 z167 st167 hQ167
      subst l167 y167 z167
      obtain ⟨b167_0, rfl, N167q, K167, KF167, gb167_0, ltb167_0, Y167_0, Y167_1, Y167_2, Y167_3⟩ := hQ167
      have sz167 : T154.heap.size ≤ T167.heap.size := K167.1
      have N167 := Fr.app N162 N167q
      refine GoW.trans st167 ?_
      show GoW p e below s _ _ _ (T167.setTop (mkF m 291 #[sI p0, sI p1, sI p2, sL q3, sS, sL q4, sS, sI p5, sI i8, sI i9, sI i10, sI i11, sI i12, sR ra, sN, sL q15, sS, sL q17, sS, sL q19, sS, sL q21, sS, sR b1, sR b3, sR b5, sR b5, sR b1] [(.ref b167_0)]))
      refine GoW.pre (st' := T167.setTop (mkF m 293 #[sI p0, sI p1, sI p2, sL q3, sS, sL q4, sS, sI p5, sI i8, sI i9, sI i10, sI i11, sI i12, sR ra, sN, sL q15, sS, sL q17, sS, sL q19, sS, sL q21, sS, sR b1, sR b3, sR b5, sR b5, sR b1] [(.ref b1), (.ref b167_0)])) (fun target kt => ?_) ?_
      · show Steps p.tables e below (T167.setTop (mkF m 291 #[sI p0, sI p1, sI p2, sL q3, sS, sL q4, sS, sI p5, sI i8, sI i9, sI i10, sI i11, sI i12, sR ra, sN, sL q15, sS, sL q17, sS, sL q19, sS, sL q21, sS, sR b1, sR b3, sR b5, sR b5, sR b1] [(.ref b167_0)])) _
        refine XS.aload X167.here hx rfl (hb hby at_291) rfl rfl ?_
        exact kt
      have Y176 : Exa Z T167.heap b1 "com/example/satzung/satzung/diagnostics/Location" := (Y163.keep K167)
      have Y177 : Fld Z T167.heap b1 "com/example/satzung/satzung/diagnostics/Location" "entity" "Ljava/lang/String;" (.ref ra) := (Y164.keep K167 nin0)
      have Y178 : Fld Z T167.heap b1 "com/example/satzung/satzung/diagnostics/Location" "line" "J" (.long q15) := (Y165.keep K167 nin0)
      have Y179 : Fld Z T167.heap b1 "com/example/satzung/satzung/diagnostics/Location" "column" "J" (.long q17) := (Y166.keep K167 nin0)
      obtain ⟨cq175, kq175, q175a, q175b, q175c⟩ := isOf hZ rfl Y167_0
      obtain ⟨_, _, ⟨T175, L175, k175, n175⟩, -, X175, ⟨Lc175, hQ175, l175, y175, z175⟩, st175⟩ := X167.virtualBack hx (y := (⟨"com/example/satzung/satzung/diagnostics/Location", "equals", "(Ljava/lang/Object;)Z"⟩ : MethodName)) (z := (⟨"com/example/satzung/satzung/diagnostics/Location", "equals", "(Ljava/lang/Object;)Z"⟩ : MethodName)) hown (mvT hZ (ow hw 77 rfl)) (mvT hZ (ow hw 78 rfl)) (notFace_of_selects (args := #[]) (mvT hZ (ow hw 80 rfl))) (mvT hZ (ow hw 80 rfl)) (mvT hZ (ow hw 79 rfl)) (by decide) (backOf (W := 0) (rm11R l Z a0 hw [] b167_0 b1 ra q15 q17 T167.heap n0 (by omega) Y167_0 Y167_1 Y167_2 Y167_3 Y176 Y177 Y178 Y179) hZ (ow hw 81 rfl) (ow hw 15 rfl) (by decide) (by decide)) q175a q175c (g := (mkF m 293 #[sI p0, sI p1, sI p2, sL q3, sS, sL q4, sS, sI p5, sI i8, sI i9, sI i10, sI i11, sI i12, sR ra, sN, sL q15, sS, sL q17, sS, sL q19, sS, sL q21, sS, sR b1, sR b3, sR b5, sR b5, sR b1] [(.ref b1), (.ref b167_0)])) rfl (by rw [hml]; rfl) (Steps.refl _) (argsL := [(.ref b1)]) (rest := []) (lenOf pd139B_5 rfl) rfl (by show 2 * 0 + _ ≤ _; exact Nat.le_of_eq rfl) (hb hby at_293) (fun vm₁ hvm => ⟨rfl, rfl, (by decide : 29 + 0 ≤ _), (by decide : 3290 + 0 ≤ _)⟩)
      dsimp only [Pt.U, Pt.locs, Pt.cells, Pt.slots] at X175 l175 y175 z175 st175 hQ175
      subst l175 y175 z175
      obtain ⟨rfl, N175q, e175⟩ := hQ175
      have N175 := Fr.app N167 N175q
      refine GoW.trans st175 ?_
      show GoW p e below s _ _ _ (T175.setTop (mkF m 296 #[sI p0, sI p1, sI p2, sL q3, sS, sL q4, sS, sI p5, sI i8, sI i9, sI i10, sI i11, sI i12, sR ra, sN, sL q15, sS, sL q17, sS, sL q19, sS, sL q21, sS, sR b1, sR b3, sR b5, sR b5, sR b1] [(.int (1 : Int32))]))
      refine GoW.pre (st' := T175.setTop (mkF m 304 #[sI p0, sI p1, sI p2, sL q3, sS, sL q4, sS, sI p5, sI i8, sI i9, sI i10, sI i11, sI i12, sR ra, sN, sL q15, sS, sL q17, sS, sL q19, sS, sL q21, sS, sR b1, sR b3, sR b5, sR b5, sR b1] [(.int (1 : Int32))])) (fun target kt => ?_) ?_
      · show Steps p.tables e below (T175.setTop (mkF m 296 #[sI p0, sI p1, sI p2, sL q3, sS, sL q4, sS, sI p5, sI i8, sI i9, sI i10, sI i11, sI i12, sR ra, sN, sL q15, sS, sL q17, sS, sL q19, sS, sL q21, sS, sR b1, sR b3, sR b5, sR b5, sR b1] [(.int (1 : Int32))])) _
        refine XS.ifNo X175.here hx rfl (hb hby at_296) rfl ((if0 _ _).trans (feq (by decide)).1) ?_
        refine XS.iconst X175.here hx rfl (hb hby at_299) ?_
        refine XS.goto X175.here hx rfl (pc0 := 300) (pc' := 304) rfl (hb hby at_300) (by decide) (by decide) ?_
        exact kt
      exact GoW.retN X175 hS (leH e175 (by omega)) hx hlk hrt (z' := (1 : Int32)) (by simp) (hb hby at_304) rfl (by decide) (by decide) (by first | exact ⟨rfl, N175⟩ | (rw [e175]; exact ⟨rfl, N175⟩))
    · refine GoW.pre (st' := T137.setTop (mkF m 233 #[sI p0, sI p1, sI p2, sL q3, sS, sL q4, sS, sI p5, sI i8, sI i9, sI i10, sI i11, sI i12, sR ra, sN, sL q15, sS, sL q17, sS, sL q19, sS, sL q21, sS, sR b1, sR b3, sR b5, sR b5, sU] [])) (fun target kt => ?_) ?_
      · show Steps p.tables e below (T137.setTop (mkF m 230 #[sI p0, sI p1, sI p2, sL q3, sS, sL q4, sS, sI p5, sI i8, sI i9, sI i10, sI i11, sI i12, sR ra, sN, sL q15, sS, sL q17, sS, sL q19, sS, sL q21, sS, sR b1, sR b3, sR b5, sR b5, sU] [(.int i8), (.int i10)])) _
        refine XS.icmpNo X137.here hx rfl (hb hby at_230) rfl (feq h230_143).1 ?_
        exact kt
      refine GoW.pre (st' := T137.setTop (mkF m 242 #[sI p0, sI p1, sI p2, sL q3, sS, sL q4, sS, sI p5, sI i8, sI i9, sI i10, sI i11, sI i12, sR ra, sN, sL q15, sS, sL q17, sS, sL q19, sS, sL q21, sS, sR b1, sR b3, sR b5, sR b5, sU] [(.int i9), (.int i10)])) (fun target kt => ?_) ?_
      · show Steps p.tables e below (T137.setTop (mkF m 233 #[sI p0, sI p1, sI p2, sL q3, sS, sL q4, sS, sI p5, sI i8, sI i9, sI i10, sI i11, sI i12, sR ra, sN, sL q15, sS, sL q17, sS, sL q19, sS, sL q21, sS, sR b1, sR b3, sR b5, sR b5, sU] [])) _
        refine XS.iload X137.here hx rfl (hb hby at_233) rfl ?_
        refine XS.ifNo X137.here hx rfl (hb hby at_235) rfl ((if0 _ _).trans (feq h180_7).1) ?_
        refine XS.iload X137.here hx rfl (hb hby at_238) rfl ?_
        refine XS.iload X137.here hx rfl (hb hby at_240) rfl ?_
        exact kt
      by_cases h242_180 : i10 = i9
      · refine GoW.pre (st' := T137.setTop (mkF m 245 #[sI p0, sI p1, sI p2, sL q3, sS, sL q4, sS, sI p5, sI i8, sI i9, sI i10, sI i11, sI i12, sR ra, sN, sL q15, sS, sL q17, sS, sL q19, sS, sL q21, sS, sR b1, sR b3, sR b5, sR b5, sU] [])) (fun target kt => ?_) ?_
        · show Steps p.tables e below (T137.setTop (mkF m 242 #[sI p0, sI p1, sI p2, sL q3, sS, sL q4, sS, sI p5, sI i8, sI i9, sI i10, sI i11, sI i12, sR ra, sN, sL q15, sS, sL q17, sS, sL q19, sS, sL q21, sS, sR b1, sR b3, sR b5, sR b5, sU] [(.int i9), (.int i10)])) _
          refine XS.icmpNo X137.here hx rfl (hb hby at_242) rfl (teq h242_180).2 ?_
          exact kt
        refine GoW.pre (st' := T137.setTop (mkF m 258 #[sI p0, sI p1, sI p2, sL q3, sS, sL q4, sS, sI p5, sI i8, sI i9, sI i10, sI i11, sI i12, sR ra, sN, sL q15, sS, sL q17, sS, sL q19, sS, sL q21, sS, sR b1, sR b3, sR b5, sR b5, sR b1] [(.int i8), (.ref b5)])) (fun target kt => ?_) ?_
        · show Steps p.tables e below (T137.setTop (mkF m 245 #[sI p0, sI p1, sI p2, sL q3, sS, sL q4, sS, sI p5, sI i8, sI i9, sI i10, sI i11, sI i12, sR ra, sN, sL q15, sS, sL q17, sS, sL q19, sS, sL q21, sS, sR b1, sR b3, sR b5, sR b5, sU] [])) _
          refine XS.aload X137.here hx rfl (hb hby at_245) rfl rfl ?_
          refine XS.goto X137.here hx rfl (pc0 := 247) (pc' := 252) rfl (hb hby at_247) (by decide) (by decide) ?_
          refine XS.astore X137.here hx rfl (hb hby at_252) rfl rfl (l' := #[.val (.int p0), .val (.int p1), .val (.int p2), .val (.long q3), .second, .val (.long q4), .second, .val (.int p5), .val (.int i8), .val (.int i9), .val (.int i10), .val (.int i11), .val (.int i12), .val (.ref ra), .val .null, .val (.long q15), .second, .val (.long q17), .second, .val (.long q19), .second, .val (.long q21), .second, .val (.ref b1), .val (.ref b3), .val (.ref b5), .val (.ref b5), .val (.ref b1)]) rfl ?_
          refine XS.aload X137.here hx rfl (hb hby at_254) rfl rfl ?_
          refine XS.iload X137.here hx rfl (hb hby at_256) rfl ?_
          exact kt
        have Y182 : Exa Z T137.heap b5 "com/example/satzung/satzung/validate/PlacePage" := (Y138.keep K137)
        have Y183 : Fld Z T137.heap b5 "com/example/satzung/satzung/validate/PlacePage" "entities" "[Ljava/lang/String;" (.ref b6_0) := (Y139.keep K137 (ninS (neN (by omega)) (ninS (neN (by omega)) (ninS (neN (by omega)) nin0))))
        have Y184 : Fld Z T137.heap b5 "com/example/satzung/satzung/validate/PlacePage" "lines" "[J" (.ref b6_1) := (Y140.keep K137 (ninS (neN (by omega)) (ninS (neN (by omega)) (ninS (neN (by omega)) nin0))))
        have Y185 : Fld Z T137.heap b5 "com/example/satzung/satzung/validate/PlacePage" "columns" "[J" (.ref b6_2) := (Y141.keep K137 (ninS (neN (by omega)) (ninS (neN (by omega)) (ninS (neN (by omega)) nin0))))
        obtain ⟨cq181, kq181, q181a, q181b, q181c⟩ := isOf hZ rfl Y182
        obtain ⟨_, _, ⟨T181, L181, k181, n181⟩, -, X181, ⟨Lc181, hQ181, l181, y181, z181⟩, st181⟩ := X137.virtualBack hx (y := (⟨"com/example/satzung/satzung/validate/PlacePage", "get", "(I)Lcom/example/satzung/satzung/diagnostics/Location;"⟩ : MethodName)) (z := (⟨"com/example/satzung/satzung/validate/PlacePage", "get", "(I)Lcom/example/satzung/satzung/diagnostics/Location;"⟩ : MethodName)) hown (mvT hZ (ow hw 70 rfl)) (mvT hZ (ow hw 71 rfl)) (notFace_of_selects (args := #[]) (mvT hZ (ow hw 73 rfl))) (mvT hZ (ow hw 73 rfl)) (mvT hZ (ow hw 72 rfl)) (by decide) (backOf (W := 0) (rm10R l Z a0 hw [] b5 i8 ra q15 q17 b6_0 b6_1 b6_2 k6_0 k6_1 k6_2 (own_upd (own_upd (own_upd (fun _ => .null) i10 .null) i9 (.ref ra)) i8 (.ref ra)) (own_upd (own_upd (own_upd (fun _ => (.long (0 : Int64))) i10 (.long q19)) i9 (.long q15)) i8 (.long q15)) (own_upd (own_upd (own_upd (fun _ => (.long (0 : Int64))) i10 (.long q21)) i9 (.long q17)) i8 (.long q17)) T137.heap n0 (by omega) Y182 Y183 Y137_0 Y184 Y137_1 Y185 Y137_2 Y6_4 (own_hit _ _ _) (own_hit _ _ _) (own_hit _ _ _) (by first | assumption | decide) (by first | assumption | decide) (by first | assumption | decide)) hZ (ow hw 74 rfl) (ow hw 30 rfl) (by decide) (by decide)) q181a q181c (g := (mkF m 258 #[sI p0, sI p1, sI p2, sL q3, sS, sL q4, sS, sI p5, sI i8, sI i9, sI i10, sI i11, sI i12, sR ra, sN, sL q15, sS, sL q17, sS, sL q19, sS, sL q21, sS, sR b1, sR b3, sR b5, sR b5, sR b1] [(.int i8), (.ref b5)])) rfl (by rw [hml]; rfl) (Steps.refl _) (argsL := [(.int i8)]) (rest := []) (lenOf pd139B_4 rfl) rfl (by show 2 * 0 + _ ≤ _; exact Nat.le_of_eq rfl) (hb hby at_258) (fun vm₁ hvm => ⟨rfl, rfl, (by decide : 26 + 1 ≤ _), (by decide : 3281 + 3 ≤ _)⟩)
        dsimp only [Pt.U, Pt.locs, Pt.cells, Pt.slots] at X181 l181 y181 z181 st181 hQ181
        subst l181 y181 z181
        obtain ⟨b181_0, rfl, N181q, K181, KF181, gb181_0, ltb181_0, Y181_0, Y181_1, Y181_2, Y181_3⟩ := hQ181
        have sz181 : T137.heap.size ≤ T181.heap.size := K181.1
        have N181 := Fr.app N137 N181q
        refine GoW.trans st181 ?_
        show GoW p e below s _ _ _ (T181.setTop (mkF m 261 #[sI p0, sI p1, sI p2, sL q3, sS, sL q4, sS, sI p5, sI i8, sI i9, sI i10, sI i11, sI i12, sR ra, sN, sL q15, sS, sL q17, sS, sL q19, sS, sL q21, sS, sR b1, sR b3, sR b5, sR b5, sR b1] [(.ref b181_0)]))
        refine GoW.pre (st' := T181.setTop (mkF m 263 #[sI p0, sI p1, sI p2, sL q3, sS, sL q4, sS, sI p5, sI i8, sI i9, sI i10, sI i11, sI i12, sR ra, sN, sL q15, sS, sL q17, sS, sL q19, sS, sL q21, sS, sR b1, sR b3, sR b5, sR b5, sR b1] [(.ref b1), (.ref b181_0)])) (fun target kt => ?_) ?_
        · show Steps p.tables e below (T181.setTop (mkF m 261 #[sI p0, sI p1, sI p2, sL q3, sS, sL q4, sS, sI p5, sI i8, sI i9, sI i10, sI i11, sI i12, sR ra, sN, sL q15, sS, sL q17, sS, sL q19, sS, sL q21, sS, sR b1, sR b3, sR b5, sR b5, sR b1] [(.ref b181_0)])) _
          refine XS.aload X181.here hx rfl (hb hby at_261) rfl rfl ?_
          exact kt
        have Y187 : Exa Z T181.heap b1 "com/example/satzung/satzung/diagnostics/Location" := (((Y132.keep K127).keep K137).keep K181)
        have Y188 : Fld Z T181.heap b1 "com/example/satzung/satzung/diagnostics/Location" "entity" "Ljava/lang/String;" (.ref ra) := (((Y133.keep K127 (ninS (neN (by omega)) (ninS (neN (by omega)) (ninS (neN (by omega)) nin0)))).keep K137 (ninS (neN (by omega)) (ninS (neN (by omega)) (ninS (neN (by omega)) nin0)))).keep K181 nin0)
        have Y189 : Fld Z T181.heap b1 "com/example/satzung/satzung/diagnostics/Location" "line" "J" (.long q15) := (((Y134.keep K127 (ninS (neN (by omega)) (ninS (neN (by omega)) (ninS (neN (by omega)) nin0)))).keep K137 (ninS (neN (by omega)) (ninS (neN (by omega)) (ninS (neN (by omega)) nin0)))).keep K181 nin0)
        have Y190 : Fld Z T181.heap b1 "com/example/satzung/satzung/diagnostics/Location" "column" "J" (.long q17) := (((Y135.keep K127 (ninS (neN (by omega)) (ninS (neN (by omega)) (ninS (neN (by omega)) nin0)))).keep K137 (ninS (neN (by omega)) (ninS (neN (by omega)) (ninS (neN (by omega)) nin0)))).keep K181 nin0)
        obtain ⟨cq186, kq186, q186a, q186b, q186c⟩ := isOf hZ rfl Y181_0
        obtain ⟨_, _, ⟨T186, L186, k186, n186⟩, -, X186, ⟨Lc186, hQ186, l186, y186, z186⟩, st186⟩ := X181.virtualBack hx (y := (⟨"com/example/satzung/satzung/diagnostics/Location", "equals", "(Ljava/lang/Object;)Z"⟩ : MethodName)) (z := (⟨"com/example/satzung/satzung/diagnostics/Location", "equals", "(Ljava/lang/Object;)Z"⟩ : MethodName)) hown (mvT hZ (ow hw 77 rfl)) (mvT hZ (ow hw 78 rfl)) (notFace_of_selects (args := #[]) (mvT hZ (ow hw 80 rfl))) (mvT hZ (ow hw 80 rfl)) (mvT hZ (ow hw 79 rfl)) (by decide) (backOf (W := 0) (rm11R l Z a0 hw [] b181_0 b1 ra q15 q17 T181.heap n0 (by omega) Y181_0 Y181_1 Y181_2 Y181_3 Y187 Y188 Y189 Y190) hZ (ow hw 81 rfl) (ow hw 15 rfl) (by decide) (by decide)) q186a q186c (g := (mkF m 263 #[sI p0, sI p1, sI p2, sL q3, sS, sL q4, sS, sI p5, sI i8, sI i9, sI i10, sI i11, sI i12, sR ra, sN, sL q15, sS, sL q17, sS, sL q19, sS, sL q21, sS, sR b1, sR b3, sR b5, sR b5, sR b1] [(.ref b1), (.ref b181_0)])) rfl (by rw [hml]; rfl) (Steps.refl _) (argsL := [(.ref b1)]) (rest := []) (lenOf pd139B_5 rfl) rfl (by show 2 * 0 + _ ≤ _; exact Nat.le_of_eq rfl) (hb hby at_263) (fun vm₁ hvm => ⟨rfl, rfl, (by decide : 27 + 0 ≤ _), (by decide : 3284 + 0 ≤ _)⟩)
        dsimp only [Pt.U, Pt.locs, Pt.cells, Pt.slots] at X186 l186 y186 z186 st186 hQ186
        subst l186 y186 z186
        obtain ⟨rfl, N186q, e186⟩ := hQ186
        have N186 := Fr.app N181 N186q
        refine GoW.trans st186 ?_
        show GoW p e below s _ _ _ (T186.setTop (mkF m 266 #[sI p0, sI p1, sI p2, sL q3, sS, sL q4, sS, sI p5, sI i8, sI i9, sI i10, sI i11, sI i12, sR ra, sN, sL q15, sS, sL q17, sS, sL q19, sS, sL q21, sS, sR b1, sR b3, sR b5, sR b5, sR b1] [(.int (1 : Int32))]))
        refine GoW.pre (st' := T186.setTop (mkF m 273 #[sI p0, sI p1, sI p2, sL q3, sS, sL q4, sS, sI p5, sI i8, sI i9, sI i10, sI i11, sI i12, sR ra, sN, sL q15, sS, sL q17, sS, sL q19, sS, sL q21, sS, sR b1, sR b3, sR b5, sR b5, sR b1] [(.int i10), (.ref b5)])) (fun target kt => ?_) ?_
        · show Steps p.tables e below (T186.setTop (mkF m 266 #[sI p0, sI p1, sI p2, sL q3, sS, sL q4, sS, sI p5, sI i8, sI i9, sI i10, sI i11, sI i12, sR ra, sN, sL q15, sS, sL q17, sS, sL q19, sS, sL q21, sS, sR b1, sR b3, sR b5, sR b5, sR b1] [(.int (1 : Int32))])) _
          refine XS.ifNo X186.here hx rfl (hb hby at_266) rfl ((if0 _ _).trans (feq (by decide)).1) ?_
          refine XS.aload X186.here hx rfl (hb hby at_269) rfl rfl ?_
          refine XS.iload X186.here hx rfl (hb hby at_271) rfl ?_
          exact kt
        have Y192 : Exa Z T181.heap b5 "com/example/satzung/satzung/validate/PlacePage" := (Y182.keep K181)
        have Y193 : Fld Z T181.heap b5 "com/example/satzung/satzung/validate/PlacePage" "entities" "[Ljava/lang/String;" (.ref b6_0) := (Y183.keep K181 nin0)
        have Y194 : Arf Z T181.heap b6_0 k6_0 (.object "java/lang/String") (1024 : Int32) (own_upd (own_upd (own_upd (fun _ => .null) i10 .null) i9 (.ref ra)) i8 (.ref ra)) := (Y137_0.keep K181 nin0)
        have Y195 : Fld Z T181.heap b5 "com/example/satzung/satzung/validate/PlacePage" "lines" "[J" (.ref b6_1) := (Y184.keep K181 nin0)
        have Y196 : Arf Z T181.heap b6_1 k6_1 .long (1024 : Int32) (own_upd (own_upd (own_upd (fun _ => (.long (0 : Int64))) i10 (.long q19)) i9 (.long q15)) i8 (.long q15)) := (Y137_1.keep K181 nin0)
        have Y197 : Fld Z T181.heap b5 "com/example/satzung/satzung/validate/PlacePage" "columns" "[J" (.ref b6_2) := (Y185.keep K181 nin0)
        have Y198 : Arf Z T181.heap b6_2 k6_2 .long (1024 : Int32) (own_upd (own_upd (own_upd (fun _ => (.long (0 : Int64))) i10 (.long q21)) i9 (.long q17)) i8 (.long q17)) := (Y137_2.keep K181 nin0)
        obtain ⟨cq191, kq191, q191a, q191b, q191c⟩ := isOf hZ e186 Y192
        obtain ⟨_, _, ⟨T191, L191, k191, n191⟩, -, X191, ⟨Lc191, hQ191, l191, y191, z191⟩, st191⟩ := X186.virtualBack hx (y := (⟨"com/example/satzung/satzung/validate/PlacePage", "get", "(I)Lcom/example/satzung/satzung/diagnostics/Location;"⟩ : MethodName)) (z := (⟨"com/example/satzung/satzung/validate/PlacePage", "get", "(I)Lcom/example/satzung/satzung/diagnostics/Location;"⟩ : MethodName)) hown (mvT hZ (ow hw 70 rfl)) (mvT hZ (ow hw 71 rfl)) (notFace_of_selects (args := #[]) (mvT hZ (ow hw 73 rfl))) (mvT hZ (ow hw 73 rfl)) (mvT hZ (ow hw 72 rfl)) (by decide) (backOf (W := 0) (rm10R l Z a0 hw [] b5 i10 ra q15 q17 b6_0 b6_1 b6_2 k6_0 k6_1 k6_2 (own_upd (own_upd (own_upd (fun _ => .null) i10 .null) i9 (.ref ra)) i8 (.ref ra)) (own_upd (own_upd (own_upd (fun _ => (.long (0 : Int64))) i10 (.long q19)) i9 (.long q15)) i8 (.long q15)) (own_upd (own_upd (own_upd (fun _ => (.long (0 : Int64))) i10 (.long q21)) i9 (.long q17)) i8 (.long q17)) T181.heap n0 (by omega) Y192 Y193 Y194 Y195 Y196 Y197 Y198 Y6_4 (own_or (own_at h242_180)) (own_or (own_at h242_180)) (own_or (own_at h242_180)) (by first | assumption | decide) (by first | assumption | decide) (by first | assumption | decide)) hZ (ow hw 74 rfl) (ow hw 30 rfl) (by decide) (by decide)) q191a q191c (g := (mkF m 273 #[sI p0, sI p1, sI p2, sL q3, sS, sL q4, sS, sI p5, sI i8, sI i9, sI i10, sI i11, sI i12, sR ra, sN, sL q15, sS, sL q17, sS, sL q19, sS, sL q21, sS, sR b1, sR b3, sR b5, sR b5, sR b1] [(.int i10), (.ref b5)])) rfl (by rw [hml]; rfl) (Steps.refl _) (argsL := [(.int i10)]) (rest := []) (lenOf pd139B_4 rfl) rfl (by show 2 * 0 + _ ≤ _; exact Nat.le_of_eq rfl) (hb hby at_273) (fun vm₁ hvm => ⟨rfl, e186, (by decide : 27 + 1 ≤ _), (by decide : 3284 + 3 ≤ _)⟩)
        dsimp only [Pt.U, Pt.locs, Pt.cells, Pt.slots] at X191 l191 y191 z191 st191 hQ191
        subst l191 y191 z191
        obtain ⟨b191_0, rfl, N191q, K191, KF191, gb191_0, ltb191_0, Y191_0, Y191_1, Y191_2, Y191_3⟩ := hQ191
        have sz191 : T181.heap.size ≤ T191.heap.size := K191.1
        have N191 := Fr.app N186 N191q
        refine GoW.trans st191 ?_
        show GoW p e below s _ _ _ (T191.setTop (mkF m 276 #[sI p0, sI p1, sI p2, sL q3, sS, sL q4, sS, sI p5, sI i8, sI i9, sI i10, sI i11, sI i12, sR ra, sN, sL q15, sS, sL q17, sS, sL q19, sS, sL q21, sS, sR b1, sR b3, sR b5, sR b5, sR b1] [(.ref b191_0)]))
        refine GoW.pre (st' := T191.setTop (mkF m 278 #[sI p0, sI p1, sI p2, sL q3, sS, sL q4, sS, sI p5, sI i8, sI i9, sI i10, sI i11, sI i12, sR ra, sN, sL q15, sS, sL q17, sS, sL q19, sS, sL q21, sS, sR b1, sR b3, sR b5, sR b5, sR b1] [(.ref b1), (.ref b191_0)])) (fun target kt => ?_) ?_
        · show Steps p.tables e below (T191.setTop (mkF m 276 #[sI p0, sI p1, sI p2, sL q3, sS, sL q4, sS, sI p5, sI i8, sI i9, sI i10, sI i11, sI i12, sR ra, sN, sL q15, sS, sL q17, sS, sL q19, sS, sL q21, sS, sR b1, sR b3, sR b5, sR b5, sR b1] [(.ref b191_0)])) _
          refine XS.aload X191.here hx rfl (hb hby at_276) rfl rfl ?_
          exact kt
        have Y200 : Exa Z T191.heap b1 "com/example/satzung/satzung/diagnostics/Location" := (Y187.keep K191)
        have Y201 : Fld Z T191.heap b1 "com/example/satzung/satzung/diagnostics/Location" "entity" "Ljava/lang/String;" (.ref ra) := (Y188.keep K191 nin0)
        have Y202 : Fld Z T191.heap b1 "com/example/satzung/satzung/diagnostics/Location" "line" "J" (.long q15) := (Y189.keep K191 nin0)
        have Y203 : Fld Z T191.heap b1 "com/example/satzung/satzung/diagnostics/Location" "column" "J" (.long q17) := (Y190.keep K191 nin0)
        obtain ⟨cq199, kq199, q199a, q199b, q199c⟩ := isOf hZ rfl Y191_0
        obtain ⟨_, _, ⟨T199, L199, k199, n199⟩, -, X199, ⟨Lc199, hQ199, l199, y199, z199⟩, st199⟩ := X191.virtualBack hx (y := (⟨"com/example/satzung/satzung/diagnostics/Location", "equals", "(Ljava/lang/Object;)Z"⟩ : MethodName)) (z := (⟨"com/example/satzung/satzung/diagnostics/Location", "equals", "(Ljava/lang/Object;)Z"⟩ : MethodName)) hown (mvT hZ (ow hw 77 rfl)) (mvT hZ (ow hw 78 rfl)) (notFace_of_selects (args := #[]) (mvT hZ (ow hw 80 rfl))) (mvT hZ (ow hw 80 rfl)) (mvT hZ (ow hw 79 rfl)) (by decide) (backOf (W := 0) (rm11R l Z a0 hw [] b191_0 b1 ra q15 q17 T191.heap n0 (by omega) Y191_0 Y191_1 Y191_2 Y191_3 Y200 Y201 Y202 Y203) hZ (ow hw 81 rfl) (ow hw 15 rfl) (by decide) (by decide)) q199a q199c (g := (mkF m 278 #[sI p0, sI p1, sI p2, sL q3, sS, sL q4, sS, sI p5, sI i8, sI i9, sI i10, sI i11, sI i12, sR ra, sN, sL q15, sS, sL q17, sS, sL q19, sS, sL q21, sS, sR b1, sR b3, sR b5, sR b5, sR b1] [(.ref b1), (.ref b191_0)])) rfl (by rw [hml]; rfl) (Steps.refl _) (argsL := [(.ref b1)]) (rest := []) (lenOf pd139B_5 rfl) rfl (by show 2 * 0 + _ ≤ _; exact Nat.le_of_eq rfl) (hb hby at_278) (fun vm₁ hvm => ⟨rfl, rfl, (by decide : 28 + 0 ≤ _), (by decide : 3287 + 0 ≤ _)⟩)
        dsimp only [Pt.U, Pt.locs, Pt.cells, Pt.slots] at X199 l199 y199 z199 st199 hQ199
        subst l199 y199 z199
        obtain ⟨rfl, N199q, e199⟩ := hQ199
        have N199 := Fr.app N191 N199q
        refine GoW.trans st199 ?_
        show GoW p e below s _ _ _ (T199.setTop (mkF m 281 #[sI p0, sI p1, sI p2, sL q3, sS, sL q4, sS, sI p5, sI i8, sI i9, sI i10, sI i11, sI i12, sR ra, sN, sL q15, sS, sL q17, sS, sL q19, sS, sL q21, sS, sR b1, sR b3, sR b5, sR b5, sR b1] [(.int (1 : Int32))]))
        refine GoW.pre (st' := T199.setTop (mkF m 288 #[sI p0, sI p1, sI p2, sL q3, sS, sL q4, sS, sI p5, sI i8, sI i9, sI i10, sI i11, sI i12, sR ra, sN, sL q15, sS, sL q17, sS, sL q19, sS, sL q21, sS, sR b1, sR b3, sR b5, sR b5, sR b1] [(.int i9), (.ref b5)])) (fun target kt => ?_) ?_
        · show Steps p.tables e below (T199.setTop (mkF m 281 #[sI p0, sI p1, sI p2, sL q3, sS, sL q4, sS, sI p5, sI i8, sI i9, sI i10, sI i11, sI i12, sR ra, sN, sL q15, sS, sL q17, sS, sL q19, sS, sL q21, sS, sR b1, sR b3, sR b5, sR b5, sR b1] [(.int (1 : Int32))])) _
          refine XS.ifNo X199.here hx rfl (hb hby at_281) rfl ((if0 _ _).trans (feq (by decide)).1) ?_
          refine XS.aload X199.here hx rfl (hb hby at_284) rfl rfl ?_
          refine XS.iload X199.here hx rfl (hb hby at_286) rfl ?_
          exact kt
        have Y205 : Exa Z T191.heap b5 "com/example/satzung/satzung/validate/PlacePage" := (Y192.keep K191)
        have Y206 : Fld Z T191.heap b5 "com/example/satzung/satzung/validate/PlacePage" "entities" "[Ljava/lang/String;" (.ref b6_0) := (Y193.keep K191 nin0)
        have Y207 : Arf Z T191.heap b6_0 k6_0 (.object "java/lang/String") (1024 : Int32) (own_upd (own_upd (own_upd (fun _ => .null) i10 .null) i9 (.ref ra)) i8 (.ref ra)) := (Y194.keep K191 nin0)
        have Y208 : Fld Z T191.heap b5 "com/example/satzung/satzung/validate/PlacePage" "lines" "[J" (.ref b6_1) := (Y195.keep K191 nin0)
        have Y209 : Arf Z T191.heap b6_1 k6_1 .long (1024 : Int32) (own_upd (own_upd (own_upd (fun _ => (.long (0 : Int64))) i10 (.long q19)) i9 (.long q15)) i8 (.long q15)) := (Y196.keep K191 nin0)
        have Y210 : Fld Z T191.heap b5 "com/example/satzung/satzung/validate/PlacePage" "columns" "[J" (.ref b6_2) := (Y197.keep K191 nin0)
        have Y211 : Arf Z T191.heap b6_2 k6_2 .long (1024 : Int32) (own_upd (own_upd (own_upd (fun _ => (.long (0 : Int64))) i10 (.long q21)) i9 (.long q17)) i8 (.long q17)) := (Y198.keep K191 nin0)
        obtain ⟨cq204, kq204, q204a, q204b, q204c⟩ := isOf hZ e199 Y205
        obtain ⟨_, _, ⟨T204, L204, k204, n204⟩, -, X204, ⟨Lc204, hQ204, l204, y204, z204⟩, st204⟩ := X199.virtualBack hx (y := (⟨"com/example/satzung/satzung/validate/PlacePage", "get", "(I)Lcom/example/satzung/satzung/diagnostics/Location;"⟩ : MethodName)) (z := (⟨"com/example/satzung/satzung/validate/PlacePage", "get", "(I)Lcom/example/satzung/satzung/diagnostics/Location;"⟩ : MethodName)) hown (mvT hZ (ow hw 70 rfl)) (mvT hZ (ow hw 71 rfl)) (notFace_of_selects (args := #[]) (mvT hZ (ow hw 73 rfl))) (mvT hZ (ow hw 73 rfl)) (mvT hZ (ow hw 72 rfl)) (by decide) (backOf (W := 0) (rm10R l Z a0 hw [] b5 i9 ra q15 q17 b6_0 b6_1 b6_2 k6_0 k6_1 k6_2 (own_upd (own_upd (own_upd (fun _ => .null) i10 .null) i9 (.ref ra)) i8 (.ref ra)) (own_upd (own_upd (own_upd (fun _ => (.long (0 : Int64))) i10 (.long q19)) i9 (.long q15)) i8 (.long q15)) (own_upd (own_upd (own_upd (fun _ => (.long (0 : Int64))) i10 (.long q21)) i9 (.long q17)) i8 (.long q17)) T191.heap n0 (by omega) Y205 Y206 Y207 Y208 Y209 Y210 Y211 Y6_4 (own_or (own_hit _ _ _)) (own_or (own_hit _ _ _)) (own_or (own_hit _ _ _)) (by first | assumption | decide) (by first | assumption | decide) (by first | assumption | decide)) hZ (ow hw 74 rfl) (ow hw 30 rfl) (by decide) (by decide)) q204a q204c (g := (mkF m 288 #[sI p0, sI p1, sI p2, sL q3, sS, sL q4, sS, sI p5, sI i8, sI i9, sI i10, sI i11, sI i12, sR ra, sN, sL q15, sS, sL q17, sS, sL q19, sS, sL q21, sS, sR b1, sR b3, sR b5, sR b5, sR b1] [(.int i9), (.ref b5)])) rfl (by rw [hml]; rfl) (Steps.refl _) (argsL := [(.int i9)]) (rest := []) (lenOf pd139B_4 rfl) rfl (by show 2 * 0 + _ ≤ _; exact Nat.le_of_eq rfl) (hb hby at_288) (fun vm₁ hvm => ⟨rfl, e199, (by decide : 28 + 1 ≤ _), (by decide : 3287 + 3 ≤ _)⟩)
        dsimp only [Pt.U, Pt.locs, Pt.cells, Pt.slots] at X204 l204 y204 z204 st204 hQ204
        subst l204 y204 z204
        obtain ⟨b204_0, rfl, N204q, K204, KF204, gb204_0, ltb204_0, Y204_0, Y204_1, Y204_2, Y204_3⟩ := hQ204
        have sz204 : T191.heap.size ≤ T204.heap.size := K204.1
        have N204 := Fr.app N199 N204q
        refine GoW.trans st204 ?_
        show GoW p e below s _ _ _ (T204.setTop (mkF m 291 #[sI p0, sI p1, sI p2, sL q3, sS, sL q4, sS, sI p5, sI i8, sI i9, sI i10, sI i11, sI i12, sR ra, sN, sL q15, sS, sL q17, sS, sL q19, sS, sL q21, sS, sR b1, sR b3, sR b5, sR b5, sR b1] [(.ref b204_0)]))
        refine GoW.pre (st' := T204.setTop (mkF m 293 #[sI p0, sI p1, sI p2, sL q3, sS, sL q4, sS, sI p5, sI i8, sI i9, sI i10, sI i11, sI i12, sR ra, sN, sL q15, sS, sL q17, sS, sL q19, sS, sL q21, sS, sR b1, sR b3, sR b5, sR b5, sR b1] [(.ref b1), (.ref b204_0)])) (fun target kt => ?_) ?_
        · show Steps p.tables e below (T204.setTop (mkF m 291 #[sI p0, sI p1, sI p2, sL q3, sS, sL q4, sS, sI p5, sI i8, sI i9, sI i10, sI i11, sI i12, sR ra, sN, sL q15, sS, sL q17, sS, sL q19, sS, sL q21, sS, sR b1, sR b3, sR b5, sR b5, sR b1] [(.ref b204_0)])) _
          refine XS.aload X204.here hx rfl (hb hby at_291) rfl rfl ?_
          exact kt
        have Y213 : Exa Z T204.heap b1 "com/example/satzung/satzung/diagnostics/Location" := (Y200.keep K204)
        have Y214 : Fld Z T204.heap b1 "com/example/satzung/satzung/diagnostics/Location" "entity" "Ljava/lang/String;" (.ref ra) := (Y201.keep K204 nin0)
        have Y215 : Fld Z T204.heap b1 "com/example/satzung/satzung/diagnostics/Location" "line" "J" (.long q15) := (Y202.keep K204 nin0)
        have Y216 : Fld Z T204.heap b1 "com/example/satzung/satzung/diagnostics/Location" "column" "J" (.long q17) := (Y203.keep K204 nin0)
        obtain ⟨cq212, kq212, q212a, q212b, q212c⟩ := isOf hZ rfl Y204_0
        obtain ⟨_, _, ⟨T212, L212, k212, n212⟩, -, X212, ⟨Lc212, hQ212, l212, y212, z212⟩, st212⟩ := X204.virtualBack hx (y := (⟨"com/example/satzung/satzung/diagnostics/Location", "equals", "(Ljava/lang/Object;)Z"⟩ : MethodName)) (z := (⟨"com/example/satzung/satzung/diagnostics/Location", "equals", "(Ljava/lang/Object;)Z"⟩ : MethodName)) hown (mvT hZ (ow hw 77 rfl)) (mvT hZ (ow hw 78 rfl)) (notFace_of_selects (args := #[]) (mvT hZ (ow hw 80 rfl))) (mvT hZ (ow hw 80 rfl)) (mvT hZ (ow hw 79 rfl)) (by decide) (backOf (W := 0) (rm11R l Z a0 hw [] b204_0 b1 ra q15 q17 T204.heap n0 (by omega) Y204_0 Y204_1 Y204_2 Y204_3 Y213 Y214 Y215 Y216) hZ (ow hw 81 rfl) (ow hw 15 rfl) (by decide) (by decide)) q212a q212c (g := (mkF m 293 #[sI p0, sI p1, sI p2, sL q3, sS, sL q4, sS, sI p5, sI i8, sI i9, sI i10, sI i11, sI i12, sR ra, sN, sL q15, sS, sL q17, sS, sL q19, sS, sL q21, sS, sR b1, sR b3, sR b5, sR b5, sR b1] [(.ref b1), (.ref b204_0)])) rfl (by rw [hml]; rfl) (Steps.refl _) (argsL := [(.ref b1)]) (rest := []) (lenOf pd139B_5 rfl) rfl (by show 2 * 0 + _ ≤ _; exact Nat.le_of_eq rfl) (hb hby at_293) (fun vm₁ hvm => ⟨rfl, rfl, (by decide : 29 + 0 ≤ _), (by decide : 3290 + 0 ≤ _)⟩)
        dsimp only [Pt.U, Pt.locs, Pt.cells, Pt.slots] at X212 l212 y212 z212 st212 hQ212
        subst l212 y212 z212
        obtain ⟨rfl, N212q, e212⟩ := hQ212
        have N212 := Fr.app N204 N212q
        refine GoW.trans st212 ?_
        show GoW p e below s _ _ _ (T212.setTop (mkF m 296 #[sI p0, sI p1, sI p2, sL q3, sS, sL q4, sS, sI p5, sI i8, sI i9, sI i10, sI i11, sI i12, sR ra, sN, sL q15, sS, sL q17, sS, sL q19, sS, sL q21, sS, sR b1, sR b3, sR b5, sR b5, sR b1] [(.int (1 : Int32))]))
        refine GoW.pre (st' := T212.setTop (mkF m 304 #[sI p0, sI p1, sI p2, sL q3, sS, sL q4, sS, sI p5, sI i8, sI i9, sI i10, sI i11, sI i12, sR ra, sN, sL q15, sS, sL q17, sS, sL q19, sS, sL q21, sS, sR b1, sR b3, sR b5, sR b5, sR b1] [(.int (1 : Int32))])) (fun target kt => ?_) ?_
        · show Steps p.tables e below (T212.setTop (mkF m 296 #[sI p0, sI p1, sI p2, sL q3, sS, sL q4, sS, sI p5, sI i8, sI i9, sI i10, sI i11, sI i12, sR ra, sN, sL q15, sS, sL q17, sS, sL q19, sS, sL q21, sS, sR b1, sR b3, sR b5, sR b5, sR b1] [(.int (1 : Int32))])) _
          refine XS.ifNo X212.here hx rfl (hb hby at_296) rfl ((if0 _ _).trans (feq (by decide)).1) ?_
          refine XS.iconst X212.here hx rfl (hb hby at_299) ?_
          refine XS.goto X212.here hx rfl (pc0 := 300) (pc' := 304) rfl (hb hby at_300) (by decide) (by decide) ?_
          exact kt
        exact GoW.retN X212 hS (leH e212 (by omega)) hx hlk hrt (z' := (1 : Int32)) (by simp) (hb hby at_304) rfl (by decide) (by decide) (by first | exact ⟨rfl, N212⟩ | (rw [e212]; exact ⟨rfl, N212⟩))
      · refine GoW.pre (st' := T137.setTop (mkF m 250 #[sI p0, sI p1, sI p2, sL q3, sS, sL q4, sS, sI p5, sI i8, sI i9, sI i10, sI i11, sI i12, sR ra, sN, sL q15, sS, sL q17, sS, sL q19, sS, sL q21, sS, sR b1, sR b3, sR b5, sR b5, sU] [])) (fun target kt => ?_) ?_
        · show Steps p.tables e below (T137.setTop (mkF m 242 #[sI p0, sI p1, sI p2, sL q3, sS, sL q4, sS, sI p5, sI i8, sI i9, sI i10, sI i11, sI i12, sR ra, sN, sL q15, sS, sL q17, sS, sL q19, sS, sL q21, sS, sR b1, sR b3, sR b5, sR b5, sU] [(.int i9), (.int i10)])) _
          refine XS.icmpYes X137.here hx rfl (pc0 := 242) (pc' := 250) rfl (hb hby at_242) rfl (feq h242_180).2 (by decide) (by decide) ?_
          exact kt
        refine GoW.pre (st' := T137.setTop (mkF m 258 #[sI p0, sI p1, sI p2, sL q3, sS, sL q4, sS, sI p5, sI i8, sI i9, sI i10, sI i11, sI i12, sR ra, sN, sL q15, sS, sL q17, sS, sL q19, sS, sL q21, sS, sR b1, sR b3, sR b5, sR b5, sR b3] [(.int i8), (.ref b5)])) (fun target kt => ?_) ?_
        · show Steps p.tables e below (T137.setTop (mkF m 250 #[sI p0, sI p1, sI p2, sL q3, sS, sL q4, sS, sI p5, sI i8, sI i9, sI i10, sI i11, sI i12, sR ra, sN, sL q15, sS, sL q17, sS, sL q19, sS, sL q21, sS, sR b1, sR b3, sR b5, sR b5, sU] [])) _
          refine XS.aload X137.here hx rfl (hb hby at_250) rfl rfl ?_
          refine XS.astore X137.here hx rfl (hb hby at_252) rfl rfl (l' := #[.val (.int p0), .val (.int p1), .val (.int p2), .val (.long q3), .second, .val (.long q4), .second, .val (.int p5), .val (.int i8), .val (.int i9), .val (.int i10), .val (.int i11), .val (.int i12), .val (.ref ra), .val .null, .val (.long q15), .second, .val (.long q17), .second, .val (.long q19), .second, .val (.long q21), .second, .val (.ref b1), .val (.ref b3), .val (.ref b5), .val (.ref b5), .val (.ref b3)]) rfl ?_
          refine XS.aload X137.here hx rfl (hb hby at_254) rfl rfl ?_
          refine XS.iload X137.here hx rfl (hb hby at_256) rfl ?_
          exact kt
        have Y218 : Exa Z T137.heap b5 "com/example/satzung/satzung/validate/PlacePage" := (Y138.keep K137)
        have Y219 : Fld Z T137.heap b5 "com/example/satzung/satzung/validate/PlacePage" "entities" "[Ljava/lang/String;" (.ref b6_0) := (Y139.keep K137 (ninS (neN (by omega)) (ninS (neN (by omega)) (ninS (neN (by omega)) nin0))))
        have Y220 : Fld Z T137.heap b5 "com/example/satzung/satzung/validate/PlacePage" "lines" "[J" (.ref b6_1) := (Y140.keep K137 (ninS (neN (by omega)) (ninS (neN (by omega)) (ninS (neN (by omega)) nin0))))
        have Y221 : Fld Z T137.heap b5 "com/example/satzung/satzung/validate/PlacePage" "columns" "[J" (.ref b6_2) := (Y141.keep K137 (ninS (neN (by omega)) (ninS (neN (by omega)) (ninS (neN (by omega)) nin0))))
        obtain ⟨cq217, kq217, q217a, q217b, q217c⟩ := isOf hZ rfl Y218
        obtain ⟨_, _, ⟨T217, L217, k217, n217⟩, -, X217, ⟨Lc217, hQ217, l217, y217, z217⟩, st217⟩ := X137.virtualBack hx (y := (⟨"com/example/satzung/satzung/validate/PlacePage", "get", "(I)Lcom/example/satzung/satzung/diagnostics/Location;"⟩ : MethodName)) (z := (⟨"com/example/satzung/satzung/validate/PlacePage", "get", "(I)Lcom/example/satzung/satzung/diagnostics/Location;"⟩ : MethodName)) hown (mvT hZ (ow hw 70 rfl)) (mvT hZ (ow hw 71 rfl)) (notFace_of_selects (args := #[]) (mvT hZ (ow hw 73 rfl))) (mvT hZ (ow hw 73 rfl)) (mvT hZ (ow hw 72 rfl)) (by decide) (backOf (W := 0) (rm10R l Z a0 hw [] b5 i8 ra q15 q17 b6_0 b6_1 b6_2 k6_0 k6_1 k6_2 (own_upd (own_upd (own_upd (fun _ => .null) i10 .null) i9 (.ref ra)) i8 (.ref ra)) (own_upd (own_upd (own_upd (fun _ => (.long (0 : Int64))) i10 (.long q19)) i9 (.long q15)) i8 (.long q15)) (own_upd (own_upd (own_upd (fun _ => (.long (0 : Int64))) i10 (.long q21)) i9 (.long q17)) i8 (.long q17)) T137.heap n0 (by omega) Y218 Y219 Y137_0 Y220 Y137_1 Y221 Y137_2 Y6_4 (own_hit _ _ _) (own_hit _ _ _) (own_hit _ _ _) (by first | assumption | decide) (by first | assumption | decide) (by first | assumption | decide)) hZ (ow hw 74 rfl) (ow hw 30 rfl) (by decide) (by decide)) q217a q217c (g := (mkF m 258 #[sI p0, sI p1, sI p2, sL q3, sS, sL q4, sS, sI p5, sI i8, sI i9, sI i10, sI i11, sI i12, sR ra, sN, sL q15, sS, sL q17, sS, sL q19, sS, sL q21, sS, sR b1, sR b3, sR b5, sR b5, sR b3] [(.int i8), (.ref b5)])) rfl (by rw [hml]; rfl) (Steps.refl _) (argsL := [(.int i8)]) (rest := []) (lenOf pd139B_4 rfl) rfl (by show 2 * 0 + _ ≤ _; exact Nat.le_of_eq rfl) (hb hby at_258) (fun vm₁ hvm => ⟨rfl, rfl, (by decide : 26 + 1 ≤ _), (by decide : 3281 + 3 ≤ _)⟩)
        dsimp only [Pt.U, Pt.locs, Pt.cells, Pt.slots] at X217 l217 y217 z217 st217 hQ217
        subst l217 y217 z217
        obtain ⟨b217_0, rfl, N217q, K217, KF217, gb217_0, ltb217_0, Y217_0, Y217_1, Y217_2, Y217_3⟩ := hQ217
        have sz217 : T137.heap.size ≤ T217.heap.size := K217.1
        have N217 := Fr.app N137 N217q
        refine GoW.trans st217 ?_
        show GoW p e below s _ _ _ (T217.setTop (mkF m 261 #[sI p0, sI p1, sI p2, sL q3, sS, sL q4, sS, sI p5, sI i8, sI i9, sI i10, sI i11, sI i12, sR ra, sN, sL q15, sS, sL q17, sS, sL q19, sS, sL q21, sS, sR b1, sR b3, sR b5, sR b5, sR b3] [(.ref b217_0)]))
        refine GoW.pre (st' := T217.setTop (mkF m 263 #[sI p0, sI p1, sI p2, sL q3, sS, sL q4, sS, sI p5, sI i8, sI i9, sI i10, sI i11, sI i12, sR ra, sN, sL q15, sS, sL q17, sS, sL q19, sS, sL q21, sS, sR b1, sR b3, sR b5, sR b5, sR b3] [(.ref b1), (.ref b217_0)])) (fun target kt => ?_) ?_
        · show Steps p.tables e below (T217.setTop (mkF m 261 #[sI p0, sI p1, sI p2, sL q3, sS, sL q4, sS, sI p5, sI i8, sI i9, sI i10, sI i11, sI i12, sR ra, sN, sL q15, sS, sL q17, sS, sL q19, sS, sL q21, sS, sR b1, sR b3, sR b5, sR b5, sR b3] [(.ref b217_0)])) _
          refine XS.aload X217.here hx rfl (hb hby at_261) rfl rfl ?_
          exact kt
        have Y223 : Exa Z T217.heap b1 "com/example/satzung/satzung/diagnostics/Location" := (((Y132.keep K127).keep K137).keep K217)
        have Y224 : Fld Z T217.heap b1 "com/example/satzung/satzung/diagnostics/Location" "entity" "Ljava/lang/String;" (.ref ra) := (((Y133.keep K127 (ninS (neN (by omega)) (ninS (neN (by omega)) (ninS (neN (by omega)) nin0)))).keep K137 (ninS (neN (by omega)) (ninS (neN (by omega)) (ninS (neN (by omega)) nin0)))).keep K217 nin0)
        have Y225 : Fld Z T217.heap b1 "com/example/satzung/satzung/diagnostics/Location" "line" "J" (.long q15) := (((Y134.keep K127 (ninS (neN (by omega)) (ninS (neN (by omega)) (ninS (neN (by omega)) nin0)))).keep K137 (ninS (neN (by omega)) (ninS (neN (by omega)) (ninS (neN (by omega)) nin0)))).keep K217 nin0)
        have Y226 : Fld Z T217.heap b1 "com/example/satzung/satzung/diagnostics/Location" "column" "J" (.long q17) := (((Y135.keep K127 (ninS (neN (by omega)) (ninS (neN (by omega)) (ninS (neN (by omega)) nin0)))).keep K137 (ninS (neN (by omega)) (ninS (neN (by omega)) (ninS (neN (by omega)) nin0)))).keep K217 nin0)
        obtain ⟨cq222, kq222, q222a, q222b, q222c⟩ := isOf hZ rfl Y217_0
        obtain ⟨_, _, ⟨T222, L222, k222, n222⟩, -, X222, ⟨Lc222, hQ222, l222, y222, z222⟩, st222⟩ := X217.virtualBack hx (y := (⟨"com/example/satzung/satzung/diagnostics/Location", "equals", "(Ljava/lang/Object;)Z"⟩ : MethodName)) (z := (⟨"com/example/satzung/satzung/diagnostics/Location", "equals", "(Ljava/lang/Object;)Z"⟩ : MethodName)) hown (mvT hZ (ow hw 77 rfl)) (mvT hZ (ow hw 78 rfl)) (notFace_of_selects (args := #[]) (mvT hZ (ow hw 80 rfl))) (mvT hZ (ow hw 80 rfl)) (mvT hZ (ow hw 79 rfl)) (by decide) (backOf (W := 0) (rm11R l Z a0 hw [] b217_0 b1 ra q15 q17 T217.heap n0 (by omega) Y217_0 Y217_1 Y217_2 Y217_3 Y223 Y224 Y225 Y226) hZ (ow hw 81 rfl) (ow hw 15 rfl) (by decide) (by decide)) q222a q222c (g := (mkF m 263 #[sI p0, sI p1, sI p2, sL q3, sS, sL q4, sS, sI p5, sI i8, sI i9, sI i10, sI i11, sI i12, sR ra, sN, sL q15, sS, sL q17, sS, sL q19, sS, sL q21, sS, sR b1, sR b3, sR b5, sR b5, sR b3] [(.ref b1), (.ref b217_0)])) rfl (by rw [hml]; rfl) (Steps.refl _) (argsL := [(.ref b1)]) (rest := []) (lenOf pd139B_5 rfl) rfl (by show 2 * 0 + _ ≤ _; exact Nat.le_of_eq rfl) (hb hby at_263) (fun vm₁ hvm => ⟨rfl, rfl, (by decide : 27 + 0 ≤ _), (by decide : 3284 + 0 ≤ _)⟩)
        dsimp only [Pt.U, Pt.locs, Pt.cells, Pt.slots] at X222 l222 y222 z222 st222 hQ222
        subst l222 y222 z222
        obtain ⟨rfl, N222q, e222⟩ := hQ222
        have N222 := Fr.app N217 N222q
        refine GoW.trans st222 ?_
        show GoW p e below s _ _ _ (T222.setTop (mkF m 266 #[sI p0, sI p1, sI p2, sL q3, sS, sL q4, sS, sI p5, sI i8, sI i9, sI i10, sI i11, sI i12, sR ra, sN, sL q15, sS, sL q17, sS, sL q19, sS, sL q21, sS, sR b1, sR b3, sR b5, sR b5, sR b3] [(.int (1 : Int32))]))
        refine GoW.pre (st' := T222.setTop (mkF m 273 #[sI p0, sI p1, sI p2, sL q3, sS, sL q4, sS, sI p5, sI i8, sI i9, sI i10, sI i11, sI i12, sR ra, sN, sL q15, sS, sL q17, sS, sL q19, sS, sL q21, sS, sR b1, sR b3, sR b5, sR b5, sR b3] [(.int i10), (.ref b5)])) (fun target kt => ?_) ?_
        · show Steps p.tables e below (T222.setTop (mkF m 266 #[sI p0, sI p1, sI p2, sL q3, sS, sL q4, sS, sI p5, sI i8, sI i9, sI i10, sI i11, sI i12, sR ra, sN, sL q15, sS, sL q17, sS, sL q19, sS, sL q21, sS, sR b1, sR b3, sR b5, sR b5, sR b3] [(.int (1 : Int32))])) _
          refine XS.ifNo X222.here hx rfl (hb hby at_266) rfl ((if0 _ _).trans (feq (by decide)).1) ?_
          refine XS.aload X222.here hx rfl (hb hby at_269) rfl rfl ?_
          refine XS.iload X222.here hx rfl (hb hby at_271) rfl ?_
          exact kt
        have Y228 : Exa Z T217.heap b5 "com/example/satzung/satzung/validate/PlacePage" := (Y218.keep K217)
        have Y229 : Fld Z T217.heap b5 "com/example/satzung/satzung/validate/PlacePage" "entities" "[Ljava/lang/String;" (.ref b6_0) := (Y219.keep K217 nin0)
        have Y230 : Arf Z T217.heap b6_0 k6_0 (.object "java/lang/String") (1024 : Int32) (own_upd (own_upd (own_upd (fun _ => .null) i10 .null) i9 (.ref ra)) i8 (.ref ra)) := (Y137_0.keep K217 nin0)
        have Y231 : Fld Z T217.heap b5 "com/example/satzung/satzung/validate/PlacePage" "lines" "[J" (.ref b6_1) := (Y220.keep K217 nin0)
        have Y232 : Arf Z T217.heap b6_1 k6_1 .long (1024 : Int32) (own_upd (own_upd (own_upd (fun _ => (.long (0 : Int64))) i10 (.long q19)) i9 (.long q15)) i8 (.long q15)) := (Y137_1.keep K217 nin0)
        have Y233 : Fld Z T217.heap b5 "com/example/satzung/satzung/validate/PlacePage" "columns" "[J" (.ref b6_2) := (Y221.keep K217 nin0)
        have Y234 : Arf Z T217.heap b6_2 k6_2 .long (1024 : Int32) (own_upd (own_upd (own_upd (fun _ => (.long (0 : Int64))) i10 (.long q21)) i9 (.long q17)) i8 (.long q17)) := (Y137_2.keep K217 nin0)
        obtain ⟨cq227, kq227, q227a, q227b, q227c⟩ := isOf hZ e222 Y228
        obtain ⟨_, _, ⟨T227, L227, k227, n227⟩, -, X227, ⟨Lc227, hQ227, l227, y227, z227⟩, st227⟩ := X222.virtualBack hx (y := (⟨"com/example/satzung/satzung/validate/PlacePage", "get", "(I)Lcom/example/satzung/satzung/diagnostics/Location;"⟩ : MethodName)) (z := (⟨"com/example/satzung/satzung/validate/PlacePage", "get", "(I)Lcom/example/satzung/satzung/diagnostics/Location;"⟩ : MethodName)) hown (mvT hZ (ow hw 70 rfl)) (mvT hZ (ow hw 71 rfl)) (notFace_of_selects (args := #[]) (mvT hZ (ow hw 73 rfl))) (mvT hZ (ow hw 73 rfl)) (mvT hZ (ow hw 72 rfl)) (by decide) (backOf (W := 0) (rm10N l Z a0 hw [] b5 i10 q19 q21 b6_0 b6_1 b6_2 k6_0 k6_1 k6_2 (own_upd (own_upd (own_upd (fun _ => .null) i10 .null) i9 (.ref ra)) i8 (.ref ra)) (own_upd (own_upd (own_upd (fun _ => (.long (0 : Int64))) i10 (.long q19)) i9 (.long q15)) i8 (.long q15)) (own_upd (own_upd (own_upd (fun _ => (.long (0 : Int64))) i10 (.long q21)) i9 (.long q17)) i8 (.long q17)) T217.heap n0 (by omega) Y228 Y229 Y230 Y231 Y232 Y233 Y234 Y6_4 (own_miss h230_143 (own_miss h242_180 (own_hit _ _ _))) (own_miss h230_143 (own_miss h242_180 (own_hit _ _ _))) (own_miss h230_143 (own_miss h242_180 (own_hit _ _ _))) (by first | assumption | decide) (by first | assumption | decide) (by first | assumption | decide)) hZ (ow hw 74 rfl) (ow hw 30 rfl) (by decide) (by decide)) q227a q227c (g := (mkF m 273 #[sI p0, sI p1, sI p2, sL q3, sS, sL q4, sS, sI p5, sI i8, sI i9, sI i10, sI i11, sI i12, sR ra, sN, sL q15, sS, sL q17, sS, sL q19, sS, sL q21, sS, sR b1, sR b3, sR b5, sR b5, sR b3] [(.int i10), (.ref b5)])) rfl (by rw [hml]; rfl) (Steps.refl _) (argsL := [(.int i10)]) (rest := []) (lenOf pd139B_4 rfl) rfl (by show 2 * 0 + _ ≤ _; exact Nat.le_of_eq rfl) (hb hby at_273) (fun vm₁ hvm => ⟨rfl, e222, (by decide : 27 + 1 ≤ _), (by decide : 3284 + 3 ≤ _)⟩)
        dsimp only [Pt.U, Pt.locs, Pt.cells, Pt.slots] at X227 l227 y227 z227 st227 hQ227
        subst l227 y227 z227
        obtain ⟨b227_0, rfl, N227q, K227, KF227, gb227_0, ltb227_0, Y227_0, Y227_1, Y227_2, Y227_3⟩ := hQ227
        have sz227 : T217.heap.size ≤ T227.heap.size := K227.1
        have N227 := Fr.app N222 N227q
        refine GoW.trans st227 ?_
        show GoW p e below s _ _ _ (T227.setTop (mkF m 276 #[sI p0, sI p1, sI p2, sL q3, sS, sL q4, sS, sI p5, sI i8, sI i9, sI i10, sI i11, sI i12, sR ra, sN, sL q15, sS, sL q17, sS, sL q19, sS, sL q21, sS, sR b1, sR b3, sR b5, sR b5, sR b3] [(.ref b227_0)]))
        refine GoW.pre (st' := T227.setTop (mkF m 278 #[sI p0, sI p1, sI p2, sL q3, sS, sL q4, sS, sI p5, sI i8, sI i9, sI i10, sI i11, sI i12, sR ra, sN, sL q15, sS, sL q17, sS, sL q19, sS, sL q21, sS, sR b1, sR b3, sR b5, sR b5, sR b3] [(.ref b3), (.ref b227_0)])) (fun target kt => ?_) ?_
        · show Steps p.tables e below (T227.setTop (mkF m 276 #[sI p0, sI p1, sI p2, sL q3, sS, sL q4, sS, sI p5, sI i8, sI i9, sI i10, sI i11, sI i12, sR ra, sN, sL q15, sS, sL q17, sS, sL q19, sS, sL q21, sS, sR b1, sR b3, sR b5, sR b5, sR b3] [(.ref b227_0)])) _
          refine XS.aload X227.here hx rfl (hb hby at_276) rfl rfl ?_
          exact kt
        have Y236 : Exa Z T227.heap b3 "com/example/satzung/satzung/diagnostics/Location" := (((((Y123.keep K121).keep K127).keep K137).keep K217).keep K227)
        have Y237 : Fld Z T227.heap b3 "com/example/satzung/satzung/diagnostics/Location" "entity" "Ljava/lang/String;" .null := (((((Y124.keep K121 (ninS (neN (by omega)) (ninS (neN (by omega)) (ninS (neN (by omega)) nin0)))).keep K127 (ninS (neN (by omega)) (ninS (neN (by omega)) (ninS (neN (by omega)) nin0)))).keep K137 (ninS (neN (by omega)) (ninS (neN (by omega)) (ninS (neN (by omega)) nin0)))).keep K217 nin0).keep K227 nin0)
        have Y238 : Fld Z T227.heap b3 "com/example/satzung/satzung/diagnostics/Location" "line" "J" (.long q19) := (((((Y125.keep K121 (ninS (neN (by omega)) (ninS (neN (by omega)) (ninS (neN (by omega)) nin0)))).keep K127 (ninS (neN (by omega)) (ninS (neN (by omega)) (ninS (neN (by omega)) nin0)))).keep K137 (ninS (neN (by omega)) (ninS (neN (by omega)) (ninS (neN (by omega)) nin0)))).keep K217 nin0).keep K227 nin0)
        have Y239 : Fld Z T227.heap b3 "com/example/satzung/satzung/diagnostics/Location" "column" "J" (.long q21) := (((((Y126.keep K121 (ninS (neN (by omega)) (ninS (neN (by omega)) (ninS (neN (by omega)) nin0)))).keep K127 (ninS (neN (by omega)) (ninS (neN (by omega)) (ninS (neN (by omega)) nin0)))).keep K137 (ninS (neN (by omega)) (ninS (neN (by omega)) (ninS (neN (by omega)) nin0)))).keep K217 nin0).keep K227 nin0)
        obtain ⟨cq235, kq235, q235a, q235b, q235c⟩ := isOf hZ rfl Y227_0
        obtain ⟨_, _, ⟨T235, L235, k235, n235⟩, -, X235, ⟨Lc235, hQ235, l235, y235, z235⟩, st235⟩ := X227.virtualBack hx (y := (⟨"com/example/satzung/satzung/diagnostics/Location", "equals", "(Ljava/lang/Object;)Z"⟩ : MethodName)) (z := (⟨"com/example/satzung/satzung/diagnostics/Location", "equals", "(Ljava/lang/Object;)Z"⟩ : MethodName)) hown (mvT hZ (ow hw 77 rfl)) (mvT hZ (ow hw 78 rfl)) (notFace_of_selects (args := #[]) (mvT hZ (ow hw 80 rfl))) (mvT hZ (ow hw 80 rfl)) (mvT hZ (ow hw 79 rfl)) (by decide) (backOf (W := 0) (rm11N l Z a0 hw [] b227_0 b3 q19 q21 T227.heap n0 (by omega) Y227_0 Y227_1 Y227_2 Y227_3 Y236 Y237 Y238 Y239) hZ (ow hw 81 rfl) (ow hw 15 rfl) (by decide) (by decide)) q235a q235c (g := (mkF m 278 #[sI p0, sI p1, sI p2, sL q3, sS, sL q4, sS, sI p5, sI i8, sI i9, sI i10, sI i11, sI i12, sR ra, sN, sL q15, sS, sL q17, sS, sL q19, sS, sL q21, sS, sR b1, sR b3, sR b5, sR b5, sR b3] [(.ref b3), (.ref b227_0)])) rfl (by rw [hml]; rfl) (Steps.refl _) (argsL := [(.ref b3)]) (rest := []) (lenOf pd139B_5 rfl) rfl (by show 2 * 0 + _ ≤ _; exact Nat.le_of_eq rfl) (hb hby at_278) (fun vm₁ hvm => ⟨rfl, rfl, (by decide : 28 + 0 ≤ _), (by decide : 3287 + 0 ≤ _)⟩)
        dsimp only [Pt.U, Pt.locs, Pt.cells, Pt.slots] at X235 l235 y235 z235 st235 hQ235
        subst l235 y235 z235
        obtain ⟨rfl, N235q, e235⟩ := hQ235
        have N235 := Fr.app N227 N235q
        refine GoW.trans st235 ?_
        show GoW p e below s _ _ _ (T235.setTop (mkF m 281 #[sI p0, sI p1, sI p2, sL q3, sS, sL q4, sS, sI p5, sI i8, sI i9, sI i10, sI i11, sI i12, sR ra, sN, sL q15, sS, sL q17, sS, sL q19, sS, sL q21, sS, sR b1, sR b3, sR b5, sR b5, sR b3] [(.int (1 : Int32))]))
        refine GoW.pre (st' := T235.setTop (mkF m 288 #[sI p0, sI p1, sI p2, sL q3, sS, sL q4, sS, sI p5, sI i8, sI i9, sI i10, sI i11, sI i12, sR ra, sN, sL q15, sS, sL q17, sS, sL q19, sS, sL q21, sS, sR b1, sR b3, sR b5, sR b5, sR b3] [(.int i9), (.ref b5)])) (fun target kt => ?_) ?_
        · show Steps p.tables e below (T235.setTop (mkF m 281 #[sI p0, sI p1, sI p2, sL q3, sS, sL q4, sS, sI p5, sI i8, sI i9, sI i10, sI i11, sI i12, sR ra, sN, sL q15, sS, sL q17, sS, sL q19, sS, sL q21, sS, sR b1, sR b3, sR b5, sR b5, sR b3] [(.int (1 : Int32))])) _
          refine XS.ifNo X235.here hx rfl (hb hby at_281) rfl ((if0 _ _).trans (feq (by decide)).1) ?_
          refine XS.aload X235.here hx rfl (hb hby at_284) rfl rfl ?_
          refine XS.iload X235.here hx rfl (hb hby at_286) rfl ?_
          exact kt
        have Y241 : Exa Z T227.heap b5 "com/example/satzung/satzung/validate/PlacePage" := (Y228.keep K227)
        have Y242 : Fld Z T227.heap b5 "com/example/satzung/satzung/validate/PlacePage" "entities" "[Ljava/lang/String;" (.ref b6_0) := (Y229.keep K227 nin0)
        have Y243 : Arf Z T227.heap b6_0 k6_0 (.object "java/lang/String") (1024 : Int32) (own_upd (own_upd (own_upd (fun _ => .null) i10 .null) i9 (.ref ra)) i8 (.ref ra)) := (Y230.keep K227 nin0)
        have Y244 : Fld Z T227.heap b5 "com/example/satzung/satzung/validate/PlacePage" "lines" "[J" (.ref b6_1) := (Y231.keep K227 nin0)
        have Y245 : Arf Z T227.heap b6_1 k6_1 .long (1024 : Int32) (own_upd (own_upd (own_upd (fun _ => (.long (0 : Int64))) i10 (.long q19)) i9 (.long q15)) i8 (.long q15)) := (Y232.keep K227 nin0)
        have Y246 : Fld Z T227.heap b5 "com/example/satzung/satzung/validate/PlacePage" "columns" "[J" (.ref b6_2) := (Y233.keep K227 nin0)
        have Y247 : Arf Z T227.heap b6_2 k6_2 .long (1024 : Int32) (own_upd (own_upd (own_upd (fun _ => (.long (0 : Int64))) i10 (.long q21)) i9 (.long q17)) i8 (.long q17)) := (Y234.keep K227 nin0)
        obtain ⟨cq240, kq240, q240a, q240b, q240c⟩ := isOf hZ e235 Y241
        obtain ⟨_, _, ⟨T240, L240, k240, n240⟩, -, X240, ⟨Lc240, hQ240, l240, y240, z240⟩, st240⟩ := X235.virtualBack hx (y := (⟨"com/example/satzung/satzung/validate/PlacePage", "get", "(I)Lcom/example/satzung/satzung/diagnostics/Location;"⟩ : MethodName)) (z := (⟨"com/example/satzung/satzung/validate/PlacePage", "get", "(I)Lcom/example/satzung/satzung/diagnostics/Location;"⟩ : MethodName)) hown (mvT hZ (ow hw 70 rfl)) (mvT hZ (ow hw 71 rfl)) (notFace_of_selects (args := #[]) (mvT hZ (ow hw 73 rfl))) (mvT hZ (ow hw 73 rfl)) (mvT hZ (ow hw 72 rfl)) (by decide) (backOf (W := 0) (rm10R l Z a0 hw [] b5 i9 ra q15 q17 b6_0 b6_1 b6_2 k6_0 k6_1 k6_2 (own_upd (own_upd (own_upd (fun _ => .null) i10 .null) i9 (.ref ra)) i8 (.ref ra)) (own_upd (own_upd (own_upd (fun _ => (.long (0 : Int64))) i10 (.long q19)) i9 (.long q15)) i8 (.long q15)) (own_upd (own_upd (own_upd (fun _ => (.long (0 : Int64))) i10 (.long q21)) i9 (.long q17)) i8 (.long q17)) T227.heap n0 (by omega) Y241 Y242 Y243 Y244 Y245 Y246 Y247 Y6_4 (own_or (own_hit _ _ _)) (own_or (own_hit _ _ _)) (own_or (own_hit _ _ _)) (by first | assumption | decide) (by first | assumption | decide) (by first | assumption | decide)) hZ (ow hw 74 rfl) (ow hw 30 rfl) (by decide) (by decide)) q240a q240c (g := (mkF m 288 #[sI p0, sI p1, sI p2, sL q3, sS, sL q4, sS, sI p5, sI i8, sI i9, sI i10, sI i11, sI i12, sR ra, sN, sL q15, sS, sL q17, sS, sL q19, sS, sL q21, sS, sR b1, sR b3, sR b5, sR b5, sR b3] [(.int i9), (.ref b5)])) rfl (by rw [hml]; rfl) (Steps.refl _) (argsL := [(.int i9)]) (rest := []) (lenOf pd139B_4 rfl) rfl (by show 2 * 0 + _ ≤ _; exact Nat.le_of_eq rfl) (hb hby at_288) (fun vm₁ hvm => ⟨rfl, e235, (by decide : 28 + 1 ≤ _), (by decide : 3287 + 3 ≤ _)⟩)
        dsimp only [Pt.U, Pt.locs, Pt.cells, Pt.slots] at X240 l240 y240 z240 st240 hQ240
        subst l240 y240 z240
        obtain ⟨b240_0, rfl, N240q, K240, KF240, gb240_0, ltb240_0, Y240_0, Y240_1, Y240_2, Y240_3⟩ := hQ240
        have sz240 : T227.heap.size ≤ T240.heap.size := K240.1
        have N240 := Fr.app N235 N240q
        refine GoW.trans st240 ?_
        show GoW p e below s _ _ _ (T240.setTop (mkF m 291 #[sI p0, sI p1, sI p2, sL q3, sS, sL q4, sS, sI p5, sI i8, sI i9, sI i10, sI i11, sI i12, sR ra, sN, sL q15, sS, sL q17, sS, sL q19, sS, sL q21, sS, sR b1, sR b3, sR b5, sR b5, sR b3] [(.ref b240_0)]))
        refine GoW.pre (st' := T240.setTop (mkF m 293 #[sI p0, sI p1, sI p2, sL q3, sS, sL q4, sS, sI p5, sI i8, sI i9, sI i10, sI i11, sI i12, sR ra, sN, sL q15, sS, sL q17, sS, sL q19, sS, sL q21, sS, sR b1, sR b3, sR b5, sR b5, sR b3] [(.ref b1), (.ref b240_0)])) (fun target kt => ?_) ?_
        · show Steps p.tables e below (T240.setTop (mkF m 291 #[sI p0, sI p1, sI p2, sL q3, sS, sL q4, sS, sI p5, sI i8, sI i9, sI i10, sI i11, sI i12, sR ra, sN, sL q15, sS, sL q17, sS, sL q19, sS, sL q21, sS, sR b1, sR b3, sR b5, sR b5, sR b3] [(.ref b240_0)])) _
          refine XS.aload X240.here hx rfl (hb hby at_291) rfl rfl ?_
          exact kt
        have Y249 : Exa Z T240.heap b1 "com/example/satzung/satzung/diagnostics/Location" := ((Y223.keep K227).keep K240)
        have Y250 : Fld Z T240.heap b1 "com/example/satzung/satzung/diagnostics/Location" "entity" "Ljava/lang/String;" (.ref ra) := ((Y224.keep K227 nin0).keep K240 nin0)
        have Y251 : Fld Z T240.heap b1 "com/example/satzung/satzung/diagnostics/Location" "line" "J" (.long q15) := ((Y225.keep K227 nin0).keep K240 nin0)
        have Y252 : Fld Z T240.heap b1 "com/example/satzung/satzung/diagnostics/Location" "column" "J" (.long q17) := ((Y226.keep K227 nin0).keep K240 nin0)
        obtain ⟨cq248, kq248, q248a, q248b, q248c⟩ := isOf hZ rfl Y240_0
        obtain ⟨_, _, ⟨T248, L248, k248, n248⟩, -, X248, ⟨Lc248, hQ248, l248, y248, z248⟩, st248⟩ := X240.virtualBack hx (y := (⟨"com/example/satzung/satzung/diagnostics/Location", "equals", "(Ljava/lang/Object;)Z"⟩ : MethodName)) (z := (⟨"com/example/satzung/satzung/diagnostics/Location", "equals", "(Ljava/lang/Object;)Z"⟩ : MethodName)) hown (mvT hZ (ow hw 77 rfl)) (mvT hZ (ow hw 78 rfl)) (notFace_of_selects (args := #[]) (mvT hZ (ow hw 80 rfl))) (mvT hZ (ow hw 80 rfl)) (mvT hZ (ow hw 79 rfl)) (by decide) (backOf (W := 0) (rm11R l Z a0 hw [] b240_0 b1 ra q15 q17 T240.heap n0 (by omega) Y240_0 Y240_1 Y240_2 Y240_3 Y249 Y250 Y251 Y252) hZ (ow hw 81 rfl) (ow hw 15 rfl) (by decide) (by decide)) q248a q248c (g := (mkF m 293 #[sI p0, sI p1, sI p2, sL q3, sS, sL q4, sS, sI p5, sI i8, sI i9, sI i10, sI i11, sI i12, sR ra, sN, sL q15, sS, sL q17, sS, sL q19, sS, sL q21, sS, sR b1, sR b3, sR b5, sR b5, sR b3] [(.ref b1), (.ref b240_0)])) rfl (by rw [hml]; rfl) (Steps.refl _) (argsL := [(.ref b1)]) (rest := []) (lenOf pd139B_5 rfl) rfl (by show 2 * 0 + _ ≤ _; exact Nat.le_of_eq rfl) (hb hby at_293) (fun vm₁ hvm => ⟨rfl, rfl, (by decide : 29 + 0 ≤ _), (by decide : 3290 + 0 ≤ _)⟩)
        dsimp only [Pt.U, Pt.locs, Pt.cells, Pt.slots] at X248 l248 y248 z248 st248 hQ248
        subst l248 y248 z248
        obtain ⟨rfl, N248q, e248⟩ := hQ248
        have N248 := Fr.app N240 N248q
        refine GoW.trans st248 ?_
        show GoW p e below s _ _ _ (T248.setTop (mkF m 296 #[sI p0, sI p1, sI p2, sL q3, sS, sL q4, sS, sI p5, sI i8, sI i9, sI i10, sI i11, sI i12, sR ra, sN, sL q15, sS, sL q17, sS, sL q19, sS, sL q21, sS, sR b1, sR b3, sR b5, sR b5, sR b3] [(.int (1 : Int32))]))
        refine GoW.pre (st' := T248.setTop (mkF m 304 #[sI p0, sI p1, sI p2, sL q3, sS, sL q4, sS, sI p5, sI i8, sI i9, sI i10, sI i11, sI i12, sR ra, sN, sL q15, sS, sL q17, sS, sL q19, sS, sL q21, sS, sR b1, sR b3, sR b5, sR b5, sR b3] [(.int (1 : Int32))])) (fun target kt => ?_) ?_
        · show Steps p.tables e below (T248.setTop (mkF m 296 #[sI p0, sI p1, sI p2, sL q3, sS, sL q4, sS, sI p5, sI i8, sI i9, sI i10, sI i11, sI i12, sR ra, sN, sL q15, sS, sL q17, sS, sL q19, sS, sL q21, sS, sR b1, sR b3, sR b5, sR b5, sR b3] [(.int (1 : Int32))])) _
          refine XS.ifNo X248.here hx rfl (hb hby at_296) rfl ((if0 _ _).trans (feq (by decide)).1) ?_
          refine XS.iconst X248.here hx rfl (hb hby at_299) ?_
          refine XS.goto X248.here hx rfl (pc0 := 300) (pc' := 304) rfl (hb hby at_300) (by decide) (by decide) ?_
          exact kt
        exact GoW.retN X248 hS (leH e248 (by omega)) hx hlk hrt (z' := (1 : Int32)) (by simp) (hb hby at_304) rfl (by decide) (by decide) (by first | exact ⟨rfl, N248⟩ | (rw [e248]; exact ⟨rfl, N248⟩))
theorem pd78A_0 : parseMethodDescriptor "(JJ)J" = some ⟨[.long, .long], some .long⟩ := by decide +kernel
set_option maxRecDepth 65536 in
set_option maxHeartbeats 40000000 in
theorem blk78A {p : Program} {l : Launch} {e : Env} {s : State} {m : MethodId} {args : Array Value} {below : List Frame} {meth : Method} {c : Code} {Z : State} {a0 : Array Value} {T : State} {locs : List Loc} {h0 : Heap} {n0 : Nat} {vm0 : Vm} {k0 : Nat} (C : Ctx p (s.setVm vm0) m meth c Z code 28 "com/example/satzung/satzung/validate/PlacePageSetPinLaw" (some .boolean)) (hw : ∀ d ∈ tables_1, d.before a0 Z = true) (hS : s.Since vm0 k0) (hk : k0 ≤ h0.size) (hI : IB Z vm0 ["b", ""]) (hnS : n0 = s.heap.size) (hkp : ∀ (b : Addr) (cl : Cell), Z.heap[b]? = some cl → s.heap[b]? = some cl)
    (X0 : Stand p l e room_1 (s.setVm vm0) m args below meth c T locs 20 200) (e0 : T.heap = h0) (N0 : Fr n0 locs) (p0 : Int32) (p1 : Int32) (p2 : Int32) (q3 : Int64) (q4 : Int64) (p5 : Int32) (i8 : Int32) (i9 : Int32) (i10 : Int32) (i11 : Int32) (i12 : Int32) (rb : Addr) (Z0 : n0 ≤ h0.size) (E_rb : Exa Z h0 rb "java/lang/String") (hin8 : ¬ (i8 < 0 ∨ (1024 : Int32).toNatClampNeg ≤ i8.toNatClampNeg)) (hin9 : ¬ (i9 < 0 ∨ (1024 : Int32).toNatClampNeg ≤ i9.toNatClampNeg)) (hin10 : ¬ (i10 < 0 ∨ (1024 : Int32).toNatClampNeg ≤ i10.toNatClampNeg)) :
    GoW p e below s 48 14528 (fun v vm h L => v = some (.int 1) ∧ Fr n0 L) (T.setTop (mkF m 78 #[sI p0, sI p1, sI p2, sL q3, sS, sL q4, sS, sI p5, sI i8, sI i9, sI i10, sI i11, sI i12, sN, sR rb, sU, sU, sU, sU, sU, sU, sU, sU, sU, sU, sU, sU, sU] [])) := by
  obtain ⟨hx, hZ, hby, hml, hown, hrt, hlk⟩ := id C
  have lt_E_rb : LT.lt (α := Nat) rb h0.size := E_rb.lt
  refine GoW.pre (st' := T.setTop (mkF m 84 #[sI p0, sI p1, sI p2, sL q3, sS, sL q4, sS, sI p5, sI i8, sI i9, sI i10, sI i11, sI i12, sN, sR rb, sU, sU, sU, sU, sU, sU, sU, sU, sU, sU, sU, sU, sU] [(.long (q3 &&& (9223372036854775807 : Int64))), (.long (1 : Int64))])) (fun target kt => ?_) ?_
  · show Steps p.tables e below (T.setTop (mkF m 78 #[sI p0, sI p1, sI p2, sL q3, sS, sL q4, sS, sI p5, sI i8, sI i9, sI i10, sI i11, sI i12, sN, sR rb, sU, sU, sU, sU, sU, sU, sU, sU, sU, sU, sU, sU, sU] [])) _
    refine XS.lconst X0.here hx rfl (hb hby at_78) ?_
    refine XS.lloadN X0.here hx rfl (hb hby at_79) rfl ?_
    refine X0.ldc2Long hx hown (mvT hZ (ow hw 8 rfl)) (g := (mkF m 80 #[sI p0, sI p1, sI p2, sL q3, sS, sL q4, sS, sI p5, sI i8, sI i9, sI i10, sI i11, sI i12, sN, sR rb, sU, sU, sU, sU, sU, sU, sU, sU, sU, sU, sU, sU, sU] [(.long q3), (.long (1 : Int64))])) rfl (hb hby at_80) _ ?_
    refine XS.land X0.here hx rfl (hb hby at_83) rfl ?_
    exact kt
  obtain ⟨_, _, ⟨T1, L1, k1, n1⟩, -, X1, ⟨Lc1, hQ1, l1, y1, z1⟩, st1⟩ := Jvm.LawKit.callS X0 hx (y := (⟨"java/lang/Math", "max", "(JJ)J"⟩ : MethodName)) hown (mvT hZ (ow hw 9 rfl)) (mvT hZ (ow hw 10 rfl)) (mvT hZ (ow hw 11 rfl)) (mvT hZ (ow hw 12 rfl)) (by decide) (backOf (W := 0) (rm1 l Z a0 hw [] (1 : Int64) (q3 &&& (9223372036854775807 : Int64)) h0 n0 (by omega) ) hZ (ow hw 12 rfl) (ow hw 11 rfl) (by decide) (by decide)) (g := (mkF m 84 #[sI p0, sI p1, sI p2, sL q3, sS, sL q4, sS, sI p5, sI i8, sI i9, sI i10, sI i11, sI i12, sN, sR rb, sU, sU, sU, sU, sU, sU, sU, sU, sU, sU, sU, sU, sU] [(.long (q3 &&& (9223372036854775807 : Int64))), (.long (1 : Int64))])) rfl (by rw [hml]; rfl) (argsL := [(.long (1 : Int64)), (.long (q3 &&& (9223372036854775807 : Int64)))]) (rest := []) (lenOf pd78A_0 rfl) rfl (by show 2 * 0 + _ ≤ _; exact Nat.le_of_eq rfl) (hb hby at_84) (fun vm₁ hvm => ⟨rfl, e0, (by decide : 20 + 0 ≤ _), (by decide : 200 + 0 ≤ _)⟩)
  dsimp only [Pt.U, Pt.locs, Pt.cells, Pt.slots] at X1 l1 y1 z1 st1 hQ1
  subst l1 y1 z1
  obtain ⟨rfl, N1q, e1⟩ := hQ1
  have N1 := Fr.app N0 N1q
  refine GoW.pre st1 ?_
  show GoW p e below s _ _ _ (T1.setTop (mkF m 87 #[sI p0, sI p1, sI p2, sL q3, sS, sL q4, sS, sI p5, sI i8, sI i9, sI i10, sI i11, sI i12, sN, sR rb, sU, sU, sU, sU, sU, sU, sU, sU, sU, sU, sU, sU, sU] [(.long (own_maxL (1 : Int64) (q3 &&& (9223372036854775807 : Int64))))]))
  refine GoW.pre (st' := T1.setTop (mkF m 96 #[sI p0, sI p1, sI p2, sL q3, sS, sL q4, sS, sI p5, sI i8, sI i9, sI i10, sI i11, sI i12, sN, sR rb, .val (.long (own_maxL (1 : Int64) (q3 &&& (9223372036854775807 : Int64)))), sS, sU, sU, sU, sU, sU, sU, sU, sU, sU, sU, sU] [(.long (q4 &&& (9223372036854775807 : Int64))), (.long (1 : Int64))])) (fun target kt => ?_) ?_
  · show Steps p.tables e below (T1.setTop (mkF m 87 #[sI p0, sI p1, sI p2, sL q3, sS, sL q4, sS, sI p5, sI i8, sI i9, sI i10, sI i11, sI i12, sN, sR rb, sU, sU, sU, sU, sU, sU, sU, sU, sU, sU, sU, sU, sU] [(.long (own_maxL (1 : Int64) (q3 &&& (9223372036854775807 : Int64))))])) _
    refine XS.lstore X1.here hx rfl (hb hby at_87) rfl (l' := #[.val (.int p0), .val (.int p1), .val (.int p2), .val (.long q3), .second, .val (.long q4), .second, .val (.int p5), .val (.int i8), .val (.int i9), .val (.int i10), .val (.int i11), .val (.int i12), .val .null, .val (.ref rb), .val (.long (own_maxL (1 : Int64) (q3 &&& (9223372036854775807 : Int64)))), .second, .unset, .unset, .unset, .unset, .unset, .unset, .unset, .unset, .unset, .unset, .unset]) rfl ?_
    refine XS.lconst X1.here hx rfl (hb hby at_89) ?_
    refine XS.lload X1.here hx rfl (hb hby at_90) rfl ?_
    refine X1.ldc2Long hx hown (mvT hZ (ow hw 8 rfl)) (g := (mkF m 92 #[sI p0, sI p1, sI p2, sL q3, sS, sL q4, sS, sI p5, sI i8, sI i9, sI i10, sI i11, sI i12, sN, sR rb, .val (.long (own_maxL (1 : Int64) (q3 &&& (9223372036854775807 : Int64)))), sS, sU, sU, sU, sU, sU, sU, sU, sU, sU, sU, sU] [(.long q4), (.long (1 : Int64))])) rfl (hb hby at_92) _ ?_
    refine XS.land X1.here hx rfl (hb hby at_95) rfl ?_
    exact kt
  obtain ⟨_, _, ⟨T2, L2, k2, n2⟩, -, X2, ⟨Lc2, hQ2, l2, y2, z2⟩, st2⟩ := Jvm.LawKit.callS X1 hx (y := (⟨"java/lang/Math", "max", "(JJ)J"⟩ : MethodName)) hown (mvT hZ (ow hw 9 rfl)) (mvT hZ (ow hw 10 rfl)) (mvT hZ (ow hw 11 rfl)) (mvT hZ (ow hw 12 rfl)) (by decide) (backOf (W := 0) (rm1 l Z a0 hw [] (1 : Int64) (q4 &&& (9223372036854775807 : Int64)) h0 n0 (by omega) ) hZ (ow hw 12 rfl) (ow hw 11 rfl) (by decide) (by decide)) (g := (mkF m 96 #[sI p0, sI p1, sI p2, sL q3, sS, sL q4, sS, sI p5, sI i8, sI i9, sI i10, sI i11, sI i12, sN, sR rb, .val (.long (own_maxL (1 : Int64) (q3 &&& (9223372036854775807 : Int64)))), sS, sU, sU, sU, sU, sU, sU, sU, sU, sU, sU, sU] [(.long (q4 &&& (9223372036854775807 : Int64))), (.long (1 : Int64))])) rfl (by rw [hml]; rfl) (argsL := [(.long (1 : Int64)), (.long (q4 &&& (9223372036854775807 : Int64)))]) (rest := []) (lenOf pd78A_0 rfl) rfl (by show 2 * 0 + _ ≤ _; exact Nat.le_of_eq rfl) (hb hby at_96) (fun vm₁ hvm => ⟨rfl, e1, (by decide : 20 + 0 ≤ _), (by decide : 200 + 0 ≤ _)⟩)
  dsimp only [Pt.U, Pt.locs, Pt.cells, Pt.slots] at X2 l2 y2 z2 st2 hQ2
  subst l2 y2 z2
  obtain ⟨rfl, N2q, e2⟩ := hQ2
  have N2 := Fr.app N1 N2q
  refine GoW.pre st2 ?_
  show GoW p e below s _ _ _ (T2.setTop (mkF m 99 #[sI p0, sI p1, sI p2, sL q3, sS, sL q4, sS, sI p5, sI i8, sI i9, sI i10, sI i11, sI i12, sN, sR rb, .val (.long (own_maxL (1 : Int64) (q3 &&& (9223372036854775807 : Int64)))), sS, sU, sU, sU, sU, sU, sU, sU, sU, sU, sU, sU] [(.long (own_maxL (1 : Int64) (q4 &&& (9223372036854775807 : Int64))))]))
  refine GoW.pre (st' := T2.setTop (mkF m 107 #[sI p0, sI p1, sI p2, sL q3, sS, sL q4, sS, sI p5, sI i8, sI i9, sI i10, sI i11, sI i12, sN, sR rb, .val (.long (own_maxL (1 : Int64) (q3 &&& (9223372036854775807 : Int64)))), sS, .val (.long (own_maxL (1 : Int64) (q4 &&& (9223372036854775807 : Int64)))), sS, sU, sU, sU, sU, sU, sU, sU, sU, sU] [(.int (lcmpW (own_maxL (1 : Int64) (q3 &&& (9223372036854775807 : Int64))) (9223372036854775807 : Int64)))])) (fun target kt => ?_) ?_
  · show Steps p.tables e below (T2.setTop (mkF m 99 #[sI p0, sI p1, sI p2, sL q3, sS, sL q4, sS, sI p5, sI i8, sI i9, sI i10, sI i11, sI i12, sN, sR rb, .val (.long (own_maxL (1 : Int64) (q3 &&& (9223372036854775807 : Int64)))), sS, sU, sU, sU, sU, sU, sU, sU, sU, sU, sU, sU] [(.long (own_maxL (1 : Int64) (q4 &&& (9223372036854775807 : Int64))))])) _
    refine XS.lstore X2.here hx rfl (hb hby at_99) rfl (l' := #[.val (.int p0), .val (.int p1), .val (.int p2), .val (.long q3), .second, .val (.long q4), .second, .val (.int p5), .val (.int i8), .val (.int i9), .val (.int i10), .val (.int i11), .val (.int i12), .val .null, .val (.ref rb), .val (.long (own_maxL (1 : Int64) (q3 &&& (9223372036854775807 : Int64)))), .second, .val (.long (own_maxL (1 : Int64) (q4 &&& (9223372036854775807 : Int64)))), .second, .unset, .unset, .unset, .unset, .unset, .unset, .unset, .unset, .unset]) rfl ?_
    refine XS.lload X2.here hx rfl (hb hby at_101) rfl ?_
    refine X2.ldc2Long hx hown (mvT hZ (ow hw 8 rfl)) (g := (mkF m 103 #[sI p0, sI p1, sI p2, sL q3, sS, sL q4, sS, sI p5, sI i8, sI i9, sI i10, sI i11, sI i12, sN, sR rb, .val (.long (own_maxL (1 : Int64) (q3 &&& (9223372036854775807 : Int64)))), sS, .val (.long (own_maxL (1 : Int64) (q4 &&& (9223372036854775807 : Int64)))), sS, sU, sU, sU, sU, sU, sU, sU, sU, sU] [(.long (own_maxL (1 : Int64) (q3 &&& (9223372036854775807 : Int64))))])) rfl (hb hby at_103) _ ?_
    refine XS.lcmp X2.here hx rfl (hb hby at_106) rfl ?_
    exact kt
  by_cases h107_3 : (own_maxL (1 : Int64) (q3 &&& (9223372036854775807 : Int64))) = (9223372036854775807 : Int64)
  · refine GoW.pre (st' := T2.setTop (mkF m 110 #[sI p0, sI p1, sI p2, sL q3, sS, sL q4, sS, sI p5, sI i8, sI i9, sI i10, sI i11, sI i12, sN, sR rb, .val (.long (own_maxL (1 : Int64) (q3 &&& (9223372036854775807 : Int64)))), sS, .val (.long (own_maxL (1 : Int64) (q4 &&& (9223372036854775807 : Int64)))), sS, sU, sU, sU, sU, sU, sU, sU, sU, sU] [])) (fun target kt => ?_) ?_
    · show Steps p.tables e below (T2.setTop (mkF m 107 #[sI p0, sI p1, sI p2, sL q3, sS, sL q4, sS, sI p5, sI i8, sI i9, sI i10, sI i11, sI i12, sN, sR rb, .val (.long (own_maxL (1 : Int64) (q3 &&& (9223372036854775807 : Int64)))), sS, .val (.long (own_maxL (1 : Int64) (q4 &&& (9223372036854775807 : Int64)))), sS, sU, sU, sU, sU, sU, sU, sU, sU, sU] [(.int (lcmpW (own_maxL (1 : Int64) (q3 &&& (9223372036854775807 : Int64))) (9223372036854775807 : Int64)))])) _
      refine XS.ifNo X2.here hx rfl (hb hby at_107) rfl ((if0 _ _).trans (teq ((lw_eq _ _).mpr h107_3)).2) ?_
      exact kt
    refine GoW.pre (st' := T2.setTop (mkF m 126 #[sI p0, sI p1, sI p2, sL q3, sS, sL q4, sS, sI p5, sI i8, sI i9, sI i10, sI i11, sI i12, sN, sR rb, .val (.long (own_maxL (1 : Int64) (q3 &&& (9223372036854775807 : Int64)))), sS, .val (.long (own_maxL (1 : Int64) (q4 &&& (9223372036854775807 : Int64)))), sS, sL (1 : Int64), sS, sU, sU, sU, sU, sU, sU, sU] [(.int (lcmpW (own_maxL (1 : Int64) (q4 &&& (9223372036854775807 : Int64))) (9223372036854775807 : Int64)))])) (fun target kt => ?_) ?_
    · show Steps p.tables e below (T2.setTop (mkF m 110 #[sI p0, sI p1, sI p2, sL q3, sS, sL q4, sS, sI p5, sI i8, sI i9, sI i10, sI i11, sI i12, sN, sR rb, .val (.long (own_maxL (1 : Int64) (q3 &&& (9223372036854775807 : Int64)))), sS, .val (.long (own_maxL (1 : Int64) (q4 &&& (9223372036854775807 : Int64)))), sS, sU, sU, sU, sU, sU, sU, sU, sU, sU] [])) _
      refine XS.lconst X2.here hx rfl (hb hby at_110) ?_
      refine XS.goto X2.here hx rfl (pc0 := 111) (pc' := 118) rfl (hb hby at_111) (by decide) (by decide) ?_
      refine XS.lstore X2.here hx rfl (hb hby at_118) rfl (l' := #[.val (.int p0), .val (.int p1), .val (.int p2), .val (.long q3), .second, .val (.long q4), .second, .val (.int p5), .val (.int i8), .val (.int i9), .val (.int i10), .val (.int i11), .val (.int i12), .val .null, .val (.ref rb), .val (.long (own_maxL (1 : Int64) (q3 &&& (9223372036854775807 : Int64)))), .second, .val (.long (own_maxL (1 : Int64) (q4 &&& (9223372036854775807 : Int64)))), .second, .val (.long (1 : Int64)), .second, .unset, .unset, .unset, .unset, .unset, .unset, .unset]) rfl ?_
      refine XS.lload X2.here hx rfl (hb hby at_120) rfl ?_
      refine X2.ldc2Long hx hown (mvT hZ (ow hw 8 rfl)) (g := (mkF m 122 #[sI p0, sI p1, sI p2, sL q3, sS, sL q4, sS, sI p5, sI i8, sI i9, sI i10, sI i11, sI i12, sN, sR rb, .val (.long (own_maxL (1 : Int64) (q3 &&& (9223372036854775807 : Int64)))), sS, .val (.long (own_maxL (1 : Int64) (q4 &&& (9223372036854775807 : Int64)))), sS, sL (1 : Int64), sS, sU, sU, sU, sU, sU, sU, sU] [(.long (own_maxL (1 : Int64) (q4 &&& (9223372036854775807 : Int64))))])) rfl (hb hby at_122) _ ?_
      refine XS.lcmp X2.here hx rfl (hb hby at_125) rfl ?_
      exact kt
    by_cases h126_4 : (own_maxL (1 : Int64) (q4 &&& (9223372036854775807 : Int64))) = (9223372036854775807 : Int64)
    · refine GoW.pre (st' := T2.setTop (mkF m 129 #[sI p0, sI p1, sI p2, sL q3, sS, sL q4, sS, sI p5, sI i8, sI i9, sI i10, sI i11, sI i12, sN, sR rb, .val (.long (own_maxL (1 : Int64) (q3 &&& (9223372036854775807 : Int64)))), sS, .val (.long (own_maxL (1 : Int64) (q4 &&& (9223372036854775807 : Int64)))), sS, sL (1 : Int64), sS, sU, sU, sU, sU, sU, sU, sU] [])) (fun target kt => ?_) ?_
      · show Steps p.tables e below (T2.setTop (mkF m 126 #[sI p0, sI p1, sI p2, sL q3, sS, sL q4, sS, sI p5, sI i8, sI i9, sI i10, sI i11, sI i12, sN, sR rb, .val (.long (own_maxL (1 : Int64) (q3 &&& (9223372036854775807 : Int64)))), sS, .val (.long (own_maxL (1 : Int64) (q4 &&& (9223372036854775807 : Int64)))), sS, sL (1 : Int64), sS, sU, sU, sU, sU, sU, sU, sU] [(.int (lcmpW (own_maxL (1 : Int64) (q4 &&& (9223372036854775807 : Int64))) (9223372036854775807 : Int64)))])) _
        refine XS.ifNo X2.here hx rfl (hb hby at_126) rfl ((if0 _ _).trans (teq ((lw_eq _ _).mpr h126_4)).2) ?_
        exact kt
      refine GoW.pre (st' := T2.setTop (mkF m 139 #[sI p0, sI p1, sI p2, sL q3, sS, sL q4, sS, sI p5, sI i8, sI i9, sI i10, sI i11, sI i12, sN, sR rb, .val (.long (own_maxL (1 : Int64) (q3 &&& (9223372036854775807 : Int64)))), sS, .val (.long (own_maxL (1 : Int64) (q4 &&& (9223372036854775807 : Int64)))), sS, sL (1 : Int64), sS, sL (1 : Int64), sS, sU, sU, sU, sU, sU] [])) (fun target kt => ?_) ?_
      · show Steps p.tables e below (T2.setTop (mkF m 129 #[sI p0, sI p1, sI p2, sL q3, sS, sL q4, sS, sI p5, sI i8, sI i9, sI i10, sI i11, sI i12, sN, sR rb, .val (.long (own_maxL (1 : Int64) (q3 &&& (9223372036854775807 : Int64)))), sS, .val (.long (own_maxL (1 : Int64) (q4 &&& (9223372036854775807 : Int64)))), sS, sL (1 : Int64), sS, sU, sU, sU, sU, sU, sU, sU] [])) _
        refine XS.lconst X2.here hx rfl (hb hby at_129) ?_
        refine XS.goto X2.here hx rfl (pc0 := 130) (pc' := 137) rfl (hb hby at_130) (by decide) (by decide) ?_
        refine XS.lstore X2.here hx rfl (hb hby at_137) rfl (l' := #[.val (.int p0), .val (.int p1), .val (.int p2), .val (.long q3), .second, .val (.long q4), .second, .val (.int p5), .val (.int i8), .val (.int i9), .val (.int i10), .val (.int i11), .val (.int i12), .val .null, .val (.ref rb), .val (.long (own_maxL (1 : Int64) (q3 &&& (9223372036854775807 : Int64)))), .second, .val (.long (own_maxL (1 : Int64) (q4 &&& (9223372036854775807 : Int64)))), .second, .val (.long (1 : Int64)), .second, .val (.long (1 : Int64)), .second, .unset, .unset, .unset, .unset, .unset]) rfl ?_
        exact kt
      exact blk139A ⟨hx, hZ, hby, hml, hown, hrt, hlk⟩ hw hS (by omega) (IB.sup hI (by simp)) hnS hkp X2 e2 N2 p0 p1 p2 q3 q4 p5 i8 i9 i10 i11 i12 rb (own_maxL (1 : Int64) (q3 &&& (9223372036854775807 : Int64))) (own_maxL (1 : Int64) (q4 &&& (9223372036854775807 : Int64))) (1 : Int64) (1 : Int64) (by omega) E_rb hin8 hin9 hin10 (own_max1 _) (own_max1 _) (by decide) (by decide)
    · refine GoW.pre (st' := T2.setTop (mkF m 133 #[sI p0, sI p1, sI p2, sL q3, sS, sL q4, sS, sI p5, sI i8, sI i9, sI i10, sI i11, sI i12, sN, sR rb, .val (.long (own_maxL (1 : Int64) (q3 &&& (9223372036854775807 : Int64)))), sS, .val (.long (own_maxL (1 : Int64) (q4 &&& (9223372036854775807 : Int64)))), sS, sL (1 : Int64), sS, sU, sU, sU, sU, sU, sU, sU] [])) (fun target kt => ?_) ?_
      · show Steps p.tables e below (T2.setTop (mkF m 126 #[sI p0, sI p1, sI p2, sL q3, sS, sL q4, sS, sI p5, sI i8, sI i9, sI i10, sI i11, sI i12, sN, sR rb, .val (.long (own_maxL (1 : Int64) (q3 &&& (9223372036854775807 : Int64)))), sS, .val (.long (own_maxL (1 : Int64) (q4 &&& (9223372036854775807 : Int64)))), sS, sL (1 : Int64), sS, sU, sU, sU, sU, sU, sU, sU] [(.int (lcmpW (own_maxL (1 : Int64) (q4 &&& (9223372036854775807 : Int64))) (9223372036854775807 : Int64)))])) _
        refine XS.ifYes X2.here hx rfl (pc0 := 126) (pc' := 133) rfl (hb hby at_126) rfl ((if0 _ _).trans (feq (fun q => h126_4 ((lw_eq _ _).mp q))).2) (by decide) (by decide) ?_
        exact kt
      refine GoW.pre (st' := T2.setTop (mkF m 139 #[sI p0, sI p1, sI p2, sL q3, sS, sL q4, sS, sI p5, sI i8, sI i9, sI i10, sI i11, sI i12, sN, sR rb, .val (.long (own_maxL (1 : Int64) (q3 &&& (9223372036854775807 : Int64)))), sS, .val (.long (own_maxL (1 : Int64) (q4 &&& (9223372036854775807 : Int64)))), sS, sL (1 : Int64), sS, .val (.long ((own_maxL (1 : Int64) (q4 &&& (9223372036854775807 : Int64))) + (1 : Int64))), sS, sU, sU, sU, sU, sU] [])) (fun target kt => ?_) ?_
      · show Steps p.tables e below (T2.setTop (mkF m 133 #[sI p0, sI p1, sI p2, sL q3, sS, sL q4, sS, sI p5, sI i8, sI i9, sI i10, sI i11, sI i12, sN, sR rb, .val (.long (own_maxL (1 : Int64) (q3 &&& (9223372036854775807 : Int64)))), sS, .val (.long (own_maxL (1 : Int64) (q4 &&& (9223372036854775807 : Int64)))), sS, sL (1 : Int64), sS, sU, sU, sU, sU, sU, sU, sU] [])) _
        refine XS.lload X2.here hx rfl (hb hby at_133) rfl ?_
        refine XS.lconst X2.here hx rfl (hb hby at_135) ?_
        refine XS.ladd X2.here hx rfl (hb hby at_136) rfl ?_
        refine XS.lstore X2.here hx rfl (hb hby at_137) rfl (l' := #[.val (.int p0), .val (.int p1), .val (.int p2), .val (.long q3), .second, .val (.long q4), .second, .val (.int p5), .val (.int i8), .val (.int i9), .val (.int i10), .val (.int i11), .val (.int i12), .val .null, .val (.ref rb), .val (.long (own_maxL (1 : Int64) (q3 &&& (9223372036854775807 : Int64)))), .second, .val (.long (own_maxL (1 : Int64) (q4 &&& (9223372036854775807 : Int64)))), .second, .val (.long (1 : Int64)), .second, .val (.long ((own_maxL (1 : Int64) (q4 &&& (9223372036854775807 : Int64))) + (1 : Int64))), .second, .unset, .unset, .unset, .unset, .unset]) rfl ?_
        exact kt
      exact blk139A ⟨hx, hZ, hby, hml, hown, hrt, hlk⟩ hw hS (by omega) (IB.sup hI (by simp)) hnS hkp X2 e2 N2 p0 p1 p2 q3 q4 p5 i8 i9 i10 i11 i12 rb (own_maxL (1 : Int64) (q3 &&& (9223372036854775807 : Int64))) (own_maxL (1 : Int64) (q4 &&& (9223372036854775807 : Int64))) (1 : Int64) ((own_maxL (1 : Int64) (q4 &&& (9223372036854775807 : Int64))) + (1 : Int64)) (by omega) E_rb hin8 hin9 hin10 (own_max1 _) (own_max1 _) (by decide) (own_succ _ (own_max1 _) h126_4)
  · refine GoW.pre (st' := T2.setTop (mkF m 114 #[sI p0, sI p1, sI p2, sL q3, sS, sL q4, sS, sI p5, sI i8, sI i9, sI i10, sI i11, sI i12, sN, sR rb, .val (.long (own_maxL (1 : Int64) (q3 &&& (9223372036854775807 : Int64)))), sS, .val (.long (own_maxL (1 : Int64) (q4 &&& (9223372036854775807 : Int64)))), sS, sU, sU, sU, sU, sU, sU, sU, sU, sU] [])) (fun target kt => ?_) ?_
    · show Steps p.tables e below (T2.setTop (mkF m 107 #[sI p0, sI p1, sI p2, sL q3, sS, sL q4, sS, sI p5, sI i8, sI i9, sI i10, sI i11, sI i12, sN, sR rb, .val (.long (own_maxL (1 : Int64) (q3 &&& (9223372036854775807 : Int64)))), sS, .val (.long (own_maxL (1 : Int64) (q4 &&& (9223372036854775807 : Int64)))), sS, sU, sU, sU, sU, sU, sU, sU, sU, sU] [(.int (lcmpW (own_maxL (1 : Int64) (q3 &&& (9223372036854775807 : Int64))) (9223372036854775807 : Int64)))])) _
      refine XS.ifYes X2.here hx rfl (pc0 := 107) (pc' := 114) rfl (hb hby at_107) rfl ((if0 _ _).trans (feq (fun q => h107_3 ((lw_eq _ _).mp q))).2) (by decide) (by decide) ?_
      exact kt
    refine GoW.pre (st' := T2.setTop (mkF m 126 #[sI p0, sI p1, sI p2, sL q3, sS, sL q4, sS, sI p5, sI i8, sI i9, sI i10, sI i11, sI i12, sN, sR rb, .val (.long (own_maxL (1 : Int64) (q3 &&& (9223372036854775807 : Int64)))), sS, .val (.long (own_maxL (1 : Int64) (q4 &&& (9223372036854775807 : Int64)))), sS, .val (.long ((own_maxL (1 : Int64) (q3 &&& (9223372036854775807 : Int64))) + (1 : Int64))), sS, sU, sU, sU, sU, sU, sU, sU] [(.int (lcmpW (own_maxL (1 : Int64) (q4 &&& (9223372036854775807 : Int64))) (9223372036854775807 : Int64)))])) (fun target kt => ?_) ?_
    · show Steps p.tables e below (T2.setTop (mkF m 114 #[sI p0, sI p1, sI p2, sL q3, sS, sL q4, sS, sI p5, sI i8, sI i9, sI i10, sI i11, sI i12, sN, sR rb, .val (.long (own_maxL (1 : Int64) (q3 &&& (9223372036854775807 : Int64)))), sS, .val (.long (own_maxL (1 : Int64) (q4 &&& (9223372036854775807 : Int64)))), sS, sU, sU, sU, sU, sU, sU, sU, sU, sU] [])) _
      refine XS.lload X2.here hx rfl (hb hby at_114) rfl ?_
      refine XS.lconst X2.here hx rfl (hb hby at_116) ?_
      refine XS.ladd X2.here hx rfl (hb hby at_117) rfl ?_
      refine XS.lstore X2.here hx rfl (hb hby at_118) rfl (l' := #[.val (.int p0), .val (.int p1), .val (.int p2), .val (.long q3), .second, .val (.long q4), .second, .val (.int p5), .val (.int i8), .val (.int i9), .val (.int i10), .val (.int i11), .val (.int i12), .val .null, .val (.ref rb), .val (.long (own_maxL (1 : Int64) (q3 &&& (9223372036854775807 : Int64)))), .second, .val (.long (own_maxL (1 : Int64) (q4 &&& (9223372036854775807 : Int64)))), .second, .val (.long ((own_maxL (1 : Int64) (q3 &&& (9223372036854775807 : Int64))) + (1 : Int64))), .second, .unset, .unset, .unset, .unset, .unset, .unset, .unset]) rfl ?_
      refine XS.lload X2.here hx rfl (hb hby at_120) rfl ?_
      refine X2.ldc2Long hx hown (mvT hZ (ow hw 8 rfl)) (g := (mkF m 122 #[sI p0, sI p1, sI p2, sL q3, sS, sL q4, sS, sI p5, sI i8, sI i9, sI i10, sI i11, sI i12, sN, sR rb, .val (.long (own_maxL (1 : Int64) (q3 &&& (9223372036854775807 : Int64)))), sS, .val (.long (own_maxL (1 : Int64) (q4 &&& (9223372036854775807 : Int64)))), sS, .val (.long ((own_maxL (1 : Int64) (q3 &&& (9223372036854775807 : Int64))) + (1 : Int64))), sS, sU, sU, sU, sU, sU, sU, sU] [(.long (own_maxL (1 : Int64) (q4 &&& (9223372036854775807 : Int64))))])) rfl (hb hby at_122) _ ?_
      refine XS.lcmp X2.here hx rfl (hb hby at_125) rfl ?_
      exact kt
    by_cases h126_5 : (own_maxL (1 : Int64) (q4 &&& (9223372036854775807 : Int64))) = (9223372036854775807 : Int64)
    · refine GoW.pre (st' := T2.setTop (mkF m 129 #[sI p0, sI p1, sI p2, sL q3, sS, sL q4, sS, sI p5, sI i8, sI i9, sI i10, sI i11, sI i12, sN, sR rb, .val (.long (own_maxL (1 : Int64) (q3 &&& (9223372036854775807 : Int64)))), sS, .val (.long (own_maxL (1 : Int64) (q4 &&& (9223372036854775807 : Int64)))), sS, .val (.long ((own_maxL (1 : Int64) (q3 &&& (9223372036854775807 : Int64))) + (1 : Int64))), sS, sU, sU, sU, sU, sU, sU, sU] [])) (fun target kt => ?_) ?_
      · show Steps p.tables e below (T2.setTop (mkF m 126 #[sI p0, sI p1, sI p2, sL q3, sS, sL q4, sS, sI p5, sI i8, sI i9, sI i10, sI i11, sI i12, sN, sR rb, .val (.long (own_maxL (1 : Int64) (q3 &&& (9223372036854775807 : Int64)))), sS, .val (.long (own_maxL (1 : Int64) (q4 &&& (9223372036854775807 : Int64)))), sS, .val (.long ((own_maxL (1 : Int64) (q3 &&& (9223372036854775807 : Int64))) + (1 : Int64))), sS, sU, sU, sU, sU, sU, sU, sU] [(.int (lcmpW (own_maxL (1 : Int64) (q4 &&& (9223372036854775807 : Int64))) (9223372036854775807 : Int64)))])) _
        refine XS.ifNo X2.here hx rfl (hb hby at_126) rfl ((if0 _ _).trans (teq ((lw_eq _ _).mpr h126_5)).2) ?_
        exact kt
      refine GoW.pre (st' := T2.setTop (mkF m 139 #[sI p0, sI p1, sI p2, sL q3, sS, sL q4, sS, sI p5, sI i8, sI i9, sI i10, sI i11, sI i12, sN, sR rb, .val (.long (own_maxL (1 : Int64) (q3 &&& (9223372036854775807 : Int64)))), sS, .val (.long (own_maxL (1 : Int64) (q4 &&& (9223372036854775807 : Int64)))), sS, .val (.long ((own_maxL (1 : Int64) (q3 &&& (9223372036854775807 : Int64))) + (1 : Int64))), sS, sL (1 : Int64), sS, sU, sU, sU, sU, sU] [])) (fun target kt => ?_) ?_
      · show Steps p.tables e below (T2.setTop (mkF m 129 #[sI p0, sI p1, sI p2, sL q3, sS, sL q4, sS, sI p5, sI i8, sI i9, sI i10, sI i11, sI i12, sN, sR rb, .val (.long (own_maxL (1 : Int64) (q3 &&& (9223372036854775807 : Int64)))), sS, .val (.long (own_maxL (1 : Int64) (q4 &&& (9223372036854775807 : Int64)))), sS, .val (.long ((own_maxL (1 : Int64) (q3 &&& (9223372036854775807 : Int64))) + (1 : Int64))), sS, sU, sU, sU, sU, sU, sU, sU] [])) _
        refine XS.lconst X2.here hx rfl (hb hby at_129) ?_
        refine XS.goto X2.here hx rfl (pc0 := 130) (pc' := 137) rfl (hb hby at_130) (by decide) (by decide) ?_
        refine XS.lstore X2.here hx rfl (hb hby at_137) rfl (l' := #[.val (.int p0), .val (.int p1), .val (.int p2), .val (.long q3), .second, .val (.long q4), .second, .val (.int p5), .val (.int i8), .val (.int i9), .val (.int i10), .val (.int i11), .val (.int i12), .val .null, .val (.ref rb), .val (.long (own_maxL (1 : Int64) (q3 &&& (9223372036854775807 : Int64)))), .second, .val (.long (own_maxL (1 : Int64) (q4 &&& (9223372036854775807 : Int64)))), .second, .val (.long ((own_maxL (1 : Int64) (q3 &&& (9223372036854775807 : Int64))) + (1 : Int64))), .second, .val (.long (1 : Int64)), .second, .unset, .unset, .unset, .unset, .unset]) rfl ?_
        exact kt
      exact blk139A ⟨hx, hZ, hby, hml, hown, hrt, hlk⟩ hw hS (by omega) (IB.sup hI (by simp)) hnS hkp X2 e2 N2 p0 p1 p2 q3 q4 p5 i8 i9 i10 i11 i12 rb (own_maxL (1 : Int64) (q3 &&& (9223372036854775807 : Int64))) (own_maxL (1 : Int64) (q4 &&& (9223372036854775807 : Int64))) ((own_maxL (1 : Int64) (q3 &&& (9223372036854775807 : Int64))) + (1 : Int64)) (1 : Int64) (by omega) E_rb hin8 hin9 hin10 (own_max1 _) (own_max1 _) (own_succ _ (own_max1 _) h107_3) (by decide)
    · refine GoW.pre (st' := T2.setTop (mkF m 133 #[sI p0, sI p1, sI p2, sL q3, sS, sL q4, sS, sI p5, sI i8, sI i9, sI i10, sI i11, sI i12, sN, sR rb, .val (.long (own_maxL (1 : Int64) (q3 &&& (9223372036854775807 : Int64)))), sS, .val (.long (own_maxL (1 : Int64) (q4 &&& (9223372036854775807 : Int64)))), sS, .val (.long ((own_maxL (1 : Int64) (q3 &&& (9223372036854775807 : Int64))) + (1 : Int64))), sS, sU, sU, sU, sU, sU, sU, sU] [])) (fun target kt => ?_) ?_
      · show Steps p.tables e below (T2.setTop (mkF m 126 #[sI p0, sI p1, sI p2, sL q3, sS, sL q4, sS, sI p5, sI i8, sI i9, sI i10, sI i11, sI i12, sN, sR rb, .val (.long (own_maxL (1 : Int64) (q3 &&& (9223372036854775807 : Int64)))), sS, .val (.long (own_maxL (1 : Int64) (q4 &&& (9223372036854775807 : Int64)))), sS, .val (.long ((own_maxL (1 : Int64) (q3 &&& (9223372036854775807 : Int64))) + (1 : Int64))), sS, sU, sU, sU, sU, sU, sU, sU] [(.int (lcmpW (own_maxL (1 : Int64) (q4 &&& (9223372036854775807 : Int64))) (9223372036854775807 : Int64)))])) _
        refine XS.ifYes X2.here hx rfl (pc0 := 126) (pc' := 133) rfl (hb hby at_126) rfl ((if0 _ _).trans (feq (fun q => h126_5 ((lw_eq _ _).mp q))).2) (by decide) (by decide) ?_
        exact kt
      refine GoW.pre (st' := T2.setTop (mkF m 139 #[sI p0, sI p1, sI p2, sL q3, sS, sL q4, sS, sI p5, sI i8, sI i9, sI i10, sI i11, sI i12, sN, sR rb, .val (.long (own_maxL (1 : Int64) (q3 &&& (9223372036854775807 : Int64)))), sS, .val (.long (own_maxL (1 : Int64) (q4 &&& (9223372036854775807 : Int64)))), sS, .val (.long ((own_maxL (1 : Int64) (q3 &&& (9223372036854775807 : Int64))) + (1 : Int64))), sS, .val (.long ((own_maxL (1 : Int64) (q4 &&& (9223372036854775807 : Int64))) + (1 : Int64))), sS, sU, sU, sU, sU, sU] [])) (fun target kt => ?_) ?_
      · show Steps p.tables e below (T2.setTop (mkF m 133 #[sI p0, sI p1, sI p2, sL q3, sS, sL q4, sS, sI p5, sI i8, sI i9, sI i10, sI i11, sI i12, sN, sR rb, .val (.long (own_maxL (1 : Int64) (q3 &&& (9223372036854775807 : Int64)))), sS, .val (.long (own_maxL (1 : Int64) (q4 &&& (9223372036854775807 : Int64)))), sS, .val (.long ((own_maxL (1 : Int64) (q3 &&& (9223372036854775807 : Int64))) + (1 : Int64))), sS, sU, sU, sU, sU, sU, sU, sU] [])) _
        refine XS.lload X2.here hx rfl (hb hby at_133) rfl ?_
        refine XS.lconst X2.here hx rfl (hb hby at_135) ?_
        refine XS.ladd X2.here hx rfl (hb hby at_136) rfl ?_
        refine XS.lstore X2.here hx rfl (hb hby at_137) rfl (l' := #[.val (.int p0), .val (.int p1), .val (.int p2), .val (.long q3), .second, .val (.long q4), .second, .val (.int p5), .val (.int i8), .val (.int i9), .val (.int i10), .val (.int i11), .val (.int i12), .val .null, .val (.ref rb), .val (.long (own_maxL (1 : Int64) (q3 &&& (9223372036854775807 : Int64)))), .second, .val (.long (own_maxL (1 : Int64) (q4 &&& (9223372036854775807 : Int64)))), .second, .val (.long ((own_maxL (1 : Int64) (q3 &&& (9223372036854775807 : Int64))) + (1 : Int64))), .second, .val (.long ((own_maxL (1 : Int64) (q4 &&& (9223372036854775807 : Int64))) + (1 : Int64))), .second, .unset, .unset, .unset, .unset, .unset]) rfl ?_
        exact kt
      exact blk139A ⟨hx, hZ, hby, hml, hown, hrt, hlk⟩ hw hS (by omega) (IB.sup hI (by simp)) hnS hkp X2 e2 N2 p0 p1 p2 q3 q4 p5 i8 i9 i10 i11 i12 rb (own_maxL (1 : Int64) (q3 &&& (9223372036854775807 : Int64))) (own_maxL (1 : Int64) (q4 &&& (9223372036854775807 : Int64))) ((own_maxL (1 : Int64) (q3 &&& (9223372036854775807 : Int64))) + (1 : Int64)) ((own_maxL (1 : Int64) (q4 &&& (9223372036854775807 : Int64))) + (1 : Int64)) (by omega) E_rb hin8 hin9 hin10 (own_max1 _) (own_max1 _) (own_succ _ (own_max1 _) h107_3) (own_succ _ (own_max1 _) h126_5)
theorem pd78B_0 : parseMethodDescriptor "(JJ)J" = some ⟨[.long, .long], some .long⟩ := by decide +kernel
set_option maxRecDepth 65536 in
set_option maxHeartbeats 40000000 in
theorem blk78B {p : Program} {l : Launch} {e : Env} {s : State} {m : MethodId} {args : Array Value} {below : List Frame} {meth : Method} {c : Code} {Z : State} {a0 : Array Value} {T : State} {locs : List Loc} {h0 : Heap} {n0 : Nat} {vm0 : Vm} {k0 : Nat} (C : Ctx p (s.setVm vm0) m meth c Z code 28 "com/example/satzung/satzung/validate/PlacePageSetPinLaw" (some .boolean)) (hw : ∀ d ∈ tables_1, d.before a0 Z = true) (hS : s.Since vm0 k0) (hk : k0 ≤ h0.size) (hI : IB Z vm0 ["b", ""]) (hnS : n0 = s.heap.size) (hkp : ∀ (b : Addr) (cl : Cell), Z.heap[b]? = some cl → s.heap[b]? = some cl)
    (X0 : Stand p l e room_1 (s.setVm vm0) m args below meth c T locs 20 200) (e0 : T.heap = h0) (N0 : Fr n0 locs) (p0 : Int32) (p1 : Int32) (p2 : Int32) (q3 : Int64) (q4 : Int64) (p5 : Int32) (i8 : Int32) (i9 : Int32) (i10 : Int32) (i11 : Int32) (i12 : Int32) (ra : Addr) (Z0 : n0 ≤ h0.size) (E_ra : Exa Z h0 ra "java/lang/String") (hin8 : ¬ (i8 < 0 ∨ (1024 : Int32).toNatClampNeg ≤ i8.toNatClampNeg)) (hin9 : ¬ (i9 < 0 ∨ (1024 : Int32).toNatClampNeg ≤ i9.toNatClampNeg)) (hin10 : ¬ (i10 < 0 ∨ (1024 : Int32).toNatClampNeg ≤ i10.toNatClampNeg)) :
    GoW p e below s 48 14528 (fun v vm h L => v = some (.int 1) ∧ Fr n0 L) (T.setTop (mkF m 78 #[sI p0, sI p1, sI p2, sL q3, sS, sL q4, sS, sI p5, sI i8, sI i9, sI i10, sI i11, sI i12, sR ra, sN, sU, sU, sU, sU, sU, sU, sU, sU, sU, sU, sU, sU, sU] [])) := by
  obtain ⟨hx, hZ, hby, hml, hown, hrt, hlk⟩ := id C
  have lt_E_ra : LT.lt (α := Nat) ra h0.size := E_ra.lt
  refine GoW.pre (st' := T.setTop (mkF m 84 #[sI p0, sI p1, sI p2, sL q3, sS, sL q4, sS, sI p5, sI i8, sI i9, sI i10, sI i11, sI i12, sR ra, sN, sU, sU, sU, sU, sU, sU, sU, sU, sU, sU, sU, sU, sU] [(.long (q3 &&& (9223372036854775807 : Int64))), (.long (1 : Int64))])) (fun target kt => ?_) ?_
  · show Steps p.tables e below (T.setTop (mkF m 78 #[sI p0, sI p1, sI p2, sL q3, sS, sL q4, sS, sI p5, sI i8, sI i9, sI i10, sI i11, sI i12, sR ra, sN, sU, sU, sU, sU, sU, sU, sU, sU, sU, sU, sU, sU, sU] [])) _
    refine XS.lconst X0.here hx rfl (hb hby at_78) ?_
    refine XS.lloadN X0.here hx rfl (hb hby at_79) rfl ?_
    refine X0.ldc2Long hx hown (mvT hZ (ow hw 8 rfl)) (g := (mkF m 80 #[sI p0, sI p1, sI p2, sL q3, sS, sL q4, sS, sI p5, sI i8, sI i9, sI i10, sI i11, sI i12, sR ra, sN, sU, sU, sU, sU, sU, sU, sU, sU, sU, sU, sU, sU, sU] [(.long q3), (.long (1 : Int64))])) rfl (hb hby at_80) _ ?_
    refine XS.land X0.here hx rfl (hb hby at_83) rfl ?_
    exact kt
  obtain ⟨_, _, ⟨T1, L1, k1, n1⟩, -, X1, ⟨Lc1, hQ1, l1, y1, z1⟩, st1⟩ := Jvm.LawKit.callS X0 hx (y := (⟨"java/lang/Math", "max", "(JJ)J"⟩ : MethodName)) hown (mvT hZ (ow hw 9 rfl)) (mvT hZ (ow hw 10 rfl)) (mvT hZ (ow hw 11 rfl)) (mvT hZ (ow hw 12 rfl)) (by decide) (backOf (W := 0) (rm1 l Z a0 hw [] (1 : Int64) (q3 &&& (9223372036854775807 : Int64)) h0 n0 (by omega) ) hZ (ow hw 12 rfl) (ow hw 11 rfl) (by decide) (by decide)) (g := (mkF m 84 #[sI p0, sI p1, sI p2, sL q3, sS, sL q4, sS, sI p5, sI i8, sI i9, sI i10, sI i11, sI i12, sR ra, sN, sU, sU, sU, sU, sU, sU, sU, sU, sU, sU, sU, sU, sU] [(.long (q3 &&& (9223372036854775807 : Int64))), (.long (1 : Int64))])) rfl (by rw [hml]; rfl) (argsL := [(.long (1 : Int64)), (.long (q3 &&& (9223372036854775807 : Int64)))]) (rest := []) (lenOf pd78B_0 rfl) rfl (by show 2 * 0 + _ ≤ _; exact Nat.le_of_eq rfl) (hb hby at_84) (fun vm₁ hvm => ⟨rfl, e0, (by decide : 20 + 0 ≤ _), (by decide : 200 + 0 ≤ _)⟩)
  dsimp only [Pt.U, Pt.locs, Pt.cells, Pt.slots] at X1 l1 y1 z1 st1 hQ1
  subst l1 y1 z1
  obtain ⟨rfl, N1q, e1⟩ := hQ1
  have N1 := Fr.app N0 N1q
  refine GoW.pre st1 ?_
  show GoW p e below s _ _ _ (T1.setTop (mkF m 87 #[sI p0, sI p1, sI p2, sL q3, sS, sL q4, sS, sI p5, sI i8, sI i9, sI i10, sI i11, sI i12, sR ra, sN, sU, sU, sU, sU, sU, sU, sU, sU, sU, sU, sU, sU, sU] [(.long (own_maxL (1 : Int64) (q3 &&& (9223372036854775807 : Int64))))]))
  refine GoW.pre (st' := T1.setTop (mkF m 96 #[sI p0, sI p1, sI p2, sL q3, sS, sL q4, sS, sI p5, sI i8, sI i9, sI i10, sI i11, sI i12, sR ra, sN, .val (.long (own_maxL (1 : Int64) (q3 &&& (9223372036854775807 : Int64)))), sS, sU, sU, sU, sU, sU, sU, sU, sU, sU, sU, sU] [(.long (q4 &&& (9223372036854775807 : Int64))), (.long (1 : Int64))])) (fun target kt => ?_) ?_
  · show Steps p.tables e below (T1.setTop (mkF m 87 #[sI p0, sI p1, sI p2, sL q3, sS, sL q4, sS, sI p5, sI i8, sI i9, sI i10, sI i11, sI i12, sR ra, sN, sU, sU, sU, sU, sU, sU, sU, sU, sU, sU, sU, sU, sU] [(.long (own_maxL (1 : Int64) (q3 &&& (9223372036854775807 : Int64))))])) _
    refine XS.lstore X1.here hx rfl (hb hby at_87) rfl (l' := #[.val (.int p0), .val (.int p1), .val (.int p2), .val (.long q3), .second, .val (.long q4), .second, .val (.int p5), .val (.int i8), .val (.int i9), .val (.int i10), .val (.int i11), .val (.int i12), .val (.ref ra), .val .null, .val (.long (own_maxL (1 : Int64) (q3 &&& (9223372036854775807 : Int64)))), .second, .unset, .unset, .unset, .unset, .unset, .unset, .unset, .unset, .unset, .unset, .unset]) rfl ?_
    refine XS.lconst X1.here hx rfl (hb hby at_89) ?_
    refine XS.lload X1.here hx rfl (hb hby at_90) rfl ?_
    refine X1.ldc2Long hx hown (mvT hZ (ow hw 8 rfl)) (g := (mkF m 92 #[sI p0, sI p1, sI p2, sL q3, sS, sL q4, sS, sI p5, sI i8, sI i9, sI i10, sI i11, sI i12, sR ra, sN, .val (.long (own_maxL (1 : Int64) (q3 &&& (9223372036854775807 : Int64)))), sS, sU, sU, sU, sU, sU, sU, sU, sU, sU, sU, sU] [(.long q4), (.long (1 : Int64))])) rfl (hb hby at_92) _ ?_
    refine XS.land X1.here hx rfl (hb hby at_95) rfl ?_
    exact kt
  obtain ⟨_, _, ⟨T2, L2, k2, n2⟩, -, X2, ⟨Lc2, hQ2, l2, y2, z2⟩, st2⟩ := Jvm.LawKit.callS X1 hx (y := (⟨"java/lang/Math", "max", "(JJ)J"⟩ : MethodName)) hown (mvT hZ (ow hw 9 rfl)) (mvT hZ (ow hw 10 rfl)) (mvT hZ (ow hw 11 rfl)) (mvT hZ (ow hw 12 rfl)) (by decide) (backOf (W := 0) (rm1 l Z a0 hw [] (1 : Int64) (q4 &&& (9223372036854775807 : Int64)) h0 n0 (by omega) ) hZ (ow hw 12 rfl) (ow hw 11 rfl) (by decide) (by decide)) (g := (mkF m 96 #[sI p0, sI p1, sI p2, sL q3, sS, sL q4, sS, sI p5, sI i8, sI i9, sI i10, sI i11, sI i12, sR ra, sN, .val (.long (own_maxL (1 : Int64) (q3 &&& (9223372036854775807 : Int64)))), sS, sU, sU, sU, sU, sU, sU, sU, sU, sU, sU, sU] [(.long (q4 &&& (9223372036854775807 : Int64))), (.long (1 : Int64))])) rfl (by rw [hml]; rfl) (argsL := [(.long (1 : Int64)), (.long (q4 &&& (9223372036854775807 : Int64)))]) (rest := []) (lenOf pd78B_0 rfl) rfl (by show 2 * 0 + _ ≤ _; exact Nat.le_of_eq rfl) (hb hby at_96) (fun vm₁ hvm => ⟨rfl, e1, (by decide : 20 + 0 ≤ _), (by decide : 200 + 0 ≤ _)⟩)
  dsimp only [Pt.U, Pt.locs, Pt.cells, Pt.slots] at X2 l2 y2 z2 st2 hQ2
  subst l2 y2 z2
  obtain ⟨rfl, N2q, e2⟩ := hQ2
  have N2 := Fr.app N1 N2q
  refine GoW.pre st2 ?_
  show GoW p e below s _ _ _ (T2.setTop (mkF m 99 #[sI p0, sI p1, sI p2, sL q3, sS, sL q4, sS, sI p5, sI i8, sI i9, sI i10, sI i11, sI i12, sR ra, sN, .val (.long (own_maxL (1 : Int64) (q3 &&& (9223372036854775807 : Int64)))), sS, sU, sU, sU, sU, sU, sU, sU, sU, sU, sU, sU] [(.long (own_maxL (1 : Int64) (q4 &&& (9223372036854775807 : Int64))))]))
  refine GoW.pre (st' := T2.setTop (mkF m 107 #[sI p0, sI p1, sI p2, sL q3, sS, sL q4, sS, sI p5, sI i8, sI i9, sI i10, sI i11, sI i12, sR ra, sN, .val (.long (own_maxL (1 : Int64) (q3 &&& (9223372036854775807 : Int64)))), sS, .val (.long (own_maxL (1 : Int64) (q4 &&& (9223372036854775807 : Int64)))), sS, sU, sU, sU, sU, sU, sU, sU, sU, sU] [(.int (lcmpW (own_maxL (1 : Int64) (q3 &&& (9223372036854775807 : Int64))) (9223372036854775807 : Int64)))])) (fun target kt => ?_) ?_
  · show Steps p.tables e below (T2.setTop (mkF m 99 #[sI p0, sI p1, sI p2, sL q3, sS, sL q4, sS, sI p5, sI i8, sI i9, sI i10, sI i11, sI i12, sR ra, sN, .val (.long (own_maxL (1 : Int64) (q3 &&& (9223372036854775807 : Int64)))), sS, sU, sU, sU, sU, sU, sU, sU, sU, sU, sU, sU] [(.long (own_maxL (1 : Int64) (q4 &&& (9223372036854775807 : Int64))))])) _
    refine XS.lstore X2.here hx rfl (hb hby at_99) rfl (l' := #[.val (.int p0), .val (.int p1), .val (.int p2), .val (.long q3), .second, .val (.long q4), .second, .val (.int p5), .val (.int i8), .val (.int i9), .val (.int i10), .val (.int i11), .val (.int i12), .val (.ref ra), .val .null, .val (.long (own_maxL (1 : Int64) (q3 &&& (9223372036854775807 : Int64)))), .second, .val (.long (own_maxL (1 : Int64) (q4 &&& (9223372036854775807 : Int64)))), .second, .unset, .unset, .unset, .unset, .unset, .unset, .unset, .unset, .unset]) rfl ?_
    refine XS.lload X2.here hx rfl (hb hby at_101) rfl ?_
    refine X2.ldc2Long hx hown (mvT hZ (ow hw 8 rfl)) (g := (mkF m 103 #[sI p0, sI p1, sI p2, sL q3, sS, sL q4, sS, sI p5, sI i8, sI i9, sI i10, sI i11, sI i12, sR ra, sN, .val (.long (own_maxL (1 : Int64) (q3 &&& (9223372036854775807 : Int64)))), sS, .val (.long (own_maxL (1 : Int64) (q4 &&& (9223372036854775807 : Int64)))), sS, sU, sU, sU, sU, sU, sU, sU, sU, sU] [(.long (own_maxL (1 : Int64) (q3 &&& (9223372036854775807 : Int64))))])) rfl (hb hby at_103) _ ?_
    refine XS.lcmp X2.here hx rfl (hb hby at_106) rfl ?_
    exact kt
  by_cases h107_3 : (own_maxL (1 : Int64) (q3 &&& (9223372036854775807 : Int64))) = (9223372036854775807 : Int64)
  · refine GoW.pre (st' := T2.setTop (mkF m 110 #[sI p0, sI p1, sI p2, sL q3, sS, sL q4, sS, sI p5, sI i8, sI i9, sI i10, sI i11, sI i12, sR ra, sN, .val (.long (own_maxL (1 : Int64) (q3 &&& (9223372036854775807 : Int64)))), sS, .val (.long (own_maxL (1 : Int64) (q4 &&& (9223372036854775807 : Int64)))), sS, sU, sU, sU, sU, sU, sU, sU, sU, sU] [])) (fun target kt => ?_) ?_
    · show Steps p.tables e below (T2.setTop (mkF m 107 #[sI p0, sI p1, sI p2, sL q3, sS, sL q4, sS, sI p5, sI i8, sI i9, sI i10, sI i11, sI i12, sR ra, sN, .val (.long (own_maxL (1 : Int64) (q3 &&& (9223372036854775807 : Int64)))), sS, .val (.long (own_maxL (1 : Int64) (q4 &&& (9223372036854775807 : Int64)))), sS, sU, sU, sU, sU, sU, sU, sU, sU, sU] [(.int (lcmpW (own_maxL (1 : Int64) (q3 &&& (9223372036854775807 : Int64))) (9223372036854775807 : Int64)))])) _
      refine XS.ifNo X2.here hx rfl (hb hby at_107) rfl ((if0 _ _).trans (teq ((lw_eq _ _).mpr h107_3)).2) ?_
      exact kt
    refine GoW.pre (st' := T2.setTop (mkF m 126 #[sI p0, sI p1, sI p2, sL q3, sS, sL q4, sS, sI p5, sI i8, sI i9, sI i10, sI i11, sI i12, sR ra, sN, .val (.long (own_maxL (1 : Int64) (q3 &&& (9223372036854775807 : Int64)))), sS, .val (.long (own_maxL (1 : Int64) (q4 &&& (9223372036854775807 : Int64)))), sS, sL (1 : Int64), sS, sU, sU, sU, sU, sU, sU, sU] [(.int (lcmpW (own_maxL (1 : Int64) (q4 &&& (9223372036854775807 : Int64))) (9223372036854775807 : Int64)))])) (fun target kt => ?_) ?_
    · show Steps p.tables e below (T2.setTop (mkF m 110 #[sI p0, sI p1, sI p2, sL q3, sS, sL q4, sS, sI p5, sI i8, sI i9, sI i10, sI i11, sI i12, sR ra, sN, .val (.long (own_maxL (1 : Int64) (q3 &&& (9223372036854775807 : Int64)))), sS, .val (.long (own_maxL (1 : Int64) (q4 &&& (9223372036854775807 : Int64)))), sS, sU, sU, sU, sU, sU, sU, sU, sU, sU] [])) _
      refine XS.lconst X2.here hx rfl (hb hby at_110) ?_
      refine XS.goto X2.here hx rfl (pc0 := 111) (pc' := 118) rfl (hb hby at_111) (by decide) (by decide) ?_
      refine XS.lstore X2.here hx rfl (hb hby at_118) rfl (l' := #[.val (.int p0), .val (.int p1), .val (.int p2), .val (.long q3), .second, .val (.long q4), .second, .val (.int p5), .val (.int i8), .val (.int i9), .val (.int i10), .val (.int i11), .val (.int i12), .val (.ref ra), .val .null, .val (.long (own_maxL (1 : Int64) (q3 &&& (9223372036854775807 : Int64)))), .second, .val (.long (own_maxL (1 : Int64) (q4 &&& (9223372036854775807 : Int64)))), .second, .val (.long (1 : Int64)), .second, .unset, .unset, .unset, .unset, .unset, .unset, .unset]) rfl ?_
      refine XS.lload X2.here hx rfl (hb hby at_120) rfl ?_
      refine X2.ldc2Long hx hown (mvT hZ (ow hw 8 rfl)) (g := (mkF m 122 #[sI p0, sI p1, sI p2, sL q3, sS, sL q4, sS, sI p5, sI i8, sI i9, sI i10, sI i11, sI i12, sR ra, sN, .val (.long (own_maxL (1 : Int64) (q3 &&& (9223372036854775807 : Int64)))), sS, .val (.long (own_maxL (1 : Int64) (q4 &&& (9223372036854775807 : Int64)))), sS, sL (1 : Int64), sS, sU, sU, sU, sU, sU, sU, sU] [(.long (own_maxL (1 : Int64) (q4 &&& (9223372036854775807 : Int64))))])) rfl (hb hby at_122) _ ?_
      refine XS.lcmp X2.here hx rfl (hb hby at_125) rfl ?_
      exact kt
    by_cases h126_4 : (own_maxL (1 : Int64) (q4 &&& (9223372036854775807 : Int64))) = (9223372036854775807 : Int64)
    · refine GoW.pre (st' := T2.setTop (mkF m 129 #[sI p0, sI p1, sI p2, sL q3, sS, sL q4, sS, sI p5, sI i8, sI i9, sI i10, sI i11, sI i12, sR ra, sN, .val (.long (own_maxL (1 : Int64) (q3 &&& (9223372036854775807 : Int64)))), sS, .val (.long (own_maxL (1 : Int64) (q4 &&& (9223372036854775807 : Int64)))), sS, sL (1 : Int64), sS, sU, sU, sU, sU, sU, sU, sU] [])) (fun target kt => ?_) ?_
      · show Steps p.tables e below (T2.setTop (mkF m 126 #[sI p0, sI p1, sI p2, sL q3, sS, sL q4, sS, sI p5, sI i8, sI i9, sI i10, sI i11, sI i12, sR ra, sN, .val (.long (own_maxL (1 : Int64) (q3 &&& (9223372036854775807 : Int64)))), sS, .val (.long (own_maxL (1 : Int64) (q4 &&& (9223372036854775807 : Int64)))), sS, sL (1 : Int64), sS, sU, sU, sU, sU, sU, sU, sU] [(.int (lcmpW (own_maxL (1 : Int64) (q4 &&& (9223372036854775807 : Int64))) (9223372036854775807 : Int64)))])) _
        refine XS.ifNo X2.here hx rfl (hb hby at_126) rfl ((if0 _ _).trans (teq ((lw_eq _ _).mpr h126_4)).2) ?_
        exact kt
      refine GoW.pre (st' := T2.setTop (mkF m 139 #[sI p0, sI p1, sI p2, sL q3, sS, sL q4, sS, sI p5, sI i8, sI i9, sI i10, sI i11, sI i12, sR ra, sN, .val (.long (own_maxL (1 : Int64) (q3 &&& (9223372036854775807 : Int64)))), sS, .val (.long (own_maxL (1 : Int64) (q4 &&& (9223372036854775807 : Int64)))), sS, sL (1 : Int64), sS, sL (1 : Int64), sS, sU, sU, sU, sU, sU] [])) (fun target kt => ?_) ?_
      · show Steps p.tables e below (T2.setTop (mkF m 129 #[sI p0, sI p1, sI p2, sL q3, sS, sL q4, sS, sI p5, sI i8, sI i9, sI i10, sI i11, sI i12, sR ra, sN, .val (.long (own_maxL (1 : Int64) (q3 &&& (9223372036854775807 : Int64)))), sS, .val (.long (own_maxL (1 : Int64) (q4 &&& (9223372036854775807 : Int64)))), sS, sL (1 : Int64), sS, sU, sU, sU, sU, sU, sU, sU] [])) _
        refine XS.lconst X2.here hx rfl (hb hby at_129) ?_
        refine XS.goto X2.here hx rfl (pc0 := 130) (pc' := 137) rfl (hb hby at_130) (by decide) (by decide) ?_
        refine XS.lstore X2.here hx rfl (hb hby at_137) rfl (l' := #[.val (.int p0), .val (.int p1), .val (.int p2), .val (.long q3), .second, .val (.long q4), .second, .val (.int p5), .val (.int i8), .val (.int i9), .val (.int i10), .val (.int i11), .val (.int i12), .val (.ref ra), .val .null, .val (.long (own_maxL (1 : Int64) (q3 &&& (9223372036854775807 : Int64)))), .second, .val (.long (own_maxL (1 : Int64) (q4 &&& (9223372036854775807 : Int64)))), .second, .val (.long (1 : Int64)), .second, .val (.long (1 : Int64)), .second, .unset, .unset, .unset, .unset, .unset]) rfl ?_
        exact kt
      exact blk139B ⟨hx, hZ, hby, hml, hown, hrt, hlk⟩ hw hS (by omega) (IB.sup hI (by simp)) hnS hkp X2 e2 N2 p0 p1 p2 q3 q4 p5 i8 i9 i10 i11 i12 ra (own_maxL (1 : Int64) (q3 &&& (9223372036854775807 : Int64))) (own_maxL (1 : Int64) (q4 &&& (9223372036854775807 : Int64))) (1 : Int64) (1 : Int64) (by omega) E_ra hin8 hin9 hin10 (own_max1 _) (own_max1 _) (by decide) (by decide)
    · refine GoW.pre (st' := T2.setTop (mkF m 133 #[sI p0, sI p1, sI p2, sL q3, sS, sL q4, sS, sI p5, sI i8, sI i9, sI i10, sI i11, sI i12, sR ra, sN, .val (.long (own_maxL (1 : Int64) (q3 &&& (9223372036854775807 : Int64)))), sS, .val (.long (own_maxL (1 : Int64) (q4 &&& (9223372036854775807 : Int64)))), sS, sL (1 : Int64), sS, sU, sU, sU, sU, sU, sU, sU] [])) (fun target kt => ?_) ?_
      · show Steps p.tables e below (T2.setTop (mkF m 126 #[sI p0, sI p1, sI p2, sL q3, sS, sL q4, sS, sI p5, sI i8, sI i9, sI i10, sI i11, sI i12, sR ra, sN, .val (.long (own_maxL (1 : Int64) (q3 &&& (9223372036854775807 : Int64)))), sS, .val (.long (own_maxL (1 : Int64) (q4 &&& (9223372036854775807 : Int64)))), sS, sL (1 : Int64), sS, sU, sU, sU, sU, sU, sU, sU] [(.int (lcmpW (own_maxL (1 : Int64) (q4 &&& (9223372036854775807 : Int64))) (9223372036854775807 : Int64)))])) _
        refine XS.ifYes X2.here hx rfl (pc0 := 126) (pc' := 133) rfl (hb hby at_126) rfl ((if0 _ _).trans (feq (fun q => h126_4 ((lw_eq _ _).mp q))).2) (by decide) (by decide) ?_
        exact kt
      refine GoW.pre (st' := T2.setTop (mkF m 139 #[sI p0, sI p1, sI p2, sL q3, sS, sL q4, sS, sI p5, sI i8, sI i9, sI i10, sI i11, sI i12, sR ra, sN, .val (.long (own_maxL (1 : Int64) (q3 &&& (9223372036854775807 : Int64)))), sS, .val (.long (own_maxL (1 : Int64) (q4 &&& (9223372036854775807 : Int64)))), sS, sL (1 : Int64), sS, .val (.long ((own_maxL (1 : Int64) (q4 &&& (9223372036854775807 : Int64))) + (1 : Int64))), sS, sU, sU, sU, sU, sU] [])) (fun target kt => ?_) ?_
      · show Steps p.tables e below (T2.setTop (mkF m 133 #[sI p0, sI p1, sI p2, sL q3, sS, sL q4, sS, sI p5, sI i8, sI i9, sI i10, sI i11, sI i12, sR ra, sN, .val (.long (own_maxL (1 : Int64) (q3 &&& (9223372036854775807 : Int64)))), sS, .val (.long (own_maxL (1 : Int64) (q4 &&& (9223372036854775807 : Int64)))), sS, sL (1 : Int64), sS, sU, sU, sU, sU, sU, sU, sU] [])) _
        refine XS.lload X2.here hx rfl (hb hby at_133) rfl ?_
        refine XS.lconst X2.here hx rfl (hb hby at_135) ?_
        refine XS.ladd X2.here hx rfl (hb hby at_136) rfl ?_
        refine XS.lstore X2.here hx rfl (hb hby at_137) rfl (l' := #[.val (.int p0), .val (.int p1), .val (.int p2), .val (.long q3), .second, .val (.long q4), .second, .val (.int p5), .val (.int i8), .val (.int i9), .val (.int i10), .val (.int i11), .val (.int i12), .val (.ref ra), .val .null, .val (.long (own_maxL (1 : Int64) (q3 &&& (9223372036854775807 : Int64)))), .second, .val (.long (own_maxL (1 : Int64) (q4 &&& (9223372036854775807 : Int64)))), .second, .val (.long (1 : Int64)), .second, .val (.long ((own_maxL (1 : Int64) (q4 &&& (9223372036854775807 : Int64))) + (1 : Int64))), .second, .unset, .unset, .unset, .unset, .unset]) rfl ?_
        exact kt
      exact blk139B ⟨hx, hZ, hby, hml, hown, hrt, hlk⟩ hw hS (by omega) (IB.sup hI (by simp)) hnS hkp X2 e2 N2 p0 p1 p2 q3 q4 p5 i8 i9 i10 i11 i12 ra (own_maxL (1 : Int64) (q3 &&& (9223372036854775807 : Int64))) (own_maxL (1 : Int64) (q4 &&& (9223372036854775807 : Int64))) (1 : Int64) ((own_maxL (1 : Int64) (q4 &&& (9223372036854775807 : Int64))) + (1 : Int64)) (by omega) E_ra hin8 hin9 hin10 (own_max1 _) (own_max1 _) (by decide) (own_succ _ (own_max1 _) h126_4)
  · refine GoW.pre (st' := T2.setTop (mkF m 114 #[sI p0, sI p1, sI p2, sL q3, sS, sL q4, sS, sI p5, sI i8, sI i9, sI i10, sI i11, sI i12, sR ra, sN, .val (.long (own_maxL (1 : Int64) (q3 &&& (9223372036854775807 : Int64)))), sS, .val (.long (own_maxL (1 : Int64) (q4 &&& (9223372036854775807 : Int64)))), sS, sU, sU, sU, sU, sU, sU, sU, sU, sU] [])) (fun target kt => ?_) ?_
    · show Steps p.tables e below (T2.setTop (mkF m 107 #[sI p0, sI p1, sI p2, sL q3, sS, sL q4, sS, sI p5, sI i8, sI i9, sI i10, sI i11, sI i12, sR ra, sN, .val (.long (own_maxL (1 : Int64) (q3 &&& (9223372036854775807 : Int64)))), sS, .val (.long (own_maxL (1 : Int64) (q4 &&& (9223372036854775807 : Int64)))), sS, sU, sU, sU, sU, sU, sU, sU, sU, sU] [(.int (lcmpW (own_maxL (1 : Int64) (q3 &&& (9223372036854775807 : Int64))) (9223372036854775807 : Int64)))])) _
      refine XS.ifYes X2.here hx rfl (pc0 := 107) (pc' := 114) rfl (hb hby at_107) rfl ((if0 _ _).trans (feq (fun q => h107_3 ((lw_eq _ _).mp q))).2) (by decide) (by decide) ?_
      exact kt
    refine GoW.pre (st' := T2.setTop (mkF m 126 #[sI p0, sI p1, sI p2, sL q3, sS, sL q4, sS, sI p5, sI i8, sI i9, sI i10, sI i11, sI i12, sR ra, sN, .val (.long (own_maxL (1 : Int64) (q3 &&& (9223372036854775807 : Int64)))), sS, .val (.long (own_maxL (1 : Int64) (q4 &&& (9223372036854775807 : Int64)))), sS, .val (.long ((own_maxL (1 : Int64) (q3 &&& (9223372036854775807 : Int64))) + (1 : Int64))), sS, sU, sU, sU, sU, sU, sU, sU] [(.int (lcmpW (own_maxL (1 : Int64) (q4 &&& (9223372036854775807 : Int64))) (9223372036854775807 : Int64)))])) (fun target kt => ?_) ?_
    · show Steps p.tables e below (T2.setTop (mkF m 114 #[sI p0, sI p1, sI p2, sL q3, sS, sL q4, sS, sI p5, sI i8, sI i9, sI i10, sI i11, sI i12, sR ra, sN, .val (.long (own_maxL (1 : Int64) (q3 &&& (9223372036854775807 : Int64)))), sS, .val (.long (own_maxL (1 : Int64) (q4 &&& (9223372036854775807 : Int64)))), sS, sU, sU, sU, sU, sU, sU, sU, sU, sU] [])) _
      refine XS.lload X2.here hx rfl (hb hby at_114) rfl ?_
      refine XS.lconst X2.here hx rfl (hb hby at_116) ?_
      refine XS.ladd X2.here hx rfl (hb hby at_117) rfl ?_
      refine XS.lstore X2.here hx rfl (hb hby at_118) rfl (l' := #[.val (.int p0), .val (.int p1), .val (.int p2), .val (.long q3), .second, .val (.long q4), .second, .val (.int p5), .val (.int i8), .val (.int i9), .val (.int i10), .val (.int i11), .val (.int i12), .val (.ref ra), .val .null, .val (.long (own_maxL (1 : Int64) (q3 &&& (9223372036854775807 : Int64)))), .second, .val (.long (own_maxL (1 : Int64) (q4 &&& (9223372036854775807 : Int64)))), .second, .val (.long ((own_maxL (1 : Int64) (q3 &&& (9223372036854775807 : Int64))) + (1 : Int64))), .second, .unset, .unset, .unset, .unset, .unset, .unset, .unset]) rfl ?_
      refine XS.lload X2.here hx rfl (hb hby at_120) rfl ?_
      refine X2.ldc2Long hx hown (mvT hZ (ow hw 8 rfl)) (g := (mkF m 122 #[sI p0, sI p1, sI p2, sL q3, sS, sL q4, sS, sI p5, sI i8, sI i9, sI i10, sI i11, sI i12, sR ra, sN, .val (.long (own_maxL (1 : Int64) (q3 &&& (9223372036854775807 : Int64)))), sS, .val (.long (own_maxL (1 : Int64) (q4 &&& (9223372036854775807 : Int64)))), sS, .val (.long ((own_maxL (1 : Int64) (q3 &&& (9223372036854775807 : Int64))) + (1 : Int64))), sS, sU, sU, sU, sU, sU, sU, sU] [(.long (own_maxL (1 : Int64) (q4 &&& (9223372036854775807 : Int64))))])) rfl (hb hby at_122) _ ?_
      refine XS.lcmp X2.here hx rfl (hb hby at_125) rfl ?_
      exact kt
    by_cases h126_5 : (own_maxL (1 : Int64) (q4 &&& (9223372036854775807 : Int64))) = (9223372036854775807 : Int64)
    · refine GoW.pre (st' := T2.setTop (mkF m 129 #[sI p0, sI p1, sI p2, sL q3, sS, sL q4, sS, sI p5, sI i8, sI i9, sI i10, sI i11, sI i12, sR ra, sN, .val (.long (own_maxL (1 : Int64) (q3 &&& (9223372036854775807 : Int64)))), sS, .val (.long (own_maxL (1 : Int64) (q4 &&& (9223372036854775807 : Int64)))), sS, .val (.long ((own_maxL (1 : Int64) (q3 &&& (9223372036854775807 : Int64))) + (1 : Int64))), sS, sU, sU, sU, sU, sU, sU, sU] [])) (fun target kt => ?_) ?_
      · show Steps p.tables e below (T2.setTop (mkF m 126 #[sI p0, sI p1, sI p2, sL q3, sS, sL q4, sS, sI p5, sI i8, sI i9, sI i10, sI i11, sI i12, sR ra, sN, .val (.long (own_maxL (1 : Int64) (q3 &&& (9223372036854775807 : Int64)))), sS, .val (.long (own_maxL (1 : Int64) (q4 &&& (9223372036854775807 : Int64)))), sS, .val (.long ((own_maxL (1 : Int64) (q3 &&& (9223372036854775807 : Int64))) + (1 : Int64))), sS, sU, sU, sU, sU, sU, sU, sU] [(.int (lcmpW (own_maxL (1 : Int64) (q4 &&& (9223372036854775807 : Int64))) (9223372036854775807 : Int64)))])) _
        refine XS.ifNo X2.here hx rfl (hb hby at_126) rfl ((if0 _ _).trans (teq ((lw_eq _ _).mpr h126_5)).2) ?_
        exact kt
      refine GoW.pre (st' := T2.setTop (mkF m 139 #[sI p0, sI p1, sI p2, sL q3, sS, sL q4, sS, sI p5, sI i8, sI i9, sI i10, sI i11, sI i12, sR ra, sN, .val (.long (own_maxL (1 : Int64) (q3 &&& (9223372036854775807 : Int64)))), sS, .val (.long (own_maxL (1 : Int64) (q4 &&& (9223372036854775807 : Int64)))), sS, .val (.long ((own_maxL (1 : Int64) (q3 &&& (9223372036854775807 : Int64))) + (1 : Int64))), sS, sL (1 : Int64), sS, sU, sU, sU, sU, sU] [])) (fun target kt => ?_) ?_
      · show Steps p.tables e below (T2.setTop (mkF m 129 #[sI p0, sI p1, sI p2, sL q3, sS, sL q4, sS, sI p5, sI i8, sI i9, sI i10, sI i11, sI i12, sR ra, sN, .val (.long (own_maxL (1 : Int64) (q3 &&& (9223372036854775807 : Int64)))), sS, .val (.long (own_maxL (1 : Int64) (q4 &&& (9223372036854775807 : Int64)))), sS, .val (.long ((own_maxL (1 : Int64) (q3 &&& (9223372036854775807 : Int64))) + (1 : Int64))), sS, sU, sU, sU, sU, sU, sU, sU] [])) _
        refine XS.lconst X2.here hx rfl (hb hby at_129) ?_
        refine XS.goto X2.here hx rfl (pc0 := 130) (pc' := 137) rfl (hb hby at_130) (by decide) (by decide) ?_
        refine XS.lstore X2.here hx rfl (hb hby at_137) rfl (l' := #[.val (.int p0), .val (.int p1), .val (.int p2), .val (.long q3), .second, .val (.long q4), .second, .val (.int p5), .val (.int i8), .val (.int i9), .val (.int i10), .val (.int i11), .val (.int i12), .val (.ref ra), .val .null, .val (.long (own_maxL (1 : Int64) (q3 &&& (9223372036854775807 : Int64)))), .second, .val (.long (own_maxL (1 : Int64) (q4 &&& (9223372036854775807 : Int64)))), .second, .val (.long ((own_maxL (1 : Int64) (q3 &&& (9223372036854775807 : Int64))) + (1 : Int64))), .second, .val (.long (1 : Int64)), .second, .unset, .unset, .unset, .unset, .unset]) rfl ?_
        exact kt
      exact blk139B ⟨hx, hZ, hby, hml, hown, hrt, hlk⟩ hw hS (by omega) (IB.sup hI (by simp)) hnS hkp X2 e2 N2 p0 p1 p2 q3 q4 p5 i8 i9 i10 i11 i12 ra (own_maxL (1 : Int64) (q3 &&& (9223372036854775807 : Int64))) (own_maxL (1 : Int64) (q4 &&& (9223372036854775807 : Int64))) ((own_maxL (1 : Int64) (q3 &&& (9223372036854775807 : Int64))) + (1 : Int64)) (1 : Int64) (by omega) E_ra hin8 hin9 hin10 (own_max1 _) (own_max1 _) (own_succ _ (own_max1 _) h107_3) (by decide)
    · refine GoW.pre (st' := T2.setTop (mkF m 133 #[sI p0, sI p1, sI p2, sL q3, sS, sL q4, sS, sI p5, sI i8, sI i9, sI i10, sI i11, sI i12, sR ra, sN, .val (.long (own_maxL (1 : Int64) (q3 &&& (9223372036854775807 : Int64)))), sS, .val (.long (own_maxL (1 : Int64) (q4 &&& (9223372036854775807 : Int64)))), sS, .val (.long ((own_maxL (1 : Int64) (q3 &&& (9223372036854775807 : Int64))) + (1 : Int64))), sS, sU, sU, sU, sU, sU, sU, sU] [])) (fun target kt => ?_) ?_
      · show Steps p.tables e below (T2.setTop (mkF m 126 #[sI p0, sI p1, sI p2, sL q3, sS, sL q4, sS, sI p5, sI i8, sI i9, sI i10, sI i11, sI i12, sR ra, sN, .val (.long (own_maxL (1 : Int64) (q3 &&& (9223372036854775807 : Int64)))), sS, .val (.long (own_maxL (1 : Int64) (q4 &&& (9223372036854775807 : Int64)))), sS, .val (.long ((own_maxL (1 : Int64) (q3 &&& (9223372036854775807 : Int64))) + (1 : Int64))), sS, sU, sU, sU, sU, sU, sU, sU] [(.int (lcmpW (own_maxL (1 : Int64) (q4 &&& (9223372036854775807 : Int64))) (9223372036854775807 : Int64)))])) _
        refine XS.ifYes X2.here hx rfl (pc0 := 126) (pc' := 133) rfl (hb hby at_126) rfl ((if0 _ _).trans (feq (fun q => h126_5 ((lw_eq _ _).mp q))).2) (by decide) (by decide) ?_
        exact kt
      refine GoW.pre (st' := T2.setTop (mkF m 139 #[sI p0, sI p1, sI p2, sL q3, sS, sL q4, sS, sI p5, sI i8, sI i9, sI i10, sI i11, sI i12, sR ra, sN, .val (.long (own_maxL (1 : Int64) (q3 &&& (9223372036854775807 : Int64)))), sS, .val (.long (own_maxL (1 : Int64) (q4 &&& (9223372036854775807 : Int64)))), sS, .val (.long ((own_maxL (1 : Int64) (q3 &&& (9223372036854775807 : Int64))) + (1 : Int64))), sS, .val (.long ((own_maxL (1 : Int64) (q4 &&& (9223372036854775807 : Int64))) + (1 : Int64))), sS, sU, sU, sU, sU, sU] [])) (fun target kt => ?_) ?_
      · show Steps p.tables e below (T2.setTop (mkF m 133 #[sI p0, sI p1, sI p2, sL q3, sS, sL q4, sS, sI p5, sI i8, sI i9, sI i10, sI i11, sI i12, sR ra, sN, .val (.long (own_maxL (1 : Int64) (q3 &&& (9223372036854775807 : Int64)))), sS, .val (.long (own_maxL (1 : Int64) (q4 &&& (9223372036854775807 : Int64)))), sS, .val (.long ((own_maxL (1 : Int64) (q3 &&& (9223372036854775807 : Int64))) + (1 : Int64))), sS, sU, sU, sU, sU, sU, sU, sU] [])) _
        refine XS.lload X2.here hx rfl (hb hby at_133) rfl ?_
        refine XS.lconst X2.here hx rfl (hb hby at_135) ?_
        refine XS.ladd X2.here hx rfl (hb hby at_136) rfl ?_
        refine XS.lstore X2.here hx rfl (hb hby at_137) rfl (l' := #[.val (.int p0), .val (.int p1), .val (.int p2), .val (.long q3), .second, .val (.long q4), .second, .val (.int p5), .val (.int i8), .val (.int i9), .val (.int i10), .val (.int i11), .val (.int i12), .val (.ref ra), .val .null, .val (.long (own_maxL (1 : Int64) (q3 &&& (9223372036854775807 : Int64)))), .second, .val (.long (own_maxL (1 : Int64) (q4 &&& (9223372036854775807 : Int64)))), .second, .val (.long ((own_maxL (1 : Int64) (q3 &&& (9223372036854775807 : Int64))) + (1 : Int64))), .second, .val (.long ((own_maxL (1 : Int64) (q4 &&& (9223372036854775807 : Int64))) + (1 : Int64))), .second, .unset, .unset, .unset, .unset, .unset]) rfl ?_
        exact kt
      exact blk139B ⟨hx, hZ, hby, hml, hown, hrt, hlk⟩ hw hS (by omega) (IB.sup hI (by simp)) hnS hkp X2 e2 N2 p0 p1 p2 q3 q4 p5 i8 i9 i10 i11 i12 ra (own_maxL (1 : Int64) (q3 &&& (9223372036854775807 : Int64))) (own_maxL (1 : Int64) (q4 &&& (9223372036854775807 : Int64))) ((own_maxL (1 : Int64) (q3 &&& (9223372036854775807 : Int64))) + (1 : Int64)) ((own_maxL (1 : Int64) (q4 &&& (9223372036854775807 : Int64))) + (1 : Int64)) (by omega) E_ra hin8 hin9 hin10 (own_max1 _) (own_max1 _) (own_succ _ (own_max1 _) h107_3) (own_succ _ (own_max1 _) h126_5)
/-! PlacePageSetPinLaw.law (0) -/
theorem pn_0 : plainName "com/example/satzung/satzung/validate/PlacePageSetPinLaw" = true := by first | (simp [plainName, overriddenIn]; done) | decide +kernel
theorem pd0_0 : parseMethodDescriptor "(I)Ljava/lang/String;" = some ⟨[.int], some (.object "java/lang/String")⟩ := by decide +kernel
theorem ef_0 (m : MethodId) (p0 : Int32) (p1 : Int32) (p2 : Int32) (q3 : Int64) (q4 : Int64) (p5 : Int32) : entryFrame m #[(.int p0), (.int p1), (.int p2), (.long q3), (.long q4), (.int p5)] maxLocals = (mkF m 0 #[.val (.int p0), .val (.int p1), .val (.int p2), .val (.long q3), .second, .val (.long q4), .second, .val (.int p5), .unset, .unset, .unset, .unset, .unset, .unset, .unset, .unset, .unset, .unset, .unset, .unset, .unset, .unset, .unset, .unset, .unset, .unset, .unset, .unset] []) := by first | (simp [entryFrame, mkF, argsToLocals, Value.category, maxLocals]; done) | rfl
def Q0 (Z : State) (p0 : Int32) (p1 : Int32) (p2 : Int32) (q3 : Int64) (q4 : Int64) (p5 : Int32) (zc : Int32) (h0 : Heap) (n0 : Nat) (v : Option Value) (vm : Vm) (h : Heap) (L : List Loc) : Prop := v = some (.int 1) ∧ Fr n0 L
set_option maxRecDepth 65536 in
set_option maxHeartbeats 40000000 in
theorem rm0 (l : Launch) (Z : State) (a0 : Array Value) (hw : ∀ d ∈ tables_1, d.before a0 Z = true) (ws : List Jvm.Cond) (p0 : Int32) (p1 : Int32) (p2 : Int32) (q3 : Int64) (q4 : Int64) (p5 : Int32) (zc : Int32) (h0 : Heap) (n0 : Nat) (Z0 : n0 ≤ h0.size) (S_COMPACT : Sta Z Z.heap "java/lang/String" "COMPACT_STRINGS" "Z" (.int zc)) (hcs : ¬ (zc = (0 : Int32))) (hcw : Jvm.Lit.compactW.before a0 Z = true) (hheld : ∀ q ∈ consts_1, Jvm.Lit.constHeld Z q.1 q.2) (Ol : Old Z n0 h0) (hn0 : n0 = h0.size) :
    MetFree l x (head1 (Jvm.Cond.code x code maxLocals ret :: ws) room_1) (fun a U => a = #[(.int p0), (.int p1), (.int p2), (.long q3), (.long q4), (.int p5)] ∧ Z.Warmed39 U.vm ∧ U.heap = h0 ∧ IB Z U.vm []) (fun _ _ _ _ _ => True) (fun _ U o U' => ∃ v L, o = .returned v ∧ Q0 Z p0 p1 p2 q3 q4 p5 zc h0 n0 v U'.vm U'.heap L ∧ ReturnedEndW U o U' L 48 14528) := by
  refine MetFree.of_bodySF (plainFor_of_name pn_0) hisR ?_
  intro p e s m args below meth c s₁ Bd hml0 hP hK
  obtain ⟨rfl, hZ, hh, hI⟩ := hP
  have hx := Bd.exec
  have hby := Bd.bytes
  have hml : c.maxLocals = 28 := hml0
  have hown : s.vm.findClass "com/example/satzung/satzung/validate/PlacePageSetPinLaw" = some m.cls := findClass_of_methodNamed Bd.named
  have hnm := (name_of_methodNamed Bd.named Bd.method).1
  have hrt := Bd.returns
  have hlk := Bd.notSynchronized
  have X0 : Stand p l e room_1 (s.setVm s.vm) m #[(.int p0), (.int p1), (.int p2), (.long q3), (.long q4), (.int p5)] below meth c s₁ [] 0 0 := Stand.of_body Bd
  have hS : s.Since s.vm 0 := (State.WarmedH.refl s).since 0
  have hk := Nat.zero_le h0.size
  have hkp : ∀ (b : Addr) (cl : Cell), Z.heap[b]? = some cl → s.heap[b]? = some cl := fun b cl q => by rw [show (s.heap : Heap) = h0 from hh]; exact Ol.2.2 b cl q
  have hnS : n0 = s.heap.size := by rw [show (s.heap : Heap) = h0 from hh]; exact hn0
  have e0 : s₁.heap = h0 := by rw [← hh, Bd.state]; rfl
  have N0 := Fr.nil n0
  show GoW p e below s 48 14528 (Q0 Z p0 p1 p2 q3 q4 p5 zc h0 n0) (s₁.setTop (entryFrame m #[(.int p0), (.int p1), (.int p2), (.long q3), (.long q4), (.int p5)] maxLocals))
  rw [ef_0 m p0 p1 p2 q3 q4 p5]
  refine GoW.pre (st' := s₁.setTop (mkF m 25 #[sI p0, sI p1, sI p2, sL q3, sS, sL q4, sS, sI p5, .val (.int (p0 &&& (1023 : Int32))), .val (.int (p1 &&& (1023 : Int32))), .val (.int (p2 &&& (1023 : Int32))), sU, sU, sU, sU, sU, sU, sU, sU, sU, sU, sU, sU, sU, sU, sU, sU, sU] [(.int (p5 &&& (1 : Int32)))])) (fun target kt => ?_) ?_
  · show Steps p.tables e below (s₁.setTop (mkF m 0 #[sI p0, sI p1, sI p2, sL q3, sS, sL q4, sS, sI p5, sU, sU, sU, sU, sU, sU, sU, sU, sU, sU, sU, sU, sU, sU, sU, sU, sU, sU, sU, sU] [])) _
    refine XS.iloadN X0.here hx rfl (hb hby at_0) rfl ?_
    refine XS.sipush X0.here hx rfl (hb hby at_1) ?_
    refine XS.iand X0.here hx rfl (hb hby at_4) rfl ?_
    refine XS.istore X0.here hx rfl (hb hby at_5) rfl (l' := #[.val (.int p0), .val (.int p1), .val (.int p2), .val (.long q3), .second, .val (.long q4), .second, .val (.int p5), .val (.int (p0 &&& (1023 : Int32))), .unset, .unset, .unset, .unset, .unset, .unset, .unset, .unset, .unset, .unset, .unset, .unset, .unset, .unset, .unset, .unset, .unset, .unset, .unset]) rfl ?_
    refine XS.iloadN X0.here hx rfl (hb hby at_7) rfl ?_
    refine XS.sipush X0.here hx rfl (hb hby at_8) ?_
    refine XS.iand X0.here hx rfl (hb hby at_11) rfl ?_
    refine XS.istore X0.here hx rfl (hb hby at_12) rfl (l' := #[.val (.int p0), .val (.int p1), .val (.int p2), .val (.long q3), .second, .val (.long q4), .second, .val (.int p5), .val (.int (p0 &&& (1023 : Int32))), .val (.int (p1 &&& (1023 : Int32))), .unset, .unset, .unset, .unset, .unset, .unset, .unset, .unset, .unset, .unset, .unset, .unset, .unset, .unset, .unset, .unset, .unset, .unset]) rfl ?_
    refine XS.iloadN X0.here hx rfl (hb hby at_14) rfl ?_
    refine XS.sipush X0.here hx rfl (hb hby at_15) ?_
    refine XS.iand X0.here hx rfl (hb hby at_18) rfl ?_
    refine XS.istore X0.here hx rfl (hb hby at_19) rfl (l' := #[.val (.int p0), .val (.int p1), .val (.int p2), .val (.long q3), .second, .val (.long q4), .second, .val (.int p5), .val (.int (p0 &&& (1023 : Int32))), .val (.int (p1 &&& (1023 : Int32))), .val (.int (p2 &&& (1023 : Int32))), .unset, .unset, .unset, .unset, .unset, .unset, .unset, .unset, .unset, .unset, .unset, .unset, .unset, .unset, .unset, .unset, .unset]) rfl ?_
    refine XS.iload X0.here hx rfl (hb hby at_21) rfl ?_
    refine XS.iconst X0.here hx rfl (hb hby at_23) ?_
    refine XS.iand X0.here hx rfl (hb hby at_24) rfl ?_
    exact kt
  by_cases h25_1 : (p5 &&& (1 : Int32)) = (0 : Int32)
  · refine GoW.pre (st' := s₁.setTop (mkF m 32 #[sI p0, sI p1, sI p2, sL q3, sS, sL q4, sS, sI p5, .val (.int (p0 &&& (1023 : Int32))), .val (.int (p1 &&& (1023 : Int32))), .val (.int (p2 &&& (1023 : Int32))), sU, sU, sU, sU, sU, sU, sU, sU, sU, sU, sU, sU, sU, sU, sU, sU, sU] [])) (fun target kt => ?_) ?_
    · show Steps p.tables e below (s₁.setTop (mkF m 25 #[sI p0, sI p1, sI p2, sL q3, sS, sL q4, sS, sI p5, .val (.int (p0 &&& (1023 : Int32))), .val (.int (p1 &&& (1023 : Int32))), .val (.int (p2 &&& (1023 : Int32))), sU, sU, sU, sU, sU, sU, sU, sU, sU, sU, sU, sU, sU, sU, sU, sU, sU] [(.int (p5 &&& (1 : Int32)))])) _
      refine XS.ifYes X0.here hx rfl (pc0 := 25) (pc' := 32) rfl (hb hby at_25) rfl ((if0 _ _).trans (teq h25_1).1) (by decide) (by decide) ?_
      exact kt
    refine GoW.pre (st' := s₁.setTop (mkF m 39 #[sI p0, sI p1, sI p2, sL q3, sS, sL q4, sS, sI p5, .val (.int (p0 &&& (1023 : Int32))), .val (.int (p1 &&& (1023 : Int32))), .val (.int (p2 &&& (1023 : Int32))), sI (0 : Int32), sU, sU, sU, sU, sU, sU, sU, sU, sU, sU, sU, sU, sU, sU, sU, sU] [(.int (p5 &&& (2 : Int32)))])) (fun target kt => ?_) ?_
    · show Steps p.tables e below (s₁.setTop (mkF m 32 #[sI p0, sI p1, sI p2, sL q3, sS, sL q4, sS, sI p5, .val (.int (p0 &&& (1023 : Int32))), .val (.int (p1 &&& (1023 : Int32))), .val (.int (p2 &&& (1023 : Int32))), sU, sU, sU, sU, sU, sU, sU, sU, sU, sU, sU, sU, sU, sU, sU, sU, sU] [])) _
      refine XS.iconst X0.here hx rfl (hb hby at_32) ?_
      refine XS.istore X0.here hx rfl (hb hby at_33) rfl (l' := #[.val (.int p0), .val (.int p1), .val (.int p2), .val (.long q3), .second, .val (.long q4), .second, .val (.int p5), .val (.int (p0 &&& (1023 : Int32))), .val (.int (p1 &&& (1023 : Int32))), .val (.int (p2 &&& (1023 : Int32))), .val (.int (0 : Int32)), .unset, .unset, .unset, .unset, .unset, .unset, .unset, .unset, .unset, .unset, .unset, .unset, .unset, .unset, .unset, .unset]) rfl ?_
      refine XS.iload X0.here hx rfl (hb hby at_35) rfl ?_
      refine XS.iconst X0.here hx rfl (hb hby at_37) ?_
      refine XS.iand X0.here hx rfl (hb hby at_38) rfl ?_
      exact kt
    by_cases h39_2 : (p5 &&& (2 : Int32)) = (0 : Int32)
    · refine GoW.pre (st' := s₁.setTop (mkF m 46 #[sI p0, sI p1, sI p2, sL q3, sS, sL q4, sS, sI p5, .val (.int (p0 &&& (1023 : Int32))), .val (.int (p1 &&& (1023 : Int32))), .val (.int (p2 &&& (1023 : Int32))), sI (0 : Int32), sU, sU, sU, sU, sU, sU, sU, sU, sU, sU, sU, sU, sU, sU, sU, sU] [])) (fun target kt => ?_) ?_
      · show Steps p.tables e below (s₁.setTop (mkF m 39 #[sI p0, sI p1, sI p2, sL q3, sS, sL q4, sS, sI p5, .val (.int (p0 &&& (1023 : Int32))), .val (.int (p1 &&& (1023 : Int32))), .val (.int (p2 &&& (1023 : Int32))), sI (0 : Int32), sU, sU, sU, sU, sU, sU, sU, sU, sU, sU, sU, sU, sU, sU, sU, sU] [(.int (p5 &&& (2 : Int32)))])) _
        refine XS.ifYes X0.here hx rfl (pc0 := 39) (pc' := 46) rfl (hb hby at_39) rfl ((if0 _ _).trans (teq h39_2).1) (by decide) (by decide) ?_
        exact kt
      refine GoW.pre (st' := s₁.setTop (mkF m 60 #[sI p0, sI p1, sI p2, sL q3, sS, sL q4, sS, sI p5, .val (.int (p0 &&& (1023 : Int32))), .val (.int (p1 &&& (1023 : Int32))), .val (.int (p2 &&& (1023 : Int32))), sI (0 : Int32), sI (0 : Int32), sU, sU, sU, sU, sU, sU, sU, sU, sU, sU, sU, sU, sU, sU, sU] [(.int p5)])) (fun target kt => ?_) ?_
      · show Steps p.tables e below (s₁.setTop (mkF m 46 #[sI p0, sI p1, sI p2, sL q3, sS, sL q4, sS, sI p5, .val (.int (p0 &&& (1023 : Int32))), .val (.int (p1 &&& (1023 : Int32))), .val (.int (p2 &&& (1023 : Int32))), sI (0 : Int32), sU, sU, sU, sU, sU, sU, sU, sU, sU, sU, sU, sU, sU, sU, sU, sU] [])) _
        refine XS.iconst X0.here hx rfl (hb hby at_46) ?_
        refine XS.istore X0.here hx rfl (hb hby at_47) rfl (l' := #[.val (.int p0), .val (.int p1), .val (.int p2), .val (.long q3), .second, .val (.long q4), .second, .val (.int p5), .val (.int (p0 &&& (1023 : Int32))), .val (.int (p1 &&& (1023 : Int32))), .val (.int (p2 &&& (1023 : Int32))), .val (.int (0 : Int32)), .val (.int (0 : Int32)), .unset, .unset, .unset, .unset, .unset, .unset, .unset, .unset, .unset, .unset, .unset, .unset, .unset, .unset, .unset]) rfl ?_
        refine XS.iload X0.here hx rfl (hb hby at_49) rfl ?_
        refine XS.ifYes X0.here hx rfl (pc0 := 51) (pc' := 58) rfl (hb hby at_51) rfl ((if0 _ _).trans (teq (by decide)).1) (by decide) (by decide) ?_
        refine XS.iload X0.here hx rfl (hb hby at_58) rfl ?_
        exact kt
      obtain ⟨_, _, ⟨T3, L3, k3, n3⟩, -, X3', hS3, hgr3, ⟨Lc3, hQ3, l3, y3, z3⟩, st3⟩ := callSS X0 hx (y := (⟨"com/example/satzung/satzung/validate/PlacePageSetPinLaw", "entityOf", "(I)Ljava/lang/String;"⟩ : MethodName)) hown (mvT hZ (ow hw 88 rfl)) (mvT hZ (ow hw 89 rfl)) (mvT hZ (ow hw 90 rfl)) (mvT hZ (ow hw 91 rfl)) (by decide) (backOfSI (W := 0) (rm13 l Z a0 hw [] p5 zc h0 n0 (by omega) S_COMPACT hcs hcw hheld Ol) hZ (ow hw 91 rfl) (ow hw 90 rfl) (by decide) (by decide)) (g := (mkF m 60 #[sI p0, sI p1, sI p2, sL q3, sS, sL q4, sS, sI p5, .val (.int (p0 &&& (1023 : Int32))), .val (.int (p1 &&& (1023 : Int32))), .val (.int (p2 &&& (1023 : Int32))), sI (0 : Int32), sI (0 : Int32), sU, sU, sU, sU, sU, sU, sU, sU, sU, sU, sU, sU, sU, sU, sU] [(.int p5)])) rfl (by rw [hml]; rfl) (argsL := [(.int p5)]) (rest := []) (lenOf pd0_0 rfl) rfl (by show 2 * 0 + _ ≤ _; exact Nat.le_of_eq rfl) (hb hby at_60) (fun vm₁ hvm => ⟨rfl, e0, (by decide : 0 + 4 ≤ _), (by decide : 0 + 8 ≤ _), IB.mv hI hvm⟩)
      dsimp only [Pt.U, Pt.locs, Pt.cells, Pt.slots] at X3' l3 y3 z3 st3 hQ3 hS3 hgr3
      subst l3 y3 z3
      obtain ⟨X3, hS, hZ, hown⟩ := rebS hS (leH e0 (by omega)) X3' hS3 hgr3 hZ hown
      have hk := Nat.le_refl T3.heap.size
      obtain ⟨b3_0, rfl, N3q, K3, KF3, gb3_0, ltb3_0, Y3_0, hI⟩ := hQ3
      have sz3 : h0.size ≤ T3.heap.size := K3.1
      have N3 := Fr.app N0 N3q
      refine GoW.trans st3 ?_
      show GoW p e below s _ _ _ (T3.setTop (mkF m 63 #[sI p0, sI p1, sI p2, sL q3, sS, sL q4, sS, sI p5, .val (.int (p0 &&& (1023 : Int32))), .val (.int (p1 &&& (1023 : Int32))), .val (.int (p2 &&& (1023 : Int32))), sI (0 : Int32), sI (0 : Int32), sU, sU, sU, sU, sU, sU, sU, sU, sU, sU, sU, sU, sU, sU, sU] [(.ref b3_0)]))
      refine GoW.pre (st' := T3.setTop (mkF m 78 #[sI p0, sI p1, sI p2, sL q3, sS, sL q4, sS, sI p5, .val (.int (p0 &&& (1023 : Int32))), .val (.int (p1 &&& (1023 : Int32))), .val (.int (p2 &&& (1023 : Int32))), sI (0 : Int32), sI (0 : Int32), sR b3_0, sN, sU, sU, sU, sU, sU, sU, sU, sU, sU, sU, sU, sU, sU] [])) (fun target kt => ?_) ?_
      · show Steps p.tables e below (T3.setTop (mkF m 63 #[sI p0, sI p1, sI p2, sL q3, sS, sL q4, sS, sI p5, .val (.int (p0 &&& (1023 : Int32))), .val (.int (p1 &&& (1023 : Int32))), .val (.int (p2 &&& (1023 : Int32))), sI (0 : Int32), sI (0 : Int32), sU, sU, sU, sU, sU, sU, sU, sU, sU, sU, sU, sU, sU, sU, sU] [(.ref b3_0)])) _
        refine XS.astore X3.here hx rfl (hb hby at_63) rfl rfl (l' := #[.val (.int p0), .val (.int p1), .val (.int p2), .val (.long q3), .second, .val (.long q4), .second, .val (.int p5), .val (.int (p0 &&& (1023 : Int32))), .val (.int (p1 &&& (1023 : Int32))), .val (.int (p2 &&& (1023 : Int32))), .val (.int (0 : Int32)), .val (.int (0 : Int32)), .val (.ref b3_0), .unset, .unset, .unset, .unset, .unset, .unset, .unset, .unset, .unset, .unset, .unset, .unset, .unset, .unset]) rfl ?_
        refine XS.aload X3.here hx rfl (hb hby at_65) rfl rfl ?_
        refine XS.ifnonnullYes X3.here hx rfl (pc0 := 67) (pc' := 75) rfl (hb hby at_67) rfl (by decide) (by decide) ?_
        refine XS.aconstNull X3.here hx rfl (hb hby at_75) ?_
        refine XS.astore X3.here hx rfl (hb hby at_76) rfl rfl (l' := #[.val (.int p0), .val (.int p1), .val (.int p2), .val (.long q3), .second, .val (.long q4), .second, .val (.int p5), .val (.int (p0 &&& (1023 : Int32))), .val (.int (p1 &&& (1023 : Int32))), .val (.int (p2 &&& (1023 : Int32))), .val (.int (0 : Int32)), .val (.int (0 : Int32)), .val (.ref b3_0), .val .null, .unset, .unset, .unset, .unset, .unset, .unset, .unset, .unset, .unset, .unset, .unset, .unset, .unset]) rfl ?_
        exact kt
      exact blk78B ⟨hx, hZ, hby, hml, hown, hrt, hlk⟩ hw hS (by omega) (IB.sup hI (by simp)) hnS hkp (padS X3 (by decide) (by decide)) rfl N3 p0 p1 p2 q3 q4 p5 (p0 &&& (1023 : Int32)) (p1 &&& (1023 : Int32)) (p2 &&& (1023 : Int32)) (0 : Int32) (0 : Int32) b3_0 (by omega) Y3_0 (own_inb _) (own_inb _) (own_inb _)
    · refine GoW.pre (st' := s₁.setTop (mkF m 42 #[sI p0, sI p1, sI p2, sL q3, sS, sL q4, sS, sI p5, .val (.int (p0 &&& (1023 : Int32))), .val (.int (p1 &&& (1023 : Int32))), .val (.int (p2 &&& (1023 : Int32))), sI (0 : Int32), sU, sU, sU, sU, sU, sU, sU, sU, sU, sU, sU, sU, sU, sU, sU, sU] [])) (fun target kt => ?_) ?_
      · show Steps p.tables e below (s₁.setTop (mkF m 39 #[sI p0, sI p1, sI p2, sL q3, sS, sL q4, sS, sI p5, .val (.int (p0 &&& (1023 : Int32))), .val (.int (p1 &&& (1023 : Int32))), .val (.int (p2 &&& (1023 : Int32))), sI (0 : Int32), sU, sU, sU, sU, sU, sU, sU, sU, sU, sU, sU, sU, sU, sU, sU, sU] [(.int (p5 &&& (2 : Int32)))])) _
        refine XS.ifNo X0.here hx rfl (hb hby at_39) rfl ((if0 _ _).trans (feq h39_2).1) ?_
        exact kt
      refine GoW.pre (st' := s₁.setTop (mkF m 60 #[sI p0, sI p1, sI p2, sL q3, sS, sL q4, sS, sI p5, .val (.int (p0 &&& (1023 : Int32))), .val (.int (p1 &&& (1023 : Int32))), .val (.int (p2 &&& (1023 : Int32))), sI (0 : Int32), sI (1 : Int32), sU, sU, sU, sU, sU, sU, sU, sU, sU, sU, sU, sU, sU, sU, sU] [(.int p5)])) (fun target kt => ?_) ?_
      · show Steps p.tables e below (s₁.setTop (mkF m 42 #[sI p0, sI p1, sI p2, sL q3, sS, sL q4, sS, sI p5, .val (.int (p0 &&& (1023 : Int32))), .val (.int (p1 &&& (1023 : Int32))), .val (.int (p2 &&& (1023 : Int32))), sI (0 : Int32), sU, sU, sU, sU, sU, sU, sU, sU, sU, sU, sU, sU, sU, sU, sU, sU] [])) _
        refine XS.iconst X0.here hx rfl (hb hby at_42) ?_
        refine XS.goto X0.here hx rfl (pc0 := 43) (pc' := 47) rfl (hb hby at_43) (by decide) (by decide) ?_
        refine XS.istore X0.here hx rfl (hb hby at_47) rfl (l' := #[.val (.int p0), .val (.int p1), .val (.int p2), .val (.long q3), .second, .val (.long q4), .second, .val (.int p5), .val (.int (p0 &&& (1023 : Int32))), .val (.int (p1 &&& (1023 : Int32))), .val (.int (p2 &&& (1023 : Int32))), .val (.int (0 : Int32)), .val (.int (1 : Int32)), .unset, .unset, .unset, .unset, .unset, .unset, .unset, .unset, .unset, .unset, .unset, .unset, .unset, .unset, .unset]) rfl ?_
        refine XS.iload X0.here hx rfl (hb hby at_49) rfl ?_
        refine XS.ifYes X0.here hx rfl (pc0 := 51) (pc' := 58) rfl (hb hby at_51) rfl ((if0 _ _).trans (teq (by decide)).1) (by decide) (by decide) ?_
        refine XS.iload X0.here hx rfl (hb hby at_58) rfl ?_
        exact kt
      obtain ⟨_, _, ⟨T4, L4, k4, n4⟩, -, X4', hS4, hgr4, ⟨Lc4, hQ4, l4, y4, z4⟩, st4⟩ := callSS X0 hx (y := (⟨"com/example/satzung/satzung/validate/PlacePageSetPinLaw", "entityOf", "(I)Ljava/lang/String;"⟩ : MethodName)) hown (mvT hZ (ow hw 88 rfl)) (mvT hZ (ow hw 89 rfl)) (mvT hZ (ow hw 90 rfl)) (mvT hZ (ow hw 91 rfl)) (by decide) (backOfSI (W := 0) (rm13 l Z a0 hw [] p5 zc h0 n0 (by omega) S_COMPACT hcs hcw hheld Ol) hZ (ow hw 91 rfl) (ow hw 90 rfl) (by decide) (by decide)) (g := (mkF m 60 #[sI p0, sI p1, sI p2, sL q3, sS, sL q4, sS, sI p5, .val (.int (p0 &&& (1023 : Int32))), .val (.int (p1 &&& (1023 : Int32))), .val (.int (p2 &&& (1023 : Int32))), sI (0 : Int32), sI (1 : Int32), sU, sU, sU, sU, sU, sU, sU, sU, sU, sU, sU, sU, sU, sU, sU] [(.int p5)])) rfl (by rw [hml]; rfl) (argsL := [(.int p5)]) (rest := []) (lenOf pd0_0 rfl) rfl (by show 2 * 0 + _ ≤ _; exact Nat.le_of_eq rfl) (hb hby at_60) (fun vm₁ hvm => ⟨rfl, e0, (by decide : 0 + 4 ≤ _), (by decide : 0 + 8 ≤ _), IB.mv hI hvm⟩)
      dsimp only [Pt.U, Pt.locs, Pt.cells, Pt.slots] at X4' l4 y4 z4 st4 hQ4 hS4 hgr4
      subst l4 y4 z4
      obtain ⟨X4, hS, hZ, hown⟩ := rebS hS (leH e0 (by omega)) X4' hS4 hgr4 hZ hown
      have hk := Nat.le_refl T4.heap.size
      obtain ⟨b4_0, rfl, N4q, K4, KF4, gb4_0, ltb4_0, Y4_0, hI⟩ := hQ4
      have sz4 : h0.size ≤ T4.heap.size := K4.1
      have N4 := Fr.app N0 N4q
      refine GoW.trans st4 ?_
      show GoW p e below s _ _ _ (T4.setTop (mkF m 63 #[sI p0, sI p1, sI p2, sL q3, sS, sL q4, sS, sI p5, .val (.int (p0 &&& (1023 : Int32))), .val (.int (p1 &&& (1023 : Int32))), .val (.int (p2 &&& (1023 : Int32))), sI (0 : Int32), sI (1 : Int32), sU, sU, sU, sU, sU, sU, sU, sU, sU, sU, sU, sU, sU, sU, sU] [(.ref b4_0)]))
      refine GoW.pre (st' := T4.setTop (mkF m 78 #[sI p0, sI p1, sI p2, sL q3, sS, sL q4, sS, sI p5, .val (.int (p0 &&& (1023 : Int32))), .val (.int (p1 &&& (1023 : Int32))), .val (.int (p2 &&& (1023 : Int32))), sI (0 : Int32), sI (1 : Int32), sR b4_0, sN, sU, sU, sU, sU, sU, sU, sU, sU, sU, sU, sU, sU, sU] [])) (fun target kt => ?_) ?_
      · show Steps p.tables e below (T4.setTop (mkF m 63 #[sI p0, sI p1, sI p2, sL q3, sS, sL q4, sS, sI p5, .val (.int (p0 &&& (1023 : Int32))), .val (.int (p1 &&& (1023 : Int32))), .val (.int (p2 &&& (1023 : Int32))), sI (0 : Int32), sI (1 : Int32), sU, sU, sU, sU, sU, sU, sU, sU, sU, sU, sU, sU, sU, sU, sU] [(.ref b4_0)])) _
        refine XS.astore X4.here hx rfl (hb hby at_63) rfl rfl (l' := #[.val (.int p0), .val (.int p1), .val (.int p2), .val (.long q3), .second, .val (.long q4), .second, .val (.int p5), .val (.int (p0 &&& (1023 : Int32))), .val (.int (p1 &&& (1023 : Int32))), .val (.int (p2 &&& (1023 : Int32))), .val (.int (0 : Int32)), .val (.int (1 : Int32)), .val (.ref b4_0), .unset, .unset, .unset, .unset, .unset, .unset, .unset, .unset, .unset, .unset, .unset, .unset, .unset, .unset]) rfl ?_
        refine XS.aload X4.here hx rfl (hb hby at_65) rfl rfl ?_
        refine XS.ifnonnullYes X4.here hx rfl (pc0 := 67) (pc' := 75) rfl (hb hby at_67) rfl (by decide) (by decide) ?_
        refine XS.aconstNull X4.here hx rfl (hb hby at_75) ?_
        refine XS.astore X4.here hx rfl (hb hby at_76) rfl rfl (l' := #[.val (.int p0), .val (.int p1), .val (.int p2), .val (.long q3), .second, .val (.long q4), .second, .val (.int p5), .val (.int (p0 &&& (1023 : Int32))), .val (.int (p1 &&& (1023 : Int32))), .val (.int (p2 &&& (1023 : Int32))), .val (.int (0 : Int32)), .val (.int (1 : Int32)), .val (.ref b4_0), .val .null, .unset, .unset, .unset, .unset, .unset, .unset, .unset, .unset, .unset, .unset, .unset, .unset, .unset]) rfl ?_
        exact kt
      exact blk78B ⟨hx, hZ, hby, hml, hown, hrt, hlk⟩ hw hS (by omega) (IB.sup hI (by simp)) hnS hkp (padS X4 (by decide) (by decide)) rfl N4 p0 p1 p2 q3 q4 p5 (p0 &&& (1023 : Int32)) (p1 &&& (1023 : Int32)) (p2 &&& (1023 : Int32)) (0 : Int32) (1 : Int32) b4_0 (by omega) Y4_0 (own_inb _) (own_inb _) (own_inb _)
  · refine GoW.pre (st' := s₁.setTop (mkF m 28 #[sI p0, sI p1, sI p2, sL q3, sS, sL q4, sS, sI p5, .val (.int (p0 &&& (1023 : Int32))), .val (.int (p1 &&& (1023 : Int32))), .val (.int (p2 &&& (1023 : Int32))), sU, sU, sU, sU, sU, sU, sU, sU, sU, sU, sU, sU, sU, sU, sU, sU, sU] [])) (fun target kt => ?_) ?_
    · show Steps p.tables e below (s₁.setTop (mkF m 25 #[sI p0, sI p1, sI p2, sL q3, sS, sL q4, sS, sI p5, .val (.int (p0 &&& (1023 : Int32))), .val (.int (p1 &&& (1023 : Int32))), .val (.int (p2 &&& (1023 : Int32))), sU, sU, sU, sU, sU, sU, sU, sU, sU, sU, sU, sU, sU, sU, sU, sU, sU] [(.int (p5 &&& (1 : Int32)))])) _
      refine XS.ifNo X0.here hx rfl (hb hby at_25) rfl ((if0 _ _).trans (feq h25_1).1) ?_
      exact kt
    refine GoW.pre (st' := s₁.setTop (mkF m 39 #[sI p0, sI p1, sI p2, sL q3, sS, sL q4, sS, sI p5, .val (.int (p0 &&& (1023 : Int32))), .val (.int (p1 &&& (1023 : Int32))), .val (.int (p2 &&& (1023 : Int32))), sI (1 : Int32), sU, sU, sU, sU, sU, sU, sU, sU, sU, sU, sU, sU, sU, sU, sU, sU] [(.int (p5 &&& (2 : Int32)))])) (fun target kt => ?_) ?_
    · show Steps p.tables e below (s₁.setTop (mkF m 28 #[sI p0, sI p1, sI p2, sL q3, sS, sL q4, sS, sI p5, .val (.int (p0 &&& (1023 : Int32))), .val (.int (p1 &&& (1023 : Int32))), .val (.int (p2 &&& (1023 : Int32))), sU, sU, sU, sU, sU, sU, sU, sU, sU, sU, sU, sU, sU, sU, sU, sU, sU] [])) _
      refine XS.iconst X0.here hx rfl (hb hby at_28) ?_
      refine XS.goto X0.here hx rfl (pc0 := 29) (pc' := 33) rfl (hb hby at_29) (by decide) (by decide) ?_
      refine XS.istore X0.here hx rfl (hb hby at_33) rfl (l' := #[.val (.int p0), .val (.int p1), .val (.int p2), .val (.long q3), .second, .val (.long q4), .second, .val (.int p5), .val (.int (p0 &&& (1023 : Int32))), .val (.int (p1 &&& (1023 : Int32))), .val (.int (p2 &&& (1023 : Int32))), .val (.int (1 : Int32)), .unset, .unset, .unset, .unset, .unset, .unset, .unset, .unset, .unset, .unset, .unset, .unset, .unset, .unset, .unset, .unset]) rfl ?_
      refine XS.iload X0.here hx rfl (hb hby at_35) rfl ?_
      refine XS.iconst X0.here hx rfl (hb hby at_37) ?_
      refine XS.iand X0.here hx rfl (hb hby at_38) rfl ?_
      exact kt
    by_cases h39_5 : (p5 &&& (2 : Int32)) = (0 : Int32)
    · refine GoW.pre (st' := s₁.setTop (mkF m 46 #[sI p0, sI p1, sI p2, sL q3, sS, sL q4, sS, sI p5, .val (.int (p0 &&& (1023 : Int32))), .val (.int (p1 &&& (1023 : Int32))), .val (.int (p2 &&& (1023 : Int32))), sI (1 : Int32), sU, sU, sU, sU, sU, sU, sU, sU, sU, sU, sU, sU, sU, sU, sU, sU] [])) (fun target kt => ?_) ?_
      · show Steps p.tables e below (s₁.setTop (mkF m 39 #[sI p0, sI p1, sI p2, sL q3, sS, sL q4, sS, sI p5, .val (.int (p0 &&& (1023 : Int32))), .val (.int (p1 &&& (1023 : Int32))), .val (.int (p2 &&& (1023 : Int32))), sI (1 : Int32), sU, sU, sU, sU, sU, sU, sU, sU, sU, sU, sU, sU, sU, sU, sU, sU] [(.int (p5 &&& (2 : Int32)))])) _
        refine XS.ifYes X0.here hx rfl (pc0 := 39) (pc' := 46) rfl (hb hby at_39) rfl ((if0 _ _).trans (teq h39_5).1) (by decide) (by decide) ?_
        exact kt
      refine GoW.pre (st' := s₁.setTop (mkF m 70 #[sI p0, sI p1, sI p2, sL q3, sS, sL q4, sS, sI p5, .val (.int (p0 &&& (1023 : Int32))), .val (.int (p1 &&& (1023 : Int32))), .val (.int (p2 &&& (1023 : Int32))), sI (1 : Int32), sI (0 : Int32), sN, sU, sU, sU, sU, sU, sU, sU, sU, sU, sU, sU, sU, sU, sU] [])) (fun target kt => ?_) ?_
      · show Steps p.tables e below (s₁.setTop (mkF m 46 #[sI p0, sI p1, sI p2, sL q3, sS, sL q4, sS, sI p5, .val (.int (p0 &&& (1023 : Int32))), .val (.int (p1 &&& (1023 : Int32))), .val (.int (p2 &&& (1023 : Int32))), sI (1 : Int32), sU, sU, sU, sU, sU, sU, sU, sU, sU, sU, sU, sU, sU, sU, sU, sU] [])) _
        refine XS.iconst X0.here hx rfl (hb hby at_46) ?_
        refine XS.istore X0.here hx rfl (hb hby at_47) rfl (l' := #[.val (.int p0), .val (.int p1), .val (.int p2), .val (.long q3), .second, .val (.long q4), .second, .val (.int p5), .val (.int (p0 &&& (1023 : Int32))), .val (.int (p1 &&& (1023 : Int32))), .val (.int (p2 &&& (1023 : Int32))), .val (.int (1 : Int32)), .val (.int (0 : Int32)), .unset, .unset, .unset, .unset, .unset, .unset, .unset, .unset, .unset, .unset, .unset, .unset, .unset, .unset, .unset]) rfl ?_
        refine XS.iload X0.here hx rfl (hb hby at_49) rfl ?_
        refine XS.ifNo X0.here hx rfl (hb hby at_51) rfl ((if0 _ _).trans (feq (by decide)).1) ?_
        refine XS.aconstNull X0.here hx rfl (hb hby at_54) ?_
        refine XS.goto X0.here hx rfl (pc0 := 55) (pc' := 63) rfl (hb hby at_55) (by decide) (by decide) ?_
        refine XS.astore X0.here hx rfl (hb hby at_63) rfl rfl (l' := #[.val (.int p0), .val (.int p1), .val (.int p2), .val (.long q3), .second, .val (.long q4), .second, .val (.int p5), .val (.int (p0 &&& (1023 : Int32))), .val (.int (p1 &&& (1023 : Int32))), .val (.int (p2 &&& (1023 : Int32))), .val (.int (1 : Int32)), .val (.int (0 : Int32)), .val .null, .unset, .unset, .unset, .unset, .unset, .unset, .unset, .unset, .unset, .unset, .unset, .unset, .unset, .unset]) rfl ?_
        refine XS.aload X0.here hx rfl (hb hby at_65) rfl rfl ?_
        refine XS.ifnonnullNo X0.here hx rfl (hb hby at_67) rfl ?_
        exact kt
      obtain ⟨la6, T6, h6, kq6, b6, k6, X6, e6, E6, hS, hk, hZ, hown, Ea6, Fc6, Fv6, Va6, lt6, lu6, hI, Lt_la6, st6⟩ := ldcSVL X0 hx hZ hown (ow hw 0 rfl) (own_wS hw) e0 hS (by omega) (hnS ▸ N0) hkp hI (by decide) (hheld _ (List.mem_of_getElem? (i := 0) rfl)) hcw (vs := [(.int (98 : Int32))]) (z := (1 : Int32)) ⟨by decide, by decide⟩ (by decide) rfl (g := (mkF m 70 #[sI p0, sI p1, sI p2, sL q3, sS, sL q4, sS, sI p5, .val (.int (p0 &&& (1023 : Int32))), .val (.int (p1 &&& (1023 : Int32))), .val (.int (p2 &&& (1023 : Int32))), sI (1 : Int32), sI (0 : Int32), sN, sU, sU, sU, sU, sU, sU, sU, sU, sU, sU, sU, sU, sU, sU] [])) rfl (hb hby at_70) (n := 4) (by decide) (by decide) (by decide) (by decide)
      have sz6 : h0.size ≤ h6.size := E6.1
      refine GoW.pre st6 ?_
      show GoW p e below s _ _ _ (T6.setTop (mkF m 72 #[sI p0, sI p1, sI p2, sL q3, sS, sL q4, sS, sI p5, .val (.int (p0 &&& (1023 : Int32))), .val (.int (p1 &&& (1023 : Int32))), .val (.int (p2 &&& (1023 : Int32))), sI (1 : Int32), sI (0 : Int32), sN, sU, sU, sU, sU, sU, sU, sU, sU, sU, sU, sU, sU, sU, sU] [(.ref la6)]))
      refine GoW.pre (st' := T6.setTop (mkF m 78 #[sI p0, sI p1, sI p2, sL q3, sS, sL q4, sS, sI p5, .val (.int (p0 &&& (1023 : Int32))), .val (.int (p1 &&& (1023 : Int32))), .val (.int (p2 &&& (1023 : Int32))), sI (1 : Int32), sI (0 : Int32), sN, sR la6, sU, sU, sU, sU, sU, sU, sU, sU, sU, sU, sU, sU, sU] [])) (fun target kt => ?_) ?_
      · show Steps p.tables e below (T6.setTop (mkF m 72 #[sI p0, sI p1, sI p2, sL q3, sS, sL q4, sS, sI p5, .val (.int (p0 &&& (1023 : Int32))), .val (.int (p1 &&& (1023 : Int32))), .val (.int (p2 &&& (1023 : Int32))), sI (1 : Int32), sI (0 : Int32), sN, sU, sU, sU, sU, sU, sU, sU, sU, sU, sU, sU, sU, sU, sU] [(.ref la6)])) _
        refine XS.goto X6.here hx rfl (pc0 := 72) (pc' := 76) rfl (hb hby at_72) (by decide) (by decide) ?_
        refine XS.astore X6.here hx rfl (hb hby at_76) rfl rfl (l' := #[.val (.int p0), .val (.int p1), .val (.int p2), .val (.long q3), .second, .val (.long q4), .second, .val (.int p5), .val (.int (p0 &&& (1023 : Int32))), .val (.int (p1 &&& (1023 : Int32))), .val (.int (p2 &&& (1023 : Int32))), .val (.int (1 : Int32)), .val (.int (0 : Int32)), .val .null, .val (.ref la6), .unset, .unset, .unset, .unset, .unset, .unset, .unset, .unset, .unset, .unset, .unset, .unset, .unset]) rfl ?_
        exact kt
      exact blk78A ⟨hx, hZ, hby, hml, hown, hrt, hlk⟩ hw hS (by omega) (IB.sup hI (by simp)) hnS hkp (padS X6 (by decide) (by decide)) e6 N0 p0 p1 p2 q3 q4 p5 (p0 &&& (1023 : Int32)) (p1 &&& (1023 : Int32)) (p2 &&& (1023 : Int32)) (1 : Int32) (0 : Int32) la6 (by omega) Ea6 (own_inb _) (own_inb _) (own_inb _)
    · refine GoW.pre (st' := s₁.setTop (mkF m 42 #[sI p0, sI p1, sI p2, sL q3, sS, sL q4, sS, sI p5, .val (.int (p0 &&& (1023 : Int32))), .val (.int (p1 &&& (1023 : Int32))), .val (.int (p2 &&& (1023 : Int32))), sI (1 : Int32), sU, sU, sU, sU, sU, sU, sU, sU, sU, sU, sU, sU, sU, sU, sU, sU] [])) (fun target kt => ?_) ?_
      · show Steps p.tables e below (s₁.setTop (mkF m 39 #[sI p0, sI p1, sI p2, sL q3, sS, sL q4, sS, sI p5, .val (.int (p0 &&& (1023 : Int32))), .val (.int (p1 &&& (1023 : Int32))), .val (.int (p2 &&& (1023 : Int32))), sI (1 : Int32), sU, sU, sU, sU, sU, sU, sU, sU, sU, sU, sU, sU, sU, sU, sU, sU] [(.int (p5 &&& (2 : Int32)))])) _
        refine XS.ifNo X0.here hx rfl (hb hby at_39) rfl ((if0 _ _).trans (feq h39_5).1) ?_
        exact kt
      refine GoW.pre (st' := s₁.setTop (mkF m 70 #[sI p0, sI p1, sI p2, sL q3, sS, sL q4, sS, sI p5, .val (.int (p0 &&& (1023 : Int32))), .val (.int (p1 &&& (1023 : Int32))), .val (.int (p2 &&& (1023 : Int32))), sI (1 : Int32), sI (1 : Int32), sN, sU, sU, sU, sU, sU, sU, sU, sU, sU, sU, sU, sU, sU, sU] [])) (fun target kt => ?_) ?_
      · show Steps p.tables e below (s₁.setTop (mkF m 42 #[sI p0, sI p1, sI p2, sL q3, sS, sL q4, sS, sI p5, .val (.int (p0 &&& (1023 : Int32))), .val (.int (p1 &&& (1023 : Int32))), .val (.int (p2 &&& (1023 : Int32))), sI (1 : Int32), sU, sU, sU, sU, sU, sU, sU, sU, sU, sU, sU, sU, sU, sU, sU, sU] [])) _
        refine XS.iconst X0.here hx rfl (hb hby at_42) ?_
        refine XS.goto X0.here hx rfl (pc0 := 43) (pc' := 47) rfl (hb hby at_43) (by decide) (by decide) ?_
        refine XS.istore X0.here hx rfl (hb hby at_47) rfl (l' := #[.val (.int p0), .val (.int p1), .val (.int p2), .val (.long q3), .second, .val (.long q4), .second, .val (.int p5), .val (.int (p0 &&& (1023 : Int32))), .val (.int (p1 &&& (1023 : Int32))), .val (.int (p2 &&& (1023 : Int32))), .val (.int (1 : Int32)), .val (.int (1 : Int32)), .unset, .unset, .unset, .unset, .unset, .unset, .unset, .unset, .unset, .unset, .unset, .unset, .unset, .unset, .unset]) rfl ?_
        refine XS.iload X0.here hx rfl (hb hby at_49) rfl ?_
        refine XS.ifNo X0.here hx rfl (hb hby at_51) rfl ((if0 _ _).trans (feq (by decide)).1) ?_
        refine XS.aconstNull X0.here hx rfl (hb hby at_54) ?_
        refine XS.goto X0.here hx rfl (pc0 := 55) (pc' := 63) rfl (hb hby at_55) (by decide) (by decide) ?_
        refine XS.astore X0.here hx rfl (hb hby at_63) rfl rfl (l' := #[.val (.int p0), .val (.int p1), .val (.int p2), .val (.long q3), .second, .val (.long q4), .second, .val (.int p5), .val (.int (p0 &&& (1023 : Int32))), .val (.int (p1 &&& (1023 : Int32))), .val (.int (p2 &&& (1023 : Int32))), .val (.int (1 : Int32)), .val (.int (1 : Int32)), .val .null, .unset, .unset, .unset, .unset, .unset, .unset, .unset, .unset, .unset, .unset, .unset, .unset, .unset, .unset]) rfl ?_
        refine XS.aload X0.here hx rfl (hb hby at_65) rfl rfl ?_
        refine XS.ifnonnullNo X0.here hx rfl (hb hby at_67) rfl ?_
        exact kt
      obtain ⟨la7, T7, h7, kq7, b7, k7, X7, e7, E7, hS, hk, hZ, hown, Ea7, Fc7, Fv7, Va7, lt7, lu7, hI, Lt_la7, st7⟩ := ldcSVL X0 hx hZ hown (ow hw 0 rfl) (own_wS hw) e0 hS (by omega) (hnS ▸ N0) hkp hI (by decide) (hheld _ (List.mem_of_getElem? (i := 0) rfl)) hcw (vs := [(.int (98 : Int32))]) (z := (1 : Int32)) ⟨by decide, by decide⟩ (by decide) rfl (g := (mkF m 70 #[sI p0, sI p1, sI p2, sL q3, sS, sL q4, sS, sI p5, .val (.int (p0 &&& (1023 : Int32))), .val (.int (p1 &&& (1023 : Int32))), .val (.int (p2 &&& (1023 : Int32))), sI (1 : Int32), sI (1 : Int32), sN, sU, sU, sU, sU, sU, sU, sU, sU, sU, sU, sU, sU, sU, sU] [])) rfl (hb hby at_70) (n := 4) (by decide) (by decide) (by decide) (by decide)
      have sz7 : h0.size ≤ h7.size := E7.1
      refine GoW.pre st7 ?_
      show GoW p e below s _ _ _ (T7.setTop (mkF m 72 #[sI p0, sI p1, sI p2, sL q3, sS, sL q4, sS, sI p5, .val (.int (p0 &&& (1023 : Int32))), .val (.int (p1 &&& (1023 : Int32))), .val (.int (p2 &&& (1023 : Int32))), sI (1 : Int32), sI (1 : Int32), sN, sU, sU, sU, sU, sU, sU, sU, sU, sU, sU, sU, sU, sU, sU] [(.ref la7)]))
      refine GoW.pre (st' := T7.setTop (mkF m 78 #[sI p0, sI p1, sI p2, sL q3, sS, sL q4, sS, sI p5, .val (.int (p0 &&& (1023 : Int32))), .val (.int (p1 &&& (1023 : Int32))), .val (.int (p2 &&& (1023 : Int32))), sI (1 : Int32), sI (1 : Int32), sN, sR la7, sU, sU, sU, sU, sU, sU, sU, sU, sU, sU, sU, sU, sU] [])) (fun target kt => ?_) ?_
      · show Steps p.tables e below (T7.setTop (mkF m 72 #[sI p0, sI p1, sI p2, sL q3, sS, sL q4, sS, sI p5, .val (.int (p0 &&& (1023 : Int32))), .val (.int (p1 &&& (1023 : Int32))), .val (.int (p2 &&& (1023 : Int32))), sI (1 : Int32), sI (1 : Int32), sN, sU, sU, sU, sU, sU, sU, sU, sU, sU, sU, sU, sU, sU, sU] [(.ref la7)])) _
        refine XS.goto X7.here hx rfl (pc0 := 72) (pc' := 76) rfl (hb hby at_72) (by decide) (by decide) ?_
        refine XS.astore X7.here hx rfl (hb hby at_76) rfl rfl (l' := #[.val (.int p0), .val (.int p1), .val (.int p2), .val (.long q3), .second, .val (.long q4), .second, .val (.int p5), .val (.int (p0 &&& (1023 : Int32))), .val (.int (p1 &&& (1023 : Int32))), .val (.int (p2 &&& (1023 : Int32))), .val (.int (1 : Int32)), .val (.int (1 : Int32)), .val .null, .val (.ref la7), .unset, .unset, .unset, .unset, .unset, .unset, .unset, .unset, .unset, .unset, .unset, .unset, .unset]) rfl ?_
        exact kt
      exact blk78A ⟨hx, hZ, hby, hml, hown, hrt, hlk⟩ hw hS (by omega) (IB.sup hI (by simp)) hnS hkp (padS X7 (by decide) (by decide)) e7 N0 p0 p1 p2 q3 q4 p5 (p0 &&& (1023 : Int32)) (p1 &&& (1023 : Int32)) (p2 &&& (1023 : Int32)) (1 : Int32) (1 : Int32) la7 (by omega) Ea7 (own_inb _) (own_inb _) (own_inb _)
theorem own_cs {Z : State} {args : Array Value} {t : Term} {x : Int32} (ev : t.eval args Z none [] Z = some (.int x)) (h : (Cond.not (.eq t (.int 0))).value args Z none Z [] = some true) : ¬ x = (0 : Int32) := by
  have q := not_v h
  intro e; subst e
  rw [eq_i ev (Term.int_eval _) rfl] at q
  cases q
set_option maxRecDepth 65536 in
set_option maxHeartbeats 40000000 in
theorem comes_1 {Post : Tables → Env → Array Value → State → Outcome → State → Prop} (hpost : ∀ tb e args s v u, (limb_1_1.after args s (.returned v) u = true ∧ limb_1_2.after args s (.returned v) u = true ∧ True) → ReturnedEndW s (.returned v) u (Jvm.fieldLocs frame_1_writes args s ++ Jvm.arrayLocs frame_1_arrays args s ++ Jvm.staticLocs frame_1_statics s) 48 14528 → Post tb e args s (.returned v) u) :
    ArmFor flags0 classFile x code maxLocals ret World_1 tables_1 room_1 Calls_1 rest_1 Pre_1 Post := by
  intro l hfl _ _ p e ha hc hk s m args below hf hA hF happ hP
  obtain ⟨hcalls, hrest, hpre⟩ := hP
  obtain ⟨-, -, -, hnamed, -, -, -, hat⟩ := (Spec.applies_iff hf).mp happ
  obtain ⟨hg, hn⟩ := and_e (Cond.before_iff.mp (show (Jvm.Cond.and given_1 narrow_1).before args s = true from hpre))
  obtain ⟨g0, hg1⟩ := and_e hg
  obtain ⟨g1, hg2⟩ := and_e hg1
  obtain ⟨g2, hg3⟩ := and_e hg2
  obtain ⟨g3, hg4⟩ := and_e hg3
  obtain ⟨g4, hg5⟩ := and_e hg4
  obtain ⟨g5, hg6⟩ := and_e hg5
  obtain ⟨w0, w1, w2, w3, w4, w5, rfl⟩ : ∃ w0 w1 w2 w3 w4 w5 : Value, args = #[w0, w1, w2, w3, w4, w5] := by
    have hs : args.size = 6 := by simpa [Cond.value, given_1] using g0
    obtain ⟨L⟩ := args
    match L, hs with
    | [w0, w1, w2, w3, w4, w5], _ => exact ⟨w0, w1, w2, w3, w4, w5, rfl⟩
  have hw := fun d (hd : d ∈ tables_1) => atoms_spec (ws := Jvm.Cond.code x code maxLocals ret :: tables_1) hat d (List.mem_cons_of_mem _ hd)
  obtain ⟨i0, ei0⟩ := is_v g1
  obtain rfl : w0 = (.int i0) := Option.some.inj ei0
  obtain ⟨i1, ei1⟩ := is_v g2
  obtain rfl : w1 = (.int i1) := Option.some.inj ei1
  obtain ⟨i2, ei2⟩ := is_v g3
  obtain rfl : w2 = (.int i2) := Option.some.inj ei2
  obtain ⟨i3, ei3⟩ := isL_v g4
  obtain rfl : w3 = (.long i3) := Option.some.inj ei3
  obtain ⟨i4, ei4⟩ := isL_v g5
  obtain rfl : w4 = (.long i4) := Option.some.inj ei4
  obtain ⟨i5, ei5⟩ := is_v hg6
  obtain rfl : w5 = (.int i5) := Option.some.inj ei5
  obtain ⟨hsets, hown0⟩ := atoms_of _ (rest_1_c_eq ▸ (show rest_1_c.before _ s = true from hrest))
  obtain ⟨vC, evC⟩ := is_v (Cond.before_iff.mp (hsets _ (List.mem_of_getElem? (i := 1) rfl)))
  have S_C := Sta.start evC (Or.inl (hsets _ (List.mem_of_getElem? (i := 0) rfl)))
  have hcs := own_cs evC (Cond.before_iff.mp (hsets _ (List.mem_of_getElem? (i := 2) rfl)))
  have hheld : ∀ q ∈ consts_1, Jvm.Lit.constHeld s q.1 q.2 := fun q hq => hcalls.1 q hq
  obtain ⟨n, o, h1, h2, h3, _, L, rfl, ⟨rfl, N⟩, hq⟩ := rm0 l s _ hw tables_1 i0 i1 i2 i3 i4 i5 vC s.heap s.heap.size (Nat.le_refl _) S_C hcs (hsets _ (List.mem_of_getElem? (i := 2) rfl)) hheld (Old.start s) rfl p e ha hc hk s m _ below hf ((Spec.applies_iff_loose hf).mp happ).1 ⟨rfl, State.Warmed39.refl s, rfl, IB.start⟩ trivial
  refine ⟨n, _, h1, h2, h3, hpost _ _ _ _ _ _ ⟨Cond.after_iff.mpr rfl, Cond.after_iff.mpr (eq_i res_at (Term.int_eval (1)) rfl), trivial⟩ ⟨hq.1, hq.2.1, hq.2.2.1, (hq.2.2.2.sift fun y hy => Or.inr (N y hy)).mono (by decide) (by decide)⟩⟩
theorem main_1_1 : Claimed_1_1 := comes_1 fun _ _ _ _ _ _ h hF => ⟨h.1, hF⟩
theorem main_1_2 : Claimed_1_2 := comes_1 fun _ _ _ _ _ _ h hF => ⟨h.2.1, hF⟩
end Jvm.Pilot.@@N@@
namespace Jvm.Pilot.@@N@@
open Jvm Jvm.ClassFile Sem Op Lib Jvm.Free Jvm.Stand Jvm.Pilot.@@N@@.Jvm.D
/-! MADE BY PROGRAM (witnessworld.py) out of the Statement's table words and the real class files: 26 classes; the members and pool entries that the words name. The judged class is class 1, her method 2. -/
namespace start1
open Jvm.ClassFile
def u (s : String) : CpInfo := .utf8 (stringToUtf16 s)
/-- a pool by its gaps: so many unusable entries, then the entry; so many at the end -/
def gap : Nat → List CpInfo → List CpInfo
  | 0, r => r
  | n + 1, r => .unusable :: gap n r
def poolList (es : List (Nat × CpInfo)) (last : Nat) : List CpInfo := es.foldr (fun e r => gap e.1 (e.2 :: r)) (gap last [])
def pool (es : List (Nat × CpInfo)) (last : Nat) : Array CpInfo := ⟨poolList es last⟩
def fileOf (pool : Array CpInfo) (this : Nat) (attrs : Array Attribute := #[]) (ms : Array MethodInfo := #[]) (fl : Nat := 33) (sup : Nat := 0) (ifs : Array Nat := #[]) (fds : Array FieldInfo := #[]) : ClassFile where
  minorVersion := 0
  majorVersion := 65
  constantPool := pool
  accessFlags := fl
  thisClass := this
  superClass := sup
  interfaces := ifs
  fields := fds
  methods := ms
  attributes := attrs
def plain (name : String) (sup : Option ClassId) : Class where
  name := name
  kind := .ordinary
  loader := none
  accessFlags := 33
  super := sup
  interfaces := #[]
  cf := none
  fields := #[]
  methods := #[]
  instanceTypes := #[]
  staticTypes := #[]
  resolved := #[]
  callSites := []
  init := .initialized
  statics := none
  mirror := none

def pool0 : Array CpInfo := pool [(5, u "<init>"), (0, u "()V"), (1, .class_ 10), (1, u "java/lang/Object")] 113

def k0c0 : Code := { maxStack := 0, maxLocals := 1, code := object_method_1_code, exceptionTable := #[], attributes := #[] }
def k0m0 : Method := { name := "<init>", desc := "()V", sig := { parameters := [], returnType := none }, accessFlags := 1, code := some k0c0 }
/-- java/lang/Object -/
def k0 : Class := { plain "java/lang/Object" none with
  accessFlags := 33
  interfaces := #[]
  cf := some (fileOf pool0 8 #[] #[{ accessFlags := 1, nameIndex := 5, descriptorIndex := 6, attributes := #[] }] 33 0 #[] #[])
  fields := #[]
  methods := #[k0m0]
  instanceTypes := #[]
  staticTypes := #[]
  resolved := Array.replicate 124 none
  statics := none }

def pool1 : Array CpInfo := pool [(2, .class_ 4), (0, .nameAndType 5 6), (0, u "java/lang/Object"), (0, u "<init>"), (0, u "()V"), (0, .methodref 8 9), (0, .class_ 10), (0, .nameAndType 11 12), (0, u "java/lang/Math"), (0, u "min"), (0, u "(II)I"), (0, .class_ 14), (0, u "java/lang/String"), (0, .methodref 13 16), (0, .nameAndType 5 17), (0, u "([C)V"), (0, .methodref 13 19), (0, .nameAndType 20 21), (0, u "valueOf"), (0, u "(C)Ljava/lang/String;"), (0, .class_ 23), (0, u "com/example/satzung/satzung/validate/PlacePage"), (0, .methodref 25 26), (0, .class_ 27), (0, .nameAndType 28 29), (0, u "com/example/satzung/satzung/validate/PlacePageSetPinLaw"), (0, u "entityOf"), (0, u "(I)Ljava/lang/String;"), (0, .string 31), (0, u "b"), (2, .long 9223372036854775807), (1, .methodref 8 37), (0, .nameAndType 38 39), (0, u "max"), (0, u "(JJ)J"), (0, .class_ 41), (0, u "com/example/satzung/satzung/diagnostics/Location"), (0, .methodref 40 43), (0, .nameAndType 5 44), (0, u "(Ljava/lang/String;JJ)V"), (0, .methodref 22 3), (0, .methodref 22 47), (0, .nameAndType 48 49), (0, u "set"), (0, u "(ILcom/example/satzung/satzung/diagnostics/Location;)V"), (0, .methodref 22 51), (0, .nameAndType 48 52), (0, u "(ILcom/example/satzung/satzung/validate/PlacePage;I)V"), (0, .methodref 22 54), (0, .nameAndType 55 56), (0, u "get"), (0, u "(I)Lcom/example/satzung/satzung/diagnostics/Location;"), (0, .methodref 40 58), (0, .nameAndType 59 60), (0, u "equals"), (0, u "(Ljava/lang/Object;)Z"), (3, u "law"), (0, u "(IIIJJI)Z")] 2

def k1m0 : Method := { name := "<init>", desc := "()V", sig := { parameters := [], returnType := none }, accessFlags := 1, code := none }
def k1c1 : Code := { maxStack := 6, maxLocals := 4, code := method_2_code, exceptionTable := #[], attributes := #[] }
def k1m1 : Method := { name := "entityOf", desc := "(I)Ljava/lang/String;", sig := { parameters := [.int], returnType := some (.object "java/lang/String") }, accessFlags := 10, code := some k1c1 }
def k1c2 : Code := { maxStack := 7, maxLocals := 28, code := code, exceptionTable := #[], attributes := #[] }
def k1m2 : Method := { name := "law", desc := "(IIIJJI)Z", sig := { parameters := [.int, .int, .int, .long, .long, .int], returnType := some .boolean }, accessFlags := 9, code := some k1c2 }
/-- com/example/satzung/satzung/validate/PlacePageSetPinLaw -/
def k1 : Class := { plain "com/example/satzung/satzung/validate/PlacePageSetPinLaw" (some 0) with
  accessFlags := 49
  interfaces := #[]
  cf := some (fileOf pool1 25 #[] #[{ accessFlags := 1, nameIndex := 5, descriptorIndex := 6, attributes := #[] }, { accessFlags := 10, nameIndex := 28, descriptorIndex := 29, attributes := #[] }, { accessFlags := 9, nameIndex := 64, descriptorIndex := 65, attributes := #[] }] 49 2 #[] #[])
  fields := #[]
  methods := #[k1m0, k1m1, k1m2]
  instanceTypes := #[]
  staticTypes := #[]
  resolved := Array.replicate 68 none
  statics := none }

def pool2 : Array CpInfo := pool [(1, .class_ 2), (0, u "java/io/Serializable"), (0, .class_ 4), (0, u "java/lang/Object")] 2

/-- java/io/Serializable -/
def k2 : Class := { plain "java/io/Serializable" (some 0) with
  accessFlags := 1537
  interfaces := #[]
  cf := some (fileOf pool2 1 #[] #[] 1537 3 #[] #[])
  fields := #[]
  methods := #[]
  instanceTypes := #[]
  staticTypes := #[]
  resolved := Array.replicate 7 none
  statics := none }

def pool3 : Array CpInfo := pool [(1, .class_ 2), (0, u "java/lang/Comparable"), (0, .class_ 4), (0, u "java/lang/Object")] 7

/-- java/lang/Comparable -/
def k3 : Class := { plain "java/lang/Comparable" (some 0) with
  accessFlags := 1537
  interfaces := #[]
  cf := some (fileOf pool3 1 #[] #[] 1537 3 #[] #[])
  fields := #[]
  methods := #[]
  instanceTypes := #[]
  staticTypes := #[]
  resolved := Array.replicate 12 none
  statics := none }

def pool4 : Array CpInfo := pool [(2, .class_ 4), (1, u "java/lang/CharSequence"), (42, .class_ 48), (0, u "java/lang/CharSequence$1CodePointIterator"), (10, .class_ 60), (0, u "java/lang/CharSequence$1CharIterator"), (5, .class_ 67), (0, u "java/lang/Object")] 63

/-- java/lang/CharSequence -/
def k4 : Class := { plain "java/lang/CharSequence" (some 0) with
  accessFlags := 1537
  interfaces := #[]
  cf := some (fileOf pool4 2 #[.nestMembers #[47, 59]] #[] 1537 66 #[] #[])
  fields := #[]
  methods := #[]
  instanceTypes := #[]
  staticTypes := #[]
  resolved := Array.replicate 131 none
  statics := none }

def pool5 : Array CpInfo := pool [(1, .class_ 2), (0, u "java/lang/constant/Constable"), (0, .class_ 4), (0, u "java/lang/Object")] 6

/-- java/lang/constant/Constable -/
def k5 : Class := { plain "java/lang/constant/Constable" (some 0) with
  accessFlags := 1537
  interfaces := #[]
  cf := some (fileOf pool5 1 #[] #[] 1537 3 #[] #[])
  fields := #[]
  methods := #[]
  instanceTypes := #[]
  staticTypes := #[]
  resolved := Array.replicate 11 none
  statics := none }

def pool6 : Array CpInfo := pool [(1, .class_ 2), (0, u "java/lang/constant/ConstantDesc"), (0, .class_ 4), (0, u "java/lang/Object")] 32

/-- java/lang/constant/ConstantDesc -/
def k6 : Class := { plain "java/lang/constant/ConstantDesc" (some 0) with
  accessFlags := 1537
  interfaces := #[]
  cf := some (fileOf pool6 1 #[] #[] 1537 3 #[] #[])
  fields := #[]
  methods := #[]
  instanceTypes := #[]
  staticTypes := #[]
  resolved := Array.replicate 37 none
  statics := none }

def pool7 : Array CpInfo := pool [(1, .methodref 2 3), (0, .class_ 4), (0, .nameAndType 5 6), (0, u "java/lang/Object"), (0, u "<init>"), (0, u "()V"), (0, .string 8), (0, u ""), (0, .fieldref 10 11), (0, .class_ 12), (0, .nameAndType 13 14), (0, u "java/lang/String"), (0, u "value"), (0, u "[B"), (0, .fieldref 10 16), (0, .nameAndType 17 18), (0, u "coder"), (0, u "B"), (2, u "hash"), (0, u "I"), (2, u "hashIsZero"), (0, u "Z"), (0, .methodref 10 28), (0, .nameAndType 5 29), (0, u "([CIILjava/lang/Void;)V"), (8, .fieldref 10 39), (0, .nameAndType 40 26), (0, u "COMPACT_STRINGS"), (1, .class_ 44), (1, u "java/lang/StringUTF16"), (0, u "compress"), (1, .methodref 42 48), (0, .nameAndType 49 50), (0, u "coderFromArrayLen"), (0, u "([BI)B"), (2, u "toBytes"), (53, .class_ 109), (1, u "java/lang/StringLatin1"), (67, .methodref 42 178), (0, .nameAndType 45 179), (0, u "([CII)[B"), (29, .methodref 10 210), (0, .nameAndType 5 211), (0, u "([BB)V"), (157, u "(C)Z"), (205, .class_ 576), (0, u "java/lang/CharSequence"), (22, u "CASE_INSENSITIVE_ORDER"), (0, u "Ljava/util/Comparator;"), (181, u "valueOf"), (0, u "(C)Ljava/lang/String;"), (226, u "([C)V"), (4, .methodref 107 1016), (0, .nameAndType 1017 369), (0, u "canEncode"), (0, .methodref 107 1019), (0, .nameAndType 53 1020), (0, u "(C)[B"), (80, u "serialPersistentFields"), (0, u "[Ljava/io/ObjectStreamField;"), (0, .class_ 1104), (0, u "java/lang/String$CaseInsensitiveComparator"), (1, .class_ 1107), (0, u "java/io/Serializable"), (0, .class_ 1109), (0, u "java/lang/Comparable"), (0, .class_ 1111), (0, u "java/lang/constant/Constable"), (0, .class_ 1113), (0, u "java/lang/constant/ConstantDesc"), (2, u "serialVersionUID"), (0, u "J"), (3, u "REPL"), (0, u "C"), (2, u "LATIN1"), (1, u "UTF16")] 323

def k7m0 : Method := { name := "<init>", desc := "()V", sig := { parameters := [], returnType := none }, accessFlags := 1, code := none }
def k7c1 : Code := { maxStack := 5, maxLocals := 2, code := jdk_42_method_3_code, exceptionTable := #[], attributes := #[] }
def k7m1 : Method := { name := "<init>", desc := "([C)V", sig := { parameters := [(.array .char)], returnType := none }, accessFlags := 1, code := some k7c1 }
def k7c2 : Code := { maxStack := 4, maxLocals := 1, code := jdk_42_method_139_code, exceptionTable := #[], attributes := #[] }
def k7m2 : Method := { name := "valueOf", desc := "(C)Ljava/lang/String;", sig := { parameters := [.char], returnType := some (.object "java/lang/String") }, accessFlags := 9, code := some k7c2 }
def k7c3 : Code := { maxStack := 4, maxLocals := 6, code := jdk_42_method_149_code, exceptionTable := #[], attributes := #[] }
def k7m3 : Method := { name := "<init>", desc := "([CIILjava/lang/Void;)V", sig := { parameters := [(.array .char), .int, .int, (.object "java/lang/Void")], returnType := none }, accessFlags := 2, code := some k7c3 }
def k7c4 : Code := { maxStack := 2, maxLocals := 3, code := jdk_42_method_151_code, exceptionTable := #[], attributes := #[] }
def k7m4 : Method := { name := "<init>", desc := "([BB)V", sig := { parameters := [(.array .byte), .byte], returnType := none }, accessFlags := 0, code := some k7c4 }
/-- java/lang/String -/
def k7 : Class := { plain "java/lang/String" (some 0) with
  accessFlags := 49
  interfaces := #[2, 3, 4, 5, 6]
  cf := some (fileOf pool7 10 #[.nestMembers #[1103]] #[{ accessFlags := 1, nameIndex := 5, descriptorIndex := 6, attributes := #[] }, { accessFlags := 1, nameIndex := 5, descriptorIndex := 1010, attributes := #[] }, { accessFlags := 9, nameIndex := 782, descriptorIndex := 783, attributes := #[] }, { accessFlags := 2, nameIndex := 5, descriptorIndex := 29, attributes := #[] }, { accessFlags := 0, nameIndex := 5, descriptorIndex := 211, attributes := #[] }] 49 2 #[1106, 1108, 575, 1110, 1112] #[{ accessFlags := 18, nameIndex := 13, descriptorIndex := 14, attributes := #[] }, { accessFlags := 18, nameIndex := 17, descriptorIndex := 18, attributes := #[] }, { accessFlags := 2, nameIndex := 21, descriptorIndex := 22, attributes := #[] }, { accessFlags := 2, nameIndex := 25, descriptorIndex := 26, attributes := #[] }, { accessFlags := 26, nameIndex := 1116, descriptorIndex := 1117, attributes := #[] }, { accessFlags := 24, nameIndex := 40, descriptorIndex := 26, attributes := #[] }, { accessFlags := 26, nameIndex := 1101, descriptorIndex := 1102, attributes := #[] }, { accessFlags := 26, nameIndex := 1121, descriptorIndex := 1122, attributes := #[] }, { accessFlags := 25, nameIndex := 599, descriptorIndex := 600, attributes := #[] }, { accessFlags := 24, nameIndex := 1125, descriptorIndex := 18, attributes := #[] }, { accessFlags := 24, nameIndex := 1127, descriptorIndex := 18, attributes := #[] }])
  fields := #[{ name := "value", type := (.array .byte), accessFlags := 18, slot := 0, constantValue := 0 }, { name := "coder", type := .byte, accessFlags := 18, slot := 1, constantValue := 0 }, { name := "hash", type := .int, accessFlags := 2, slot := 2, constantValue := 0 }, { name := "hashIsZero", type := .boolean, accessFlags := 2, slot := 3, constantValue := 0 }, { name := "serialVersionUID", type := .long, accessFlags := 26, slot := 0, constantValue := 0 }, { name := "COMPACT_STRINGS", type := .boolean, accessFlags := 24, slot := 1, constantValue := 0 }, { name := "serialPersistentFields", type := (.array (.object "java/io/ObjectStreamField")), accessFlags := 26, slot := 2, constantValue := 0 }, { name := "REPL", type := .char, accessFlags := 26, slot := 3, constantValue := 0 }, { name := "CASE_INSENSITIVE_ORDER", type := (.object "java/util/Comparator"), accessFlags := 25, slot := 4, constantValue := 0 }, { name := "LATIN1", type := .byte, accessFlags := 24, slot := 5, constantValue := 0 }, { name := "UTF16", type := .byte, accessFlags := 24, slot := 6, constantValue := 0 }]
  methods := #[k7m0, k7m1, k7m2, k7m3, k7m4]
  instanceTypes := #[(.array .byte), .byte, .int, .boolean]
  staticTypes := #[.long, .boolean, (.array (.object "java/io/ObjectStreamField")), .char, (.object "java/util/Comparator"), .byte, .byte]
  resolved := Array.replicate 1451 none
  statics := some 0 }

def pool8 : Array CpInfo := pool [(1, .class_ 2), (0, u "java/lang/Math"), (1, .class_ 6), (1, u "java/lang/Object"), (0, u "<init>"), (0, u "()V"), (89, .class_ 100), (1, u "java/lang/Math$RandomNumberGeneratorHolder"), (20, u "(JJ)J"), (50, u "negativeZeroFloatBits"), (0, u "J"), (2, u "negativeZeroDoubleBits"), (21, u "max"), (2, u "min"), (43, u "$assertionsDisabled"), (0, u "Z"), (88, u "(II)I"), (2, u "twoToTheDoubleScaleDown"), (0, u "D"), (4, u "twoToTheDoubleScaleUp"), (9, u "E"), (3, u "PI"), (2, u "TAU"), (2, u "DEGREES_TO_RADIANS"), (0, u "RADIANS_TO_DEGREES")] 94

def k8m0 : Method := { name := "<init>", desc := "()V", sig := { parameters := [], returnType := none }, accessFlags := 2, code := none }
def k8c1 : Code := { maxStack := 4, maxLocals := 4, code := jdk_29_method_66_code, exceptionTable := #[], attributes := #[] }
def k8m1 : Method := { name := "max", desc := "(JJ)J", sig := { parameters := [.long, .long], returnType := some .long }, accessFlags := 9, code := some k8c1 }
def k8c2 : Code := { maxStack := 2, maxLocals := 2, code := jdk_29_method_69_code, exceptionTable := #[], attributes := #[] }
def k8m2 : Method := { name := "min", desc := "(II)I", sig := { parameters := [.int, .int], returnType := some .int }, accessFlags := 9, code := some k8c2 }
/-- java/lang/Math -/
def k8 : Class := { plain "java/lang/Math" (some 0) with
  accessFlags := 49
  interfaces := #[]
  cf := some (fileOf pool8 1 #[.nestMembers #[98]] #[{ accessFlags := 2, nameIndex := 7, descriptorIndex := 8, attributes := #[] }, { accessFlags := 9, nameIndex := 198, descriptorIndex := 121, attributes := #[] }, { accessFlags := 9, nameIndex := 201, descriptorIndex := 335, attributes := #[] }] 49 4 #[] #[{ accessFlags := 25, nameIndex := 354, descriptorIndex := 339, attributes := #[] }, { accessFlags := 25, nameIndex := 358, descriptorIndex := 339, attributes := #[] }, { accessFlags := 25, nameIndex := 361, descriptorIndex := 339, attributes := #[] }, { accessFlags := 26, nameIndex := 364, descriptorIndex := 339, attributes := #[] }, { accessFlags := 26, nameIndex := 365, descriptorIndex := 339, attributes := #[] }, { accessFlags := 26, nameIndex := 172, descriptorIndex := 173, attributes := #[] }, { accessFlags := 26, nameIndex := 176, descriptorIndex := 173, attributes := #[] }, { accessFlags := 8, nameIndex := 344, descriptorIndex := 339, attributes := #[] }, { accessFlags := 8, nameIndex := 338, descriptorIndex := 339, attributes := #[] }, { accessFlags := 4120, nameIndex := 245, descriptorIndex := 246, attributes := #[] }])
  fields := #[{ name := "E", type := .double, accessFlags := 25, slot := 0, constantValue := 0 }, { name := "PI", type := .double, accessFlags := 25, slot := 1, constantValue := 0 }, { name := "TAU", type := .double, accessFlags := 25, slot := 2, constantValue := 0 }, { name := "DEGREES_TO_RADIANS", type := .double, accessFlags := 26, slot := 3, constantValue := 0 }, { name := "RADIANS_TO_DEGREES", type := .double, accessFlags := 26, slot := 4, constantValue := 0 }, { name := "negativeZeroFloatBits", type := .long, accessFlags := 26, slot := 5, constantValue := 0 }, { name := "negativeZeroDoubleBits", type := .long, accessFlags := 26, slot := 6, constantValue := 0 }, { name := "twoToTheDoubleScaleUp", type := .double, accessFlags := 8, slot := 7, constantValue := 0 }, { name := "twoToTheDoubleScaleDown", type := .double, accessFlags := 8, slot := 8, constantValue := 0 }, { name := "$assertionsDisabled", type := .boolean, accessFlags := 4120, slot := 9, constantValue := 0 }]
  methods := #[k8m0, k8m1, k8m2]
  instanceTypes := #[]
  staticTypes := #[.double, .double, .double, .double, .double, .long, .long, .double, .double, .boolean]
  resolved := Array.replicate 460 none
  statics := none }

def pool9 : Array CpInfo := pool [(2, .class_ 4), (1, u "com/example/satzung/satzung/diagnostics/Location"), (0, u "<init>"), (0, u "(Ljava/lang/String;JJ)V"), (0, .methodref 8 9), (0, .class_ 10), (0, .nameAndType 5 11), (0, u "java/lang/Object"), (0, u "()V"), (9, .fieldref 2 22), (0, .nameAndType 23 24), (0, u "entity"), (0, u "Ljava/lang/String;"), (0, .fieldref 2 26), (0, .nameAndType 27 28), (0, u "line"), (0, u "J"), (0, .fieldref 2 30), (0, .nameAndType 31 28), (0, u "column"), (2, u "URI_SCHEME"), (0, u "Ljava/util/regex/Pattern;"), (12, .methodref 49 50), (0, .class_ 51), (0, .nameAndType 52 53), (0, u "java/util/Objects"), (0, u "equals"), (0, u "(Ljava/lang/Object;Ljava/lang/Object;)Z"), (28, u "START"), (0, u "Lcom/example/satzung/satzung/diagnostics/Location;"), (5, u "()Ljava/lang/String;"), (2, u "()J"), (0, u "(Ljava/lang/Object;)Z")] 24

def k9c0 : Code := { maxStack := 6, maxLocals := 6, code := prog_39_method_2_code, exceptionTable := #[], attributes := #[] }
def k9m0 : Method := { name := "<init>", desc := "(Ljava/lang/String;JJ)V", sig := { parameters := [(.object "java/lang/String"), .long, .long], returnType := none }, accessFlags := 1, code := some k9c0 }
def k9c1 : Code := { maxStack := 1, maxLocals := 1, code := prog_39_method_3_code, exceptionTable := #[], attributes := #[] }
def k9m1 : Method := { name := "entity", desc := "()Ljava/lang/String;", sig := { parameters := [], returnType := some (.object "java/lang/String") }, accessFlags := 1, code := some k9c1 }
def k9c2 : Code := { maxStack := 2, maxLocals := 1, code := prog_39_method_5_code, exceptionTable := #[], attributes := #[] }
def k9m2 : Method := { name := "line", desc := "()J", sig := { parameters := [], returnType := some .long }, accessFlags := 1, code := some k9c2 }
def k9c3 : Code := { maxStack := 2, maxLocals := 1, code := prog_39_method_6_code, exceptionTable := #[], attributes := #[] }
def k9m3 : Method := { name := "column", desc := "()J", sig := { parameters := [], returnType := some .long }, accessFlags := 1, code := some k9c3 }
def k9c4 : Code := { maxStack := 4, maxLocals := 3, code := prog_39_method_7_code, exceptionTable := #[], attributes := #[] }
def k9m4 : Method := { name := "equals", desc := "(Ljava/lang/Object;)Z", sig := { parameters := [(.object "java/lang/Object")], returnType := some .boolean }, accessFlags := 1, code := some k9c4 }
/-- com/example/satzung/satzung/diagnostics/Location -/
def k9 : Class := { plain "com/example/satzung/satzung/diagnostics/Location" (some 0) with
  accessFlags := 49
  interfaces := #[]
  cf := some (fileOf pool9 2 #[] #[{ accessFlags := 1, nameIndex := 5, descriptorIndex := 6, attributes := #[] }, { accessFlags := 1, nameIndex := 23, descriptorIndex := 89, attributes := #[] }, { accessFlags := 1, nameIndex := 27, descriptorIndex := 92, attributes := #[] }, { accessFlags := 1, nameIndex := 31, descriptorIndex := 92, attributes := #[] }, { accessFlags := 1, nameIndex := 52, descriptorIndex := 93, attributes := #[] }] 49 8 #[] #[{ accessFlags := 26, nameIndex := 34, descriptorIndex := 35, attributes := #[] }, { accessFlags := 25, nameIndex := 82, descriptorIndex := 83, attributes := #[] }, { accessFlags := 18, nameIndex := 23, descriptorIndex := 24, attributes := #[] }, { accessFlags := 18, nameIndex := 27, descriptorIndex := 28, attributes := #[] }, { accessFlags := 18, nameIndex := 31, descriptorIndex := 28, attributes := #[] }])
  fields := #[{ name := "URI_SCHEME", type := (.object "java/util/regex/Pattern"), accessFlags := 26, slot := 0, constantValue := 0 }, { name := "START", type := (.object "com/example/satzung/satzung/diagnostics/Location"), accessFlags := 25, slot := 1, constantValue := 0 }, { name := "entity", type := (.object "java/lang/String"), accessFlags := 18, slot := 0, constantValue := 0 }, { name := "line", type := .long, accessFlags := 18, slot := 1, constantValue := 0 }, { name := "column", type := .long, accessFlags := 18, slot := 2, constantValue := 0 }]
  methods := #[k9m0, k9m1, k9m2, k9m3, k9m4]
  instanceTypes := #[(.object "java/lang/String"), .long, .long]
  staticTypes := #[(.object "java/util/regex/Pattern"), (.object "com/example/satzung/satzung/diagnostics/Location")]
  resolved := Array.replicate 118 none
  statics := none }

def pool10 : Array CpInfo := pool [(1, .class_ 2), (0, u "com/example/satzung/satzung/validate/PlacePage"), (0, .methodref 4 5), (0, .class_ 6), (0, .nameAndType 7 8), (0, u "java/lang/Object"), (0, u "<init>"), (0, u "()V"), (0, .class_ 10), (0, u "java/lang/String"), (0, .fieldref 1 12), (0, .nameAndType 13 14), (0, u "entities"), (0, u "[Ljava/lang/String;"), (0, .fieldref 1 16), (0, .nameAndType 17 18), (0, u "lines"), (0, u "[J"), (0, .fieldref 1 20), (0, .nameAndType 21 18), (0, u "columns"), (0, .methodref 23 24), (0, .class_ 25), (0, .nameAndType 26 27), (0, u "com/example/satzung/satzung/diagnostics/Location"), (0, u "entity"), (0, u "()Ljava/lang/String;"), (0, .methodref 23 29), (0, .nameAndType 30 31), (0, u "line"), (0, u "()J"), (0, .methodref 23 33), (0, .nameAndType 34 31), (0, u "column"), (0, .methodref 23 36), (0, .nameAndType 7 37), (0, u "(Ljava/lang/String;JJ)V"), (0, u "BITS"), (0, u "I"), (2, u "SIZE"), (3, u "set"), (0, u "(ILcom/example/satzung/satzung/diagnostics/Location;)V"), (0, u "(ILcom/example/satzung/satzung/validate/PlacePage;I)V"), (0, u "get"), (0, u "(I)Lcom/example/satzung/satzung/diagnostics/Location;")] 2

def k10c0 : Code := { maxStack := 2, maxLocals := 1, code := prog_117_method_1_code, exceptionTable := #[], attributes := #[] }
def k10m0 : Method := { name := "<init>", desc := "()V", sig := { parameters := [], returnType := none }, accessFlags := 0, code := some k10c0 }
def k10c1 : Code := { maxStack := 4, maxLocals := 3, code := prog_117_method_2_code, exceptionTable := #[], attributes := #[] }
def k10m1 : Method := { name := "set", desc := "(ILcom/example/satzung/satzung/diagnostics/Location;)V", sig := { parameters := [.int, (.object "com/example/satzung/satzung/diagnostics/Location")], returnType := none }, accessFlags := 0, code := some k10c1 }
def k10c2 : Code := { maxStack := 4, maxLocals := 4, code := prog_117_method_3_code, exceptionTable := #[], attributes := #[] }
def k10m2 : Method := { name := "set", desc := "(ILcom/example/satzung/satzung/validate/PlacePage;I)V", sig := { parameters := [.int, (.object "com/example/satzung/satzung/validate/PlacePage"), .int], returnType := none }, accessFlags := 0, code := some k10c2 }
def k10c3 : Code := { maxStack := 7, maxLocals := 2, code := prog_117_method_4_code, exceptionTable := #[], attributes := #[] }
def k10m3 : Method := { name := "get", desc := "(I)Lcom/example/satzung/satzung/diagnostics/Location;", sig := { parameters := [.int], returnType := some (.object "com/example/satzung/satzung/diagnostics/Location") }, accessFlags := 0, code := some k10c3 }
/-- com/example/satzung/satzung/validate/PlacePage -/
def k10 : Class := { plain "com/example/satzung/satzung/validate/PlacePage" (some 0) with
  accessFlags := 48
  interfaces := #[]
  cf := some (fileOf pool10 1 #[] #[{ accessFlags := 0, nameIndex := 7, descriptorIndex := 8, attributes := #[] }, { accessFlags := 0, nameIndex := 46, descriptorIndex := 47, attributes := #[] }, { accessFlags := 0, nameIndex := 46, descriptorIndex := 48, attributes := #[] }, { accessFlags := 0, nameIndex := 49, descriptorIndex := 50, attributes := #[] }] 48 4 #[] #[{ accessFlags := 24, nameIndex := 38, descriptorIndex := 39, attributes := #[] }, { accessFlags := 24, nameIndex := 42, descriptorIndex := 39, attributes := #[] }, { accessFlags := 18, nameIndex := 13, descriptorIndex := 14, attributes := #[] }, { accessFlags := 18, nameIndex := 17, descriptorIndex := 18, attributes := #[] }, { accessFlags := 18, nameIndex := 21, descriptorIndex := 18, attributes := #[] }])
  fields := #[{ name := "BITS", type := .int, accessFlags := 24, slot := 0, constantValue := 0 }, { name := "SIZE", type := .int, accessFlags := 24, slot := 1, constantValue := 0 }, { name := "entities", type := (.array (.object "java/lang/String")), accessFlags := 18, slot := 0, constantValue := 0 }, { name := "lines", type := (.array .long), accessFlags := 18, slot := 1, constantValue := 0 }, { name := "columns", type := (.array .long), accessFlags := 18, slot := 2, constantValue := 0 }]
  methods := #[k10m0, k10m1, k10m2, k10m3]
  instanceTypes := #[(.array (.object "java/lang/String")), (.array .long), (.array .long)]
  staticTypes := #[.int, .int]
  resolved := Array.replicate 53 none
  statics := none }

def pool11 : Array CpInfo := pool [(2, .class_ 4), (1, u "java/lang/Object"), (0, u "<init>"), (0, u "()V"), (9, u "equals"), (6, u "(Ljava/lang/Object;Ljava/lang/Object;)Z"), (18, .class_ 44), (1, u "java/util/Objects")] 139

def k11m0 : Method := { name := "<init>", desc := "()V", sig := { parameters := [], returnType := none }, accessFlags := 2, code := none }
def k11c1 : Code := { maxStack := 2, maxLocals := 2, code := jdk_31_method_2_code, exceptionTable := #[], attributes := #[] }
def k11m1 : Method := { name := "equals", desc := "(Ljava/lang/Object;Ljava/lang/Object;)Z", sig := { parameters := [(.object "java/lang/Object"), (.object "java/lang/Object")], returnType := some .boolean }, accessFlags := 9, code := some k11c1 }
/-- java/util/Objects -/
def k11 : Class := { plain "java/util/Objects" (some 0) with
  accessFlags := 49
  interfaces := #[]
  cf := some (fileOf pool11 42 #[] #[{ accessFlags := 2, nameIndex := 5, descriptorIndex := 6, attributes := #[] }, { accessFlags := 9, nameIndex := 16, descriptorIndex := 23, attributes := #[] }] 49 2 #[] #[])
  fields := #[]
  methods := #[k11m0, k11m1]
  instanceTypes := #[]
  staticTypes := #[]
  resolved := Array.replicate 184 none
  statics := none }

def pool12 : Array CpInfo := pool [(6, .class_ 8), (1, u "java/lang/Object"), (0, u "<init>"), (0, u "()V"), (1, .class_ 14), (1, u "java/lang/StringUTF16"), (31, u "$assertionsDisabled"), (0, u "Z"), (13, u "HI_BYTE_SHIFT"), (0, u "I"), (2, u "LO_BYTE_SHIFT"), (49, .methodref 12 116), (0, .nameAndType 117 118), (0, u "compress"), (0, u "([CI[BII)I"), (3, u "([CII)[B"), (138, u "coderFromArrayLen"), (0, u "([BI)B"), (106, .class_ 371), (1, u "java/lang/StringUTF16$LinesSpliterator"), (58, u "MAX_LENGTH"), (196, .class_ 628), (0, u "java/lang/StringUTF16$CodePointsSpliterator"), (0, .class_ 630), (0, u "java/lang/StringUTF16$CharsSpliterator")] 4

def k12m0 : Method := { name := "<init>", desc := "()V", sig := { parameters := [], returnType := none }, accessFlags := 0, code := none }
def k12c1 : Code := { maxStack := 2, maxLocals := 2, code := jdk_52_method_15_code, exceptionTable := #[], attributes := #[] }
def k12m1 : Method := { name := "coderFromArrayLen", desc := "([BI)B", sig := { parameters := [(.array .byte), .int], returnType := some .byte }, accessFlags := 8, code := some k12c1 }
def k12c2 : Code := { maxStack := 5, maxLocals := 6, code := jdk_52_method_16_code, exceptionTable := #[], attributes := #[] }
def k12m2 : Method := { name := "compress", desc := "([CII)[B", sig := { parameters := [(.array .char), .int, .int], returnType := some (.array .byte) }, accessFlags := 9, code := some k12c2 }
def k12c3 : Code := { maxStack := 3, maxLocals := 7, code := jdk_52_method_21_code, exceptionTable := #[], attributes := #[] }
def k12m3 : Method := { name := "compress", desc := "([CI[BII)I", sig := { parameters := [(.array .char), .int, (.array .byte), .int, .int], returnType := some .int }, accessFlags := 9, code := some k12c3 }
/-- java/lang/StringUTF16 -/
def k12 : Class := { plain "java/lang/StringUTF16" (some 0) with
  accessFlags := 48
  interfaces := #[]
  cf := some (fileOf pool12 12 #[.nestMembers #[627, 629, 369]] #[{ accessFlags := 0, nameIndex := 9, descriptorIndex := 10, attributes := #[] }, { accessFlags := 8, nameIndex := 261, descriptorIndex := 262, attributes := #[] }, { accessFlags := 9, nameIndex := 117, descriptorIndex := 122, attributes := #[] }, { accessFlags := 9, nameIndex := 117, descriptorIndex := 118, attributes := #[] }] 48 6 #[] #[{ accessFlags := 26, nameIndex := 61, descriptorIndex := 62, attributes := #[] }, { accessFlags := 26, nameIndex := 65, descriptorIndex := 62, attributes := #[] }, { accessFlags := 24, nameIndex := 430, descriptorIndex := 62, attributes := #[] }, { accessFlags := 4120, nameIndex := 46, descriptorIndex := 47, attributes := #[] }])
  fields := #[{ name := "HI_BYTE_SHIFT", type := .int, accessFlags := 26, slot := 0, constantValue := 0 }, { name := "LO_BYTE_SHIFT", type := .int, accessFlags := 26, slot := 1, constantValue := 0 }, { name := "MAX_LENGTH", type := .int, accessFlags := 24, slot := 2, constantValue := 0 }, { name := "$assertionsDisabled", type := .boolean, accessFlags := 4120, slot := 3, constantValue := 0 }]
  methods := #[k12m0, k12m1, k12m2, k12m3]
  instanceTypes := #[]
  staticTypes := #[.int, .int, .int, .boolean]
  resolved := Array.replicate 635 none
  statics := none }

def pool13 : Array CpInfo := pool [(4, .class_ 6), (1, u "java/lang/Object"), (0, u "<init>"), (0, u "()V"), (5, .class_ 16), (1, u "java/lang/StringLatin1"), (73, u "canEncode"), (14, u "(C)Z"), (15, u "$assertionsDisabled"), (0, u "Z"), (98, .class_ 223), (1, u "java/lang/StringLatin1$LinesSpliterator"), (156, u "toBytes"), (1, u "(C)[B"), (7, .class_ 391), (0, u "java/lang/StringLatin1$CharsSpliterator")] 3

def k13m0 : Method := { name := "<init>", desc := "()V", sig := { parameters := [], returnType := none }, accessFlags := 0, code := none }
def k13c1 : Code := { maxStack := 2, maxLocals := 1, code := jdk_43_method_3_code, exceptionTable := #[], attributes := #[] }
def k13m1 : Method := { name := "canEncode", desc := "(C)Z", sig := { parameters := [.char], returnType := some .boolean }, accessFlags := 9, code := some k13c1 }
def k13c2 : Code := { maxStack := 4, maxLocals := 1, code := jdk_43_method_46_code, exceptionTable := #[], attributes := #[] }
def k13m2 : Method := { name := "toBytes", desc := "(C)[B", sig := { parameters := [.char], returnType := some (.array .byte) }, accessFlags := 9, code := some k13c2 }
/-- java/lang/StringLatin1 -/
def k13 : Class := { plain "java/lang/StringLatin1" (some 0) with
  accessFlags := 48
  interfaces := #[]
  cf := some (fileOf pool13 14 #[.nestMembers #[390, 221]] #[{ accessFlags := 0, nameIndex := 7, descriptorIndex := 8, attributes := #[] }, { accessFlags := 9, nameIndex := 90, descriptorIndex := 105, attributes := #[] }, { accessFlags := 9, nameIndex := 380, descriptorIndex := 382, attributes := #[] }] 48 4 #[] #[{ accessFlags := 4120, nameIndex := 121, descriptorIndex := 122, attributes := #[] }])
  fields := #[{ name := "$assertionsDisabled", type := .boolean, accessFlags := 4120, slot := 0, constantValue := 0 }]
  methods := #[k13m0, k13m1, k13m2]
  instanceTypes := #[]
  staticTypes := #[.boolean]
  resolved := Array.replicate 395 none
  statics := none }

def pool14 : Array CpInfo := pool [(2, .class_ 4), (1, u "java/lang/Object"), (0, u "<init>"), (0, u "()V"), (17, .class_ 26), (1, u "jdk/internal/util/Preconditions"), (28, .class_ 56), (0, u "jdk/internal/util/Preconditions$4"), (57, .class_ 115), (0, u "jdk/internal/util/Preconditions$1"), (7, u "SIOOBE_FORMATTER"), (0, u "Ljava/util/function/BiFunction;"), (0, .class_ 126), (0, u "jdk/internal/util/Preconditions$2"), (3, u "AIOOBE_FORMATTER"), (0, .class_ 132), (0, u "jdk/internal/util/Preconditions$3"), (3, u "IOOBE_FORMATTER")] 57

def k14m0 : Method := { name := "<init>", desc := "()V", sig := { parameters := [], returnType := none }, accessFlags := 1, code := none }
/-- jdk/internal/util/Preconditions -/
def k14 : Class := { plain "jdk/internal/util/Preconditions" (some 0) with
  accessFlags := 33
  interfaces := #[]
  cf := some (fileOf pool14 24 #[.nestMembers #[55, 131, 125, 114]] #[{ accessFlags := 1, nameIndex := 5, descriptorIndex := 6, attributes := #[] }] 33 2 #[] #[{ accessFlags := 25, nameIndex := 123, descriptorIndex := 124, attributes := #[] }, { accessFlags := 25, nameIndex := 130, descriptorIndex := 124, attributes := #[] }, { accessFlags := 25, nameIndex := 136, descriptorIndex := 124, attributes := #[] }])
  fields := #[{ name := "SIOOBE_FORMATTER", type := (.object "java/util/function/BiFunction"), accessFlags := 25, slot := 0, constantValue := 0 }, { name := "AIOOBE_FORMATTER", type := (.object "java/util/function/BiFunction"), accessFlags := 25, slot := 1, constantValue := 0 }, { name := "IOOBE_FORMATTER", type := (.object "java/util/function/BiFunction"), accessFlags := 25, slot := 2, constantValue := 0 }]
  methods := #[k14m0]
  instanceTypes := #[]
  staticTypes := #[(.object "java/util/function/BiFunction"), (.object "java/util/function/BiFunction"), (.object "java/util/function/BiFunction")]
  resolved := Array.replicate 194 none
  statics := some 1 }

def pool15 : Array CpInfo := pool [(9, u "<init>"), (6, .class_ 18), (1, u "java/lang/Object"), (0, u "()V"), (1, .class_ 23), (1, u "jdk/internal/util/ArraysSupport"), (0, u "LOG2_ARRAY_LONG_INDEX_SCALE"), (0, u "I"), (2, u "U"), (0, u "Ljdk/internal/misc/Unsafe;"), (8, u "BIG_ENDIAN"), (0, u "Z"), (8, u "LOG2_BYTE_BIT_SIZE"), (4, u "LOG2_ARRAY_INT_INDEX_SCALE"), (54, u "JLA"), (0, u "Ljdk/internal/access/JavaLangAccess;"), (11, u "LOG2_ARRAY_BOOLEAN_INDEX_SCALE"), (9, u "LOG2_ARRAY_BYTE_INDEX_SCALE"), (5, u "LOG2_ARRAY_CHAR_INDEX_SCALE"), (5, u "LOG2_ARRAY_SHORT_INDEX_SCALE"), (18, u "LOG2_ARRAY_FLOAT_INDEX_SCALE"), (24, u "LOG2_ARRAY_DOUBLE_INDEX_SCALE"), (89, u "T_BOOLEAN"), (2, u "T_CHAR"), (1, u "T_FLOAT"), (1, u "T_DOUBLE"), (1, u "T_BYTE"), (1, u "T_SHORT"), (1, u "T_INT"), (1, u "T_LONG"), (1, u "SOFT_MAX_ARRAY_LENGTH")] 83

def k15m0 : Method := { name := "<init>", desc := "()V", sig := { parameters := [], returnType := none }, accessFlags := 2, code := none }
/-- jdk/internal/util/ArraysSupport -/
def k15 : Class := { plain "jdk/internal/util/ArraysSupport" (some 0) with
  accessFlags := 33
  interfaces := #[]
  cf := some (fileOf pool15 21 #[] #[{ accessFlags := 2, nameIndex := 9, descriptorIndex := 19, attributes := #[] }] 33 16 #[] #[{ accessFlags := 24, nameIndex := 28, descriptorIndex := 29, attributes := #[] }, { accessFlags := 26, nameIndex := 38, descriptorIndex := 39, attributes := #[] }, { accessFlags := 25, nameIndex := 121, descriptorIndex := 25, attributes := #[] }, { accessFlags := 25, nameIndex := 131, descriptorIndex := 25, attributes := #[] }, { accessFlags := 25, nameIndex := 137, descriptorIndex := 25, attributes := #[] }, { accessFlags := 25, nameIndex := 143, descriptorIndex := 25, attributes := #[] }, { accessFlags := 25, nameIndex := 53, descriptorIndex := 25, attributes := #[] }, { accessFlags := 25, nameIndex := 24, descriptorIndex := 25, attributes := #[] }, { accessFlags := 25, nameIndex := 162, descriptorIndex := 25, attributes := #[] }, { accessFlags := 25, nameIndex := 187, descriptorIndex := 25, attributes := #[] }, { accessFlags := 26, nameIndex := 48, descriptorIndex := 25, attributes := #[] }, { accessFlags := 25, nameIndex := 277, descriptorIndex := 25, attributes := #[] }, { accessFlags := 25, nameIndex := 280, descriptorIndex := 25, attributes := #[] }, { accessFlags := 25, nameIndex := 282, descriptorIndex := 25, attributes := #[] }, { accessFlags := 25, nameIndex := 284, descriptorIndex := 25, attributes := #[] }, { accessFlags := 25, nameIndex := 286, descriptorIndex := 25, attributes := #[] }, { accessFlags := 25, nameIndex := 288, descriptorIndex := 25, attributes := #[] }, { accessFlags := 25, nameIndex := 290, descriptorIndex := 25, attributes := #[] }, { accessFlags := 25, nameIndex := 292, descriptorIndex := 25, attributes := #[] }, { accessFlags := 26, nameIndex := 108, descriptorIndex := 109, attributes := #[] }, { accessFlags := 25, nameIndex := 294, descriptorIndex := 25, attributes := #[] }])
  fields := #[{ name := "U", type := (.object "jdk/internal/misc/Unsafe"), accessFlags := 24, slot := 0, constantValue := 0 }, { name := "BIG_ENDIAN", type := .boolean, accessFlags := 26, slot := 1, constantValue := 0 }, { name := "LOG2_ARRAY_BOOLEAN_INDEX_SCALE", type := .int, accessFlags := 25, slot := 2, constantValue := 0 }, { name := "LOG2_ARRAY_BYTE_INDEX_SCALE", type := .int, accessFlags := 25, slot := 3, constantValue := 0 }, { name := "LOG2_ARRAY_CHAR_INDEX_SCALE", type := .int, accessFlags := 25, slot := 4, constantValue := 0 }, { name := "LOG2_ARRAY_SHORT_INDEX_SCALE", type := .int, accessFlags := 25, slot := 5, constantValue := 0 }, { name := "LOG2_ARRAY_INT_INDEX_SCALE", type := .int, accessFlags := 25, slot := 6, constantValue := 0 }, { name := "LOG2_ARRAY_LONG_INDEX_SCALE", type := .int, accessFlags := 25, slot := 7, constantValue := 0 }, { name := "LOG2_ARRAY_FLOAT_INDEX_SCALE", type := .int, accessFlags := 25, slot := 8, constantValue := 0 }, { name := "LOG2_ARRAY_DOUBLE_INDEX_SCALE", type := .int, accessFlags := 25, slot := 9, constantValue := 0 }, { name := "LOG2_BYTE_BIT_SIZE", type := .int, accessFlags := 26, slot := 10, constantValue := 0 }, { name := "T_BOOLEAN", type := .int, accessFlags := 25, slot := 11, constantValue := 0 }, { name := "T_CHAR", type := .int, accessFlags := 25, slot := 12, constantValue := 0 }, { name := "T_FLOAT", type := .int, accessFlags := 25, slot := 13, constantValue := 0 }, { name := "T_DOUBLE", type := .int, accessFlags := 25, slot := 14, constantValue := 0 }, { name := "T_BYTE", type := .int, accessFlags := 25, slot := 15, constantValue := 0 }, { name := "T_SHORT", type := .int, accessFlags := 25, slot := 16, constantValue := 0 }, { name := "T_INT", type := .int, accessFlags := 25, slot := 17, constantValue := 0 }, { name := "T_LONG", type := .int, accessFlags := 25, slot := 18, constantValue := 0 }, { name := "JLA", type := (.object "jdk/internal/access/JavaLangAccess"), accessFlags := 26, slot := 19, constantValue := 0 }, { name := "SOFT_MAX_ARRAY_LENGTH", type := .int, accessFlags := 25, slot := 20, constantValue := 0 }]
  methods := #[k15m0]
  instanceTypes := #[]
  staticTypes := #[(.object "jdk/internal/misc/Unsafe"), .boolean, .int, .int, .int, .int, .int, .int, .int, .int, .int, .int, .int, .int, .int, .int, .int, .int, .int, (.object "jdk/internal/access/JavaLangAccess"), .int]
  resolved := Array.replicate 378 none
  statics := none }

def pool16 : Array CpInfo := pool [(1, u "java/lang/Cloneable"), (0, .class_ 1), (0, u "java/lang/Object"), (0, .class_ 3)] 3

/-- java/lang/Cloneable -/
def k16 : Class := { plain "java/lang/Cloneable" (some 0) with
  accessFlags := 1537
  interfaces := #[]
  cf := some (fileOf pool16 2 #[] #[] 1537 4 #[] #[])
  fields := #[]
  methods := #[]
  instanceTypes := #[]
  staticTypes := #[]
  resolved := Array.replicate 8 none
  statics := none }

/-- the primitive byte -/
def k17 : Class := { plain "byte" none with kind := .primitive 'B', accessFlags := 0x411 }
/-- [B -/
def k18 : Class := { plain "[B" (some 0) with kind := .array 17 .byte, interfaces := #[16, 2], accessFlags := 1041 }

/-- the primitive char -/
def k19 : Class := { plain "char" none with kind := .primitive 'C', accessFlags := 0x411 }
/-- [C -/
def k20 : Class := { plain "[C" (some 0) with kind := .array 19 .char, interfaces := #[16, 2], accessFlags := 1041 }

/-- the primitive int -/
def k21 : Class := { plain "int" none with kind := .primitive 'I', accessFlags := 0x411 }
/-- [I -/
def k22 : Class := { plain "[I" (some 0) with kind := .array 21 .int, interfaces := #[16, 2], accessFlags := 1041 }

/-- the primitive long -/
def k23 : Class := { plain "long" none with kind := .primitive 'J', accessFlags := 0x411 }
/-- [J -/
def k24 : Class := { plain "[J" (some 0) with kind := .array 23 .long, interfaces := #[16, 2], accessFlags := 1041 }

/-- [Ljava/lang/String; -/
def k25 : Class := { plain "[Ljava/lang/String;" (some 0) with kind := .array 7 (.object "java/lang/String"), interfaces := #[16, 2], accessFlags := 1041 }

def heap : Heap := #[{ cls := 7, slots := #[.long 0, .int 1, .null, .int 0, .null, .int 0, .int 0], vm := .statics 7 },
  { cls := 14, slots := #[.null, .null, .null], vm := .statics 14 }]
def classes : Array Class := #[k0, k1, k2, k3, k4, k5, k6, k7, k8, k9, k10, k11, k12, k13, k14, k15, k16, k17, k18, k19, k20, k21, k22, k23, k24, k25]
def interned : List (Array UInt16 × Addr) := []
def slotsUsed : Nat := 10
def theMethod : MethodId := ⟨1, 2⟩
def args0 : Array Value := #[.int 5, .int 14, .int 3, .long 2, .long 9, .int 14]
def aboutOver (below : List Frame) : State where
  vm := { classes := classes, interned := interned.toArray }
  heap := heap
  slotsUsed := slotsUsed
  threads := #[{ frames := .invoking theMethod args0 :: below }]
def below0 : List Frame := [.native { method := ⟨0, 0⟩, args := #[] }]
def about1 : State := aboutOver below0
def p0 : Program := .bare "" "" ""
def e0 : Env := launch0.env 0 0 0
theorem w_frames : about1.frames = Frame.invoking theMethod args0 :: below0 := rfl
set_option maxRecDepth 65536 in
theorem w_args : argsFit about1.vm theMethod args0 = true := by decide +kernel
set_option maxRecDepth 65536 in
theorem w_heap : heapFits about1 = true := by decide +kernel
set_option maxRecDepth 65536 in
theorem w_runnable : about1.curStatus? = some .runnable := by decide +kernel
set_option maxRecDepth 65536 in
theorem w_alone : about1.alone = true := by decide +kernel
set_option maxRecDepth 65536 in
theorem w_named : about1.methodNamed? x = some theMethod := by decide +kernel
set_option maxRecDepth 65536 in
theorem w_hears : about1.hears theMethod below0 = true := by decide +kernel
set_option maxRecDepth 65536 in
theorem w_ripe : about1.ripe theMethod args0 below0 = true := by decide +kernel
theorem w_running : about1.status = .running := rfl
set_option maxRecDepth 65536 in
theorem w_room : about1.hasRoom e0.platform room_1 = true :=
  launch0.hasRoom_least _ room_1 (by decide +kernel) (by decide +kernel) (by decide +kernel) (by decide +kernel) (by decide +kernel) (by decide +kernel)
theorem allAtoms_all (ts : List Jvm.Cond) (a : Array Jvm.Value) (st : Jvm.State) : (allAtoms ts).before a st = ts.all (fun c => c.before a st) := by
  induction ts with
  | nil => rfl
  | cons c t ih =>
    show (Jvm.Cond.and c (allAtoms t)).before a st = _
    rw [Jvm.Cond.before_and, ih, List.all_cons]
def words1 : List Jvm.Cond := Jvm.Cond.code x code maxLocals ret :: tables_1
/-- a 'code' word, met by the world's own term for the bytes: nothing is compared byte by byte -/
theorem code_word {y : MethodName} {bytes : ByteArray} {mx : Nat} {rt : Option FieldType} {a : Array Value} {s : State} {m : MethodId} {meth : Method} {c : Code} (h1 : s.methodNamed? y = some m) (h2 : s.vm.method? m = some meth) (h3 : meth.code = some c) (h4 : c.code = bytes)
    (h5 : (c.maxLocals == mx && c.exceptionTable.isEmpty && decide (c.maxStack ≤ mostOperands) && decide (meth.sig.returnType = rt) && !meth.locks && decide (parseMethodDescriptor y.desc = some meth.sig)) = true) : (Jvm.Cond.code y bytes mx rt).before a s = true := by
  simp only [Bool.and_eq_true, beq_iff_eq, Bool.not_eq_true', decide_eq_true_eq] at h5
  obtain ⟨⟨⟨⟨⟨g1, g2⟩, g3⟩, g4⟩, g5⟩, g6⟩ := h5
  simp [Cond.before, Cond.holds, Cond.value, h1, h2, h3, h4, g1, g2, g3, g4, g5, g6]
def isCode : Jvm.Cond → Bool
  | .code _ _ _ _ => true
  | _ => false
theorem all_split {L : List Jvm.Cond} {P : Jvm.Cond → Bool} (h1 : L.all (fun c => isCode c || P c) = true) (h2 : ∀ c ∈ L.filter isCode, P c = true) : L.all P = true := by
  refine List.all_eq_true.mpr fun c hc => ?_
  have h := List.all_eq_true.mp h1 c hc
  rcases Bool.eq_false_or_eq_true (isCode c) with hi | hi
  · exact h2 c (List.mem_filter.mpr ⟨hc, hi⟩)
  · simpa [hi] using h
set_option maxRecDepth 65536 in
theorem w_c0 : (Jvm.Cond.code x code maxLocals ret).before args0 about1 = true := code_word (m := ⟨1, 2⟩) (meth := k1m2) (c := k1c2) (by decide +kernel) rfl rfl rfl (by decide +kernel)
set_option maxRecDepth 65536 in
theorem w_c1 : (Jvm.Cond.code ({ cls := "java/lang/Math", name := "max", desc := "(JJ)J" } : Jvm.MethodName) jdk_29_method_66_code (4 : Nat) (Option.some Jvm.ClassFile.FieldType.long)).before args0 about1 = true := code_word (m := ⟨8, 1⟩) (meth := k8m1) (c := k8c1) (by decide +kernel) rfl rfl rfl (by decide +kernel)
set_option maxRecDepth 65536 in
theorem w_c2 : (Jvm.Cond.code ({ cls := "com/example/satzung/satzung/diagnostics/Location", name := "<init>", desc := "(Ljava/lang/String;JJ)V" } : Jvm.MethodName) prog_39_method_2_code (6 : Nat) (Option.none : Option Jvm.ClassFile.FieldType)).before args0 about1 = true := code_word (m := ⟨9, 0⟩) (meth := k9m0) (c := k9c0) (by decide +kernel) rfl rfl rfl (by decide +kernel)
set_option maxRecDepth 65536 in
theorem w_c3 : (Jvm.Cond.code ({ cls := "java/lang/Object", name := "<init>", desc := "()V" } : Jvm.MethodName) object_method_1_code (1 : Nat) (Option.none : Option Jvm.ClassFile.FieldType)).before args0 about1 = true := code_word (m := ⟨0, 0⟩) (meth := k0m0) (c := k0c0) (by decide +kernel) rfl rfl rfl (by decide +kernel)
set_option maxRecDepth 65536 in
theorem w_c4 : (Jvm.Cond.code ({ cls := "com/example/satzung/satzung/validate/PlacePage", name := "<init>", desc := "()V" } : Jvm.MethodName) prog_117_method_1_code (1 : Nat) (Option.none : Option Jvm.ClassFile.FieldType)).before args0 about1 = true := code_word (m := ⟨10, 0⟩) (meth := k10m0) (c := k10c0) (by decide +kernel) rfl rfl rfl (by decide +kernel)
set_option maxRecDepth 65536 in
theorem w_c5 : (Jvm.Cond.code ({ cls := "com/example/satzung/satzung/validate/PlacePage", name := "set", desc := "(ILcom/example/satzung/satzung/diagnostics/Location;)V" } : Jvm.MethodName) prog_117_method_2_code (3 : Nat) (Option.none : Option Jvm.ClassFile.FieldType)).before args0 about1 = true := code_word (m := ⟨10, 1⟩) (meth := k10m1) (c := k10c1) (by decide +kernel) rfl rfl rfl (by decide +kernel)
set_option maxRecDepth 65536 in
theorem w_c6 : (Jvm.Cond.code ({ cls := "com/example/satzung/satzung/diagnostics/Location", name := "entity", desc := "()Ljava/lang/String;" } : Jvm.MethodName) prog_39_method_3_code (1 : Nat) (Option.some (Jvm.ClassFile.FieldType.object "java/lang/String"))).before args0 about1 = true := code_word (m := ⟨9, 1⟩) (meth := k9m1) (c := k9c1) (by decide +kernel) rfl rfl rfl (by decide +kernel)
set_option maxRecDepth 65536 in
theorem w_c7 : (Jvm.Cond.code ({ cls := "com/example/satzung/satzung/diagnostics/Location", name := "line", desc := "()J" } : Jvm.MethodName) prog_39_method_5_code (1 : Nat) (Option.some Jvm.ClassFile.FieldType.long)).before args0 about1 = true := code_word (m := ⟨9, 2⟩) (meth := k9m2) (c := k9c2) (by decide +kernel) rfl rfl rfl (by decide +kernel)
set_option maxRecDepth 65536 in
theorem w_c8 : (Jvm.Cond.code ({ cls := "com/example/satzung/satzung/diagnostics/Location", name := "column", desc := "()J" } : Jvm.MethodName) prog_39_method_6_code (1 : Nat) (Option.some Jvm.ClassFile.FieldType.long)).before args0 about1 = true := code_word (m := ⟨9, 3⟩) (meth := k9m3) (c := k9c3) (by decide +kernel) rfl rfl rfl (by decide +kernel)
set_option maxRecDepth 65536 in
theorem w_c9 : (Jvm.Cond.code ({ cls := "com/example/satzung/satzung/validate/PlacePage", name := "set", desc := "(ILcom/example/satzung/satzung/validate/PlacePage;I)V" } : Jvm.MethodName) prog_117_method_3_code (4 : Nat) (Option.none : Option Jvm.ClassFile.FieldType)).before args0 about1 = true := code_word (m := ⟨10, 2⟩) (meth := k10m2) (c := k10c2) (by decide +kernel) rfl rfl rfl (by decide +kernel)
set_option maxRecDepth 65536 in
theorem w_c10 : (Jvm.Cond.code ({ cls := "com/example/satzung/satzung/validate/PlacePage", name := "get", desc := "(I)Lcom/example/satzung/satzung/diagnostics/Location;" } : Jvm.MethodName) prog_117_method_4_code (2 : Nat) (Option.some (Jvm.ClassFile.FieldType.object "com/example/satzung/satzung/diagnostics/Location"))).before args0 about1 = true := code_word (m := ⟨10, 3⟩) (meth := k10m3) (c := k10c3) (by decide +kernel) rfl rfl rfl (by decide +kernel)
set_option maxRecDepth 65536 in
theorem w_c11 : (Jvm.Cond.code ({ cls := "com/example/satzung/satzung/diagnostics/Location", name := "equals", desc := "(Ljava/lang/Object;)Z" } : Jvm.MethodName) prog_39_method_7_code (3 : Nat) (Option.some Jvm.ClassFile.FieldType.boolean)).before args0 about1 = true := code_word (m := ⟨9, 4⟩) (meth := k9m4) (c := k9c4) (by decide +kernel) rfl rfl rfl (by decide +kernel)
set_option maxRecDepth 65536 in
theorem w_c12 : (Jvm.Cond.code ({ cls := "java/util/Objects", name := "equals", desc := "(Ljava/lang/Object;Ljava/lang/Object;)Z" } : Jvm.MethodName) jdk_31_method_2_code (2 : Nat) (Option.some Jvm.ClassFile.FieldType.boolean)).before args0 about1 = true := code_word (m := ⟨11, 1⟩) (meth := k11m1) (c := k11c1) (by decide +kernel) rfl rfl rfl (by decide +kernel)
set_option maxRecDepth 65536 in
theorem w_c13 : (Jvm.Cond.code ({ cls := "com/example/satzung/satzung/validate/PlacePageSetPinLaw", name := "entityOf", desc := "(I)Ljava/lang/String;" } : Jvm.MethodName) method_2_code (4 : Nat) (Option.some (Jvm.ClassFile.FieldType.object "java/lang/String"))).before args0 about1 = true := code_word (m := ⟨1, 1⟩) (meth := k1m1) (c := k1c1) (by decide +kernel) rfl rfl rfl (by decide +kernel)
set_option maxRecDepth 65536 in
theorem w_c14 : (Jvm.Cond.code ({ cls := "java/lang/Math", name := "min", desc := "(II)I" } : Jvm.MethodName) jdk_29_method_69_code (2 : Nat) (Option.some Jvm.ClassFile.FieldType.int)).before args0 about1 = true := code_word (m := ⟨8, 2⟩) (meth := k8m2) (c := k8c2) (by decide +kernel) rfl rfl rfl (by decide +kernel)
set_option maxRecDepth 65536 in
theorem w_c15 : (Jvm.Cond.code ({ cls := "java/lang/String", name := "<init>", desc := "([C)V" } : Jvm.MethodName) jdk_42_method_3_code (2 : Nat) (Option.none : Option Jvm.ClassFile.FieldType)).before args0 about1 = true := code_word (m := ⟨7, 1⟩) (meth := k7m1) (c := k7c1) (by decide +kernel) rfl rfl rfl (by decide +kernel)
set_option maxRecDepth 65536 in
theorem w_c16 : (Jvm.Cond.code ({ cls := "java/lang/String", name := "<init>", desc := "([CIILjava/lang/Void;)V" } : Jvm.MethodName) jdk_42_method_149_code (6 : Nat) (Option.none : Option Jvm.ClassFile.FieldType)).before args0 about1 = true := code_word (m := ⟨7, 3⟩) (meth := k7m3) (c := k7c3) (by decide +kernel) rfl rfl rfl (by decide +kernel)
set_option maxRecDepth 65536 in
theorem w_c17 : (Jvm.Cond.code ({ cls := "java/lang/StringUTF16", name := "compress", desc := "([CII)[B" } : Jvm.MethodName) jdk_52_method_16_code (6 : Nat) (Option.some (Jvm.ClassFile.FieldType.array Jvm.ClassFile.FieldType.byte))).before args0 about1 = true := code_word (m := ⟨12, 2⟩) (meth := k12m2) (c := k12c2) (by decide +kernel) rfl rfl rfl (by decide +kernel)
set_option maxRecDepth 65536 in
theorem w_c18 : (Jvm.Cond.code ({ cls := "java/lang/StringUTF16", name := "compress", desc := "([CI[BII)I" } : Jvm.MethodName) jdk_52_method_21_code (7 : Nat) (Option.some Jvm.ClassFile.FieldType.int)).before args0 about1 = true := code_word (m := ⟨12, 3⟩) (meth := k12m3) (c := k12c3) (by decide +kernel) rfl rfl rfl (by decide +kernel)
set_option maxRecDepth 65536 in
theorem w_c19 : (Jvm.Cond.code ({ cls := "java/lang/StringUTF16", name := "coderFromArrayLen", desc := "([BI)B" } : Jvm.MethodName) jdk_52_method_15_code (2 : Nat) (Option.some Jvm.ClassFile.FieldType.byte)).before args0 about1 = true := code_word (m := ⟨12, 1⟩) (meth := k12m1) (c := k12c1) (by decide +kernel) rfl rfl rfl (by decide +kernel)
set_option maxRecDepth 65536 in
theorem w_c20 : (Jvm.Cond.code ({ cls := "java/lang/String", name := "valueOf", desc := "(C)Ljava/lang/String;" } : Jvm.MethodName) jdk_42_method_139_code (1 : Nat) (Option.some (Jvm.ClassFile.FieldType.object "java/lang/String"))).before args0 about1 = true := code_word (m := ⟨7, 2⟩) (meth := k7m2) (c := k7c2) (by decide +kernel) rfl rfl rfl (by decide +kernel)
set_option maxRecDepth 65536 in
theorem w_c21 : (Jvm.Cond.code ({ cls := "java/lang/StringLatin1", name := "canEncode", desc := "(C)Z" } : Jvm.MethodName) jdk_43_method_3_code (1 : Nat) (Option.some Jvm.ClassFile.FieldType.boolean)).before args0 about1 = true := code_word (m := ⟨13, 1⟩) (meth := k13m1) (c := k13c1) (by decide +kernel) rfl rfl rfl (by decide +kernel)
set_option maxRecDepth 65536 in
theorem w_c22 : (Jvm.Cond.code ({ cls := "java/lang/StringLatin1", name := "toBytes", desc := "(C)[B" } : Jvm.MethodName) jdk_43_method_46_code (1 : Nat) (Option.some (Jvm.ClassFile.FieldType.array Jvm.ClassFile.FieldType.byte))).before args0 about1 = true := code_word (m := ⟨13, 2⟩) (meth := k13m2) (c := k13c2) (by decide +kernel) rfl rfl rfl (by decide +kernel)
set_option maxRecDepth 65536 in
theorem w_c23 : (Jvm.Cond.code ({ cls := "java/lang/String", name := "<init>", desc := "([BB)V" } : Jvm.MethodName) jdk_42_method_151_code (3 : Nat) (Option.none : Option Jvm.ClassFile.FieldType)).before args0 about1 = true := code_word (m := ⟨7, 4⟩) (meth := k7m4) (c := k7c4) (by decide +kernel) rfl rfl rfl (by decide +kernel)
def codes1 : List Jvm.Cond := [Jvm.Cond.code x code maxLocals ret, Jvm.Cond.code ({ cls := "java/lang/Math", name := "max", desc := "(JJ)J" } : Jvm.MethodName) jdk_29_method_66_code (4 : Nat) (Option.some Jvm.ClassFile.FieldType.long), Jvm.Cond.code ({ cls := "com/example/satzung/satzung/diagnostics/Location", name := "<init>", desc := "(Ljava/lang/String;JJ)V" } : Jvm.MethodName) prog_39_method_2_code (6 : Nat) (Option.none : Option Jvm.ClassFile.FieldType), Jvm.Cond.code ({ cls := "java/lang/Object", name := "<init>", desc := "()V" } : Jvm.MethodName) object_method_1_code (1 : Nat) (Option.none : Option Jvm.ClassFile.FieldType), Jvm.Cond.code ({ cls := "com/example/satzung/satzung/validate/PlacePage", name := "<init>", desc := "()V" } : Jvm.MethodName) prog_117_method_1_code (1 : Nat) (Option.none : Option Jvm.ClassFile.FieldType), Jvm.Cond.code ({ cls := "com/example/satzung/satzung/validate/PlacePage", name := "set", desc := "(ILcom/example/satzung/satzung/diagnostics/Location;)V" } : Jvm.MethodName) prog_117_method_2_code (3 : Nat) (Option.none : Option Jvm.ClassFile.FieldType), Jvm.Cond.code ({ cls := "com/example/satzung/satzung/diagnostics/Location", name := "entity", desc := "()Ljava/lang/String;" } : Jvm.MethodName) prog_39_method_3_code (1 : Nat) (Option.some (Jvm.ClassFile.FieldType.object "java/lang/String")), Jvm.Cond.code ({ cls := "com/example/satzung/satzung/diagnostics/Location", name := "line", desc := "()J" } : Jvm.MethodName) prog_39_method_5_code (1 : Nat) (Option.some Jvm.ClassFile.FieldType.long), Jvm.Cond.code ({ cls := "com/example/satzung/satzung/diagnostics/Location", name := "column", desc := "()J" } : Jvm.MethodName) prog_39_method_6_code (1 : Nat) (Option.some Jvm.ClassFile.FieldType.long), Jvm.Cond.code ({ cls := "com/example/satzung/satzung/validate/PlacePage", name := "set", desc := "(ILcom/example/satzung/satzung/validate/PlacePage;I)V" } : Jvm.MethodName) prog_117_method_3_code (4 : Nat) (Option.none : Option Jvm.ClassFile.FieldType), Jvm.Cond.code ({ cls := "com/example/satzung/satzung/validate/PlacePage", name := "get", desc := "(I)Lcom/example/satzung/satzung/diagnostics/Location;" } : Jvm.MethodName) prog_117_method_4_code (2 : Nat) (Option.some (Jvm.ClassFile.FieldType.object "com/example/satzung/satzung/diagnostics/Location")), Jvm.Cond.code ({ cls := "com/example/satzung/satzung/diagnostics/Location", name := "equals", desc := "(Ljava/lang/Object;)Z" } : Jvm.MethodName) prog_39_method_7_code (3 : Nat) (Option.some Jvm.ClassFile.FieldType.boolean), Jvm.Cond.code ({ cls := "java/util/Objects", name := "equals", desc := "(Ljava/lang/Object;Ljava/lang/Object;)Z" } : Jvm.MethodName) jdk_31_method_2_code (2 : Nat) (Option.some Jvm.ClassFile.FieldType.boolean), Jvm.Cond.code ({ cls := "com/example/satzung/satzung/validate/PlacePageSetPinLaw", name := "entityOf", desc := "(I)Ljava/lang/String;" } : Jvm.MethodName) method_2_code (4 : Nat) (Option.some (Jvm.ClassFile.FieldType.object "java/lang/String")), Jvm.Cond.code ({ cls := "java/lang/Math", name := "min", desc := "(II)I" } : Jvm.MethodName) jdk_29_method_69_code (2 : Nat) (Option.some Jvm.ClassFile.FieldType.int), Jvm.Cond.code ({ cls := "java/lang/String", name := "<init>", desc := "([C)V" } : Jvm.MethodName) jdk_42_method_3_code (2 : Nat) (Option.none : Option Jvm.ClassFile.FieldType), Jvm.Cond.code ({ cls := "java/lang/String", name := "<init>", desc := "([CIILjava/lang/Void;)V" } : Jvm.MethodName) jdk_42_method_149_code (6 : Nat) (Option.none : Option Jvm.ClassFile.FieldType), Jvm.Cond.code ({ cls := "java/lang/StringUTF16", name := "compress", desc := "([CII)[B" } : Jvm.MethodName) jdk_52_method_16_code (6 : Nat) (Option.some (Jvm.ClassFile.FieldType.array Jvm.ClassFile.FieldType.byte)), Jvm.Cond.code ({ cls := "java/lang/StringUTF16", name := "compress", desc := "([CI[BII)I" } : Jvm.MethodName) jdk_52_method_21_code (7 : Nat) (Option.some Jvm.ClassFile.FieldType.int), Jvm.Cond.code ({ cls := "java/lang/StringUTF16", name := "coderFromArrayLen", desc := "([BI)B" } : Jvm.MethodName) jdk_52_method_15_code (2 : Nat) (Option.some Jvm.ClassFile.FieldType.byte), Jvm.Cond.code ({ cls := "java/lang/String", name := "valueOf", desc := "(C)Ljava/lang/String;" } : Jvm.MethodName) jdk_42_method_139_code (1 : Nat) (Option.some (Jvm.ClassFile.FieldType.object "java/lang/String")), Jvm.Cond.code ({ cls := "java/lang/StringLatin1", name := "canEncode", desc := "(C)Z" } : Jvm.MethodName) jdk_43_method_3_code (1 : Nat) (Option.some Jvm.ClassFile.FieldType.boolean), Jvm.Cond.code ({ cls := "java/lang/StringLatin1", name := "toBytes", desc := "(C)[B" } : Jvm.MethodName) jdk_43_method_46_code (1 : Nat) (Option.some (Jvm.ClassFile.FieldType.array Jvm.ClassFile.FieldType.byte)), Jvm.Cond.code ({ cls := "java/lang/String", name := "<init>", desc := "([BB)V" } : Jvm.MethodName) jdk_42_method_151_code (3 : Nat) (Option.none : Option Jvm.ClassFile.FieldType)]
set_option maxRecDepth 65536 in
theorem codes_eq : words1.filter isCode = codes1 := rfl
theorem w_codes : ∀ c ∈ words1.filter isCode, c.before args0 about1 = true := by
  rw [codes_eq]
  intro c hc
  simp only [codes1, List.mem_cons, List.not_mem_nil, or_false] at hc
  rcases hc with rfl | rfl | rfl | rfl | rfl | rfl | rfl | rfl | rfl | rfl | rfl | rfl | rfl | rfl | rfl | rfl | rfl | rfl | rfl | rfl | rfl | rfl | rfl | rfl
  · exact w_c0
  · exact w_c1
  · exact w_c2
  · exact w_c3
  · exact w_c4
  · exact w_c5
  · exact w_c6
  · exact w_c7
  · exact w_c8
  · exact w_c9
  · exact w_c10
  · exact w_c11
  · exact w_c12
  · exact w_c13
  · exact w_c14
  · exact w_c15
  · exact w_c16
  · exact w_c17
  · exact w_c18
  · exact w_c19
  · exact w_c20
  · exact w_c21
  · exact w_c22
  · exact w_c23
set_option maxRecDepth 65536 in
theorem w_t1 : (words1.take 24).all (fun c => isCode c || c.before args0 about1) = true := by decide +kernel
set_option maxRecDepth 65536 in
theorem w_t2 : ((words1.drop 24).take 24).all (fun c => isCode c || c.before args0 about1) = true := by decide +kernel
set_option maxRecDepth 65536 in
theorem w_t3 : (((words1.drop 24).drop 24).take 24).all (fun c => isCode c || c.before args0 about1) = true := by decide +kernel
set_option maxRecDepth 65536 in
theorem w_t4 : ((((words1.drop 24).drop 24).drop 24).take 24).all (fun c => isCode c || c.before args0 about1) = true := by decide +kernel
set_option maxRecDepth 65536 in
theorem w_t5 : (((((words1.drop 24).drop 24).drop 24).drop 24).take 24).all (fun c => isCode c || c.before args0 about1) = true := by decide +kernel
set_option maxRecDepth 65536 in
theorem w_t6 : (((((words1.drop 24).drop 24).drop 24).drop 24).drop 24).all (fun c => isCode c || c.before args0 about1) = true := by decide +kernel
theorem w_tables : (allAtoms (Jvm.Cond.code x code maxLocals ret :: tables_1)).before args0 about1 = true := by
  rw [allAtoms_all]
  show words1.all (fun c => c.before args0 about1) = true
  refine all_split ?_ w_codes
  rw [← List.take_append_drop 24 words1, List.all_append, w_t1, ← List.take_append_drop 24 (words1.drop 24), List.all_append, w_t2, ← List.take_append_drop 24 ((words1.drop 24).drop 24), List.all_append, w_t3, ← List.take_append_drop 24 (((words1.drop 24).drop 24).drop 24), List.all_append, w_t4, ← List.take_append_drop 24 ((((words1.drop 24).drop 24).drop 24).drop 24), List.all_append, w_t5, w_t6]
  rfl
set_option maxRecDepth 65536 in
theorem w_rest : rest_1_c.before args0 about1 = true := by decide +kernel
set_option maxRecDepth 65536 in
theorem w_case : (Jvm.Cond.and given_1 narrow_1).before args0 about1 = true := by decide +kernel
set_option maxRecDepth 65536 in
theorem w_consts : constsHeld consts_1 about1 := Jvm.Lit.constsHeldB_iff.mp (by decide +kernel)
theorem w_applies : (headSpec (Jvm.Cond.code x code maxLocals ret :: tables_1) room_1).applies x e0.platform about1 = true :=
  (Spec.applies_iff w_frames).mpr ⟨w_running, w_runnable, w_alone, w_named, w_hears, w_ripe, w_room, w_tables⟩
theorem atStart : AtStart classFile x code maxLocals ret World_1 tables_1 room_1 Calls_1 rest_1 Pre_1 launch0 p0 e0 about1 theMethod args0 below0 :=
  ⟨lists_1, trivial, launch0.admits_env _ _ _, launch0.least_env, fairChoices_fair.cas, fairChoices_fair.clock, w_frames, w_args, w_heap, w_applies, ⟨w_consts, trivial⟩, w_rest, w_case⟩
end start1
theorem witness_1 : WitnessClaimed_1 := ⟨start1.p0, start1.e0, start1.about1, start1.theMethod, start1.args0, start1.below0, start1.atStart⟩
end Jvm.Pilot.@@N@@
