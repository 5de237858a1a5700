import JvmDerived
import JvmDerived.Pilot.@@N@@Statement
import JvmDerived.Pilot.@@N@@Code
set_option linter.unusedVariables false
set_option linter.unusedSimpArgs false
@@BLOCK:LamKit.lean.txt@@
namespace Jvm.Pilot.@@N@@
open Jvm Jvm.ClassFile Sem Op Lib Jvm.Free Jvm.Stand Jvm.LawKit Jvm.RoadKit Bundle Jvm.Pilot.@@N@@.Jvm.D
/-! 0. the run from a state on, said once: it ends, and how -/
def Go (p : Program) (e : Env) (below : List Frame) (s : State) (K N : Nat) (Q : Option Value → Heap → List Loc → Prop) (st : State) : Prop :=
  ∃ s₂ o, Steps p.tables e below st s₂ ∧ s₂.status = .running ∧ Ended s₂ below o ∧ ∃ v L, o = .returned v ∧ Q v s₂.heap L ∧ FrameEnd s o s₂ L K N
/-- what is known of the walk all along -/
def Ctx (p : Program) (s : State) (m : MethodId) (meth : Method) (c : Code) (Z : State) (bytes : ByteArray) (maxl : Nat) (own : String) (ret : Option FieldType) : Prop :=
  p.tables.exec = Jvm.exec ∧ Z.Warmed39 s.vm ∧ c.code = bytes ∧ c.maxLocals = maxl ∧ s.vm.findClass own = some m.cls ∧ meth.sig.returnType = ret ∧ meth.locks = false
/-- a value comes back, the heap is as it was -/
def QV (w : Value) (h0 : Heap) (n0 : Nat) (v : Option Value) (h : Heap) (L : List Loc) : Prop := v = some w ∧ Fr n0 L ∧ h = h0
section Own
variable {p : Program} {l : Launch} {e : Env} {R : Room} {s : State} {m : MethodId} {args : Array Value} {below : List Frame} {meth : Method} {c : Code} {T : State} {locs : List Loc} {cells slots K N : Nat} {Q : Option Value → Heap → List Loc → Prop} {st st' : State}
theorem Go.pre (h : ∀ t, Steps p.tables e below st' t → Steps p.tables e below st t) (k : Go p e below s K N Q st') : Go p e below s K N Q st := by
  obtain ⟨s₂, o, h1, h2⟩ := k; exact ⟨s₂, o, h _ h1, h2⟩
theorem Go.trans (h : Steps p.tables e below st st') (k : Go p e below s K N Q st') : Go p e below s K N Q st := by
  obtain ⟨s₂, o, h1, h2⟩ := k; exact ⟨s₂, o, h.trans h1, h2⟩
theorem Go.mono {Q' : Option Value → Heap → List Loc → Prop} (k : Go p e below s K N Q st) (h : ∀ v h L, Q v h L → Q' v h L) : Go p e below s K N Q' st := by
  obtain ⟨s₂, o, h1, h2, h3, v, L, h4, h5, h6⟩ := k; exact ⟨s₂, o, h1, h2, h3, v, L, h4, h _ _ _ h5, h6⟩
theorem Go.retN (X : Stand p l e R s m args below meth c T locs cells slots) (hx : p.tables.exec = Jvm.exec) (hlk : meth.locks = false) {pc : Nat} {Ls : Array Slot} {z z' : Int32} {t : FieldType} {rest : List Value} (hret : meth.sig.returnType = some t) (ht : t = .boolean ∨ t = .byte ∨ t = .char ∨ t = .short)
    (hd : decode c.code pc = .ok (.ireturn, 1)) (hz : nar t z = z') (hk : cells ≤ K) (hn : slots ≤ N) (hQ : Q (some (.int z')) T.heap locs) : Go p e below s K N Q (T.setTop (mkF m pc Ls (.int z :: rest))) := by
  subst hz
  obtain ⟨fs, hr, hrun, hended, hW, hsame⟩ := X.leave (v := some (.int (nar t z))) (fun h => by rw [hret] at h; cases h) hlk
  exact ⟨_, _, Jvm.RoadKit.retN X hx hret ht hd hr, hrun, hended, _, _, rfl, hQ, ⟨_, rfl⟩, hW, hsame.mono hk hn⟩
theorem Go.retV (X : Stand p l e R s m args below meth c T locs cells slots) (hx : p.tables.exec = Jvm.exec) (hlk : meth.locks = false) {pc : Nat} {Ls : Array Slot} {w : Value} {t : FieldType} {i : Instr} {rest : List Value} (hret : meth.sig.returnType = some t) (hnr : narrow t w = w)
    (hi : (i = .ireturn ∧ (t = .int ∨ t = .boolean ∨ t = .byte ∨ t = .char ∨ t = .short) ∧ ∃ z, w = .int z) ∨ (i = .lreturn ∧ t = .long ∧ ∃ z, w = .long z) ∨ (i = .dreturn ∧ t = .double ∧ ∃ z, w = .double z) ∨ (i = .freturn ∧ t = .float ∧ ∃ z, w = .float z) ∨ (i = .areturn ∧ t.isReference = true ∧ w.isRef = true))
    (hd : decode c.code pc = .ok (i, 1)) (hk : cells ≤ K) (hn : slots ≤ N) (hQ : Q (some w) T.heap locs) : Go p e below s K N Q (T.setTop (mkF m pc Ls (w :: rest))) := by
  obtain ⟨fs, hr, hrun, hended, hW, hsame⟩ := X.leave (v := some w) (fun h => by rw [hret] at h; cases h) hlk
  exact ⟨_, _, retOut X hx hret hnr hi hd hr, hrun, hended, _, _, rfl, hQ, ⟨_, rfl⟩, hW, hsame.mono hk hn⟩
theorem Go.ret0 (X : Stand p l e R s m args below meth c T locs cells slots) (hx : p.tables.exec = Jvm.exec) (hlk : meth.locks = false) {pc : Nat} {Ls : Array Slot} (hret : meth.sig.returnType = none)
    (hd : decode c.code pc = .ok (.return_, 1)) (hk : cells ≤ K) (hn : slots ≤ N) (hQ : Q none T.heap locs) : Go p e below s K N Q (T.setTop (mkF m pc Ls [])) := by
  obtain ⟨fs, hr, hrun, hended, hW, hsame⟩ := X.leave (v := none) (fun _ => rfl) hlk
  exact ⟨_, _, X.returnOut hx hret hd hr, hrun, hended, _, _, rfl, hQ, ⟨_, rfl⟩, hW, hsame.mono hk hn⟩
end Own

/-! more of the kit's kind -/
/-- every field keeps what it held, but for the places in ps -/
def KF (Z : State) (h0 h : Heap) (ps : List (Addr × Nat)) : Prop := ∀ (b : Addr) (O n d : String) (w : Value), Fld Z h0 b O n d w → (∀ p ∈ ps, b ≠ p.1 ∨ Jvm.RoadKit.slotOf Z O n d ≠ p.2) → Fld Z h b O n d w
theorem KF.refl (Z : State) (h0 : Heap) (ps : List (Addr × Nat)) : KF Z h0 h0 ps := fun _ _ _ _ _ F _ => F
theorem KF.ext {Z : State} {h0 h h' : Heap} {ps : List (Addr × Nat)} (K : KF Z h0 h ps) (E : Ext h h') : KF Z h0 h' ps := fun b O n d w F q => (K b O n d w F q).ext E
theorem KF.wr {Z : State} {h0 h h' : Heap} {ps : List (Addr × Nat)} {a : Addr} {sl : Nat} {v : Value} (K : KF Z h0 h ps) (W : Wr h h' a sl v) (q : (a, sl) ∈ ps ∨ h0.size ≤ a) : KF Z h0 h' ps := fun b O n d w F r => by
  refine (K b O n d w F r).other W ?_
  rcases q with q | q
  · exact r _ q
  · exact Or.inl (Nat.ne_of_lt (Nat.lt_of_lt_of_le F.lt q))
theorem KF.trans {Z : State} {h0 h h' : Heap} {ps ps' : List (Addr × Nat)} (K : KF Z h0 h ps) (K' : KF Z h h' ps') (q : ∀ p ∈ ps', p ∈ ps ∨ h0.size ≤ p.1) : KF Z h0 h' ps := fun b O n d w F r => by
  refine K' b O n d w (K b O n d w F r) fun p hp => ?_
  rcases q p hp with q | q
  · exact r _ q
  · exact Or.inl (Nat.ne_of_lt (Nat.lt_of_lt_of_le F.lt q))
theorem pall0 {P : Addr × Nat → Prop} : ∀ x ∈ ([] : List (Addr × Nat)), P x := fun _ q => nomatch q
theorem pallS {P : Addr × Nat → Prop} {y : Addr × Nat} {L : List (Addr × Nat)} (q : P y) (r : ∀ x ∈ L, P x) : ∀ x ∈ y :: L, P x := fun x z => (List.mem_cons.mp z).elim (fun u => u ▸ q) (r x)
theorem padS {p : Program} {l : Launch} {e : Env} {R : Room} {s : State} {m : MethodId} {args : Array Value} {below : List Frame} {meth : Method} {c : Code} {T : State} {locs : List Loc} {k n k' n' : Nat} (X : Stand p l e R s m args below meth c T locs k n) (h1 : k ≤ k') (h2 : n ≤ n') : Stand p l e R s m args below meth c T locs k' n' :=
  ⟨X.admits, X.cas, X.clock, X.frames, X.room, X.hears, X.method, X.code, X.here, X.tail, X.warmed, X.limits, X.bytes, X.same.mono h1 h2⟩
theorem and11 (x : Int32) : nar .boolean (x &&& 1) = x &&& 1 := by
  show x &&& 1 &&& 1 = x &&& 1
  rw [Int32.and_assoc]; rfl
theorem fits_and1 (x : Int32) : fits .boolean (.int (x &&& 1)) = true := fits_nar_bool x
theorem narV {C : String} {v : Value} (h : v.isRef = true) : narrow (.object C) v = v := by rcases ref_cases h with rfl | ⟨a, rfl⟩ <;> rfl
theorem fitV {C : String} {v : Value} (h : v.isRef = true) : fits (.object C) v = true := by rcases ref_cases h with rfl | ⟨a, rfl⟩ <;> rfl

/-! the lambda's site -/
def own_sh : Jvm.Lambda.Shape := (Jvm.Lambda.Shape.mk "java/lang/Runnable" "run" (Jvm.ClassFile.MethodDescriptor.mk ([] : List Jvm.ClassFile.FieldType) (Option.none : Option Jvm.ClassFile.FieldType)) ([] : List Jvm.ClassFile.FieldType) (6 : Nat) "com/example/pulsekeep/pulsekeep/core/Subscription" "lambda$new$0" (Jvm.ClassFile.MethodDescriptor.mk ([] : List Jvm.ClassFile.FieldType) (Option.none : Option Jvm.ClassFile.FieldType)) false (Jvm.ClassFile.MethodDescriptor.mk ([] : List Jvm.ClassFile.FieldType) (Option.none : Option Jvm.ClassFile.FieldType)))
def own_ln : MethodName := ({ cls := "com/example/pulsekeep/pulsekeep/core/Subscription", name := "<init>", desc := "(JLcom/example/pulsekeep/pulsekeep/core/Subscriber;Lcom/example/pulsekeep/pulsekeep/core/SubscriptionSettings;)V" } : Jvm.MethodName)
def EXL (U : State) : Prop := ∃ c one, U.lambdaAt? own_ln 27 23 own_sh = some (c, one)
theorem EXL.site {U : State} {args : Array Value} (h : EXL U) : (Jvm.Cond.lambdaSite own_ln 27 23 own_sh).before args U = true := by
  obtain ⟨c, one, h⟩ := h
  simp [Cond.before, Cond.holds, Cond.value, h]
theorem EXL.of {U : State} {args : Array Value} (h : (Jvm.Cond.lambdaSite own_ln 27 23 own_sh).before args U = true) : EXL U := Cond.lambdaSite_spec h
theorem EXL.rides {s t : State} {L : List Loc} {k n : Nat} (h : EXL s) (hW : s.WarmedH t.vm) (hs : s.sameButNew (t.setVm s.vm) L k n) : EXL t := by
  obtain ⟨c, one, h⟩ := h
  exact ⟨c, one, State.lambdaAt?_rides hW hs h⟩
theorem backOfL {p : Program} {l : Launch} {e : Env} {R : Room} {s : State} {args : Array Value} {below : List Frame} {Z : State} {a0 : Array Value} {h : Heap} {y : MethodName} {bytes : ByteArray} {maxL : Nat} {ret : Option FieldType} {rm : Room} {len W : Nat} {as' : Array Value} {Q : Option Value → Heap → List Loc → Prop}
    (hM : MetFree l y (head1 [Cond.code y bytes maxL ret] rm) (fun a U => a = as' ∧ Z.Warmed39 U.vm ∧ U.heap = h ∧ EXL U) (fun _ _ _ _ _ => True) (fun _ U o U' => ∃ v L, o = .returned v ∧ Q v U'.heap L ∧ FrameEnd U o U' L rm.cells rm.slots))
    (hZ : Z.Warmed39 s.vm) (wc : (Cond.code y bytes maxL ret).before a0 Z = true) (wz : (Cond.initialized y.cls).before a0 Z = true) (hf : rm.frames + 1 ≤ R.frames) (hl : W + (maxL + 11) + rm.locals ≤ R.locals) :
    Back l R p e below s args y len W (fun A a => a = as' ∧ A.U.heap = h ∧ A.cells + rm.cells ≤ R.cells ∧ A.slots + rm.slots ≤ R.slots ∧ EXL A.U)
      (fun A _ v B => ∃ L, Q v B.U.heap L ∧ B.locs = A.locs ++ L ∧ B.cells = A.cells + rm.cells ∧ B.slots = A.slots + rm.slots) := by
  refine Back.of_free (bytes := bytes) (maxL := maxL) (ret := ret) (E := fun _ _ o t L k n => k = rm.cells ∧ n = rm.slots ∧ ∃ v, o = .returned v ∧ Q v t.heap L) hM hf hl ?_ ?_ (fun _ _ _ _ _ _ _ _ _ => trivial) ?_ ?_
  · intro m meth c A a Y hp
    have hU : Z.Warmed39 A.U.vm := wtrans hZ Y.warmed
    refine ⟨?_, mv hU wc, mv hU wz, hp.2.2.1, hp.2.2.2.1⟩
    show (Cond.and _ .tt).before a A.U = true
    rw [Cond.before_and, mv hU wc]; rfl
  · intro m meth c A a g mk Y hp
    exact ⟨hp.1, wtrans hZ Y.warmed, hp.2.1, hp.2.2.2.2⟩
  · rintro _ _ _ _ ⟨v, L, h1, h2, h3⟩
    exact ⟨L, _, _, h3, rfl, rfl, v, h1, h2⟩
  · rintro m meth c A a g mk v t L k n Y hp _ _ ⟨e1, e2, v', e3, e4⟩
    cases e3; subst e1 e2
    exact ⟨L, e4, rfl, rfl, rfl⟩
/-- the model's own selection picks a private method itself (after example/claims/gauge-weight) -/
theorem selects_private {y : MethodName} {s : State} {args : Array Value} {n : Nat} (hins : (Cond.instantiable y.cls n).before args s = true) (hpriv : (Cond.privateMethod y).before args s = true) (hinst : (Cond.instanceMethod y).before args s = true) (hy : y.cls ≠ "java/lang/invoke/MethodHandle" ∧ y.cls ≠ "java/lang/invoke/VarHandle" := by decide) :
    (Cond.selects y.cls y y).before args s = true := by
  obtain ⟨c, k, hc, hk, -, hniab, -, -⟩ := Cond.instantiable_spec hins
  have hni : k.isInterface = false := (Bool.or_eq_false_iff.mp hniab).1
  obtain ⟨mk, methM, hnamed, hmethM, -, -⟩ := Cond.instanceMethod_spec hinst
  have hfound : s.methodFound? y.cls y.name y.desc = some mk := State.methodFound?_of_named hnamed hy
  have hcls : mk.cls = c := Option.some.inj ((findClass_of_methodNamed hnamed).symm.trans hc)
  have hsel : selectMethod {} s.vm c mk = .method mk := selectMethod_private hmethM (Cond.privateMethod_at hpriv mk methM hnamed hmethM)
  simp only [Cond.before, Cond.holds, Cond.value, hc, hfound, hnamed, hsel, hcls, hk]
  simp; exact hni
def own_nc (r : Int32) (cy : Int64) : Int64 := if r = (0 : Int32) then cy + (1 : Int64) else (0 : Int64)
def own_end (life nc : Int64) (zD zC : Addr) : Addr := if nc < life then zD else zC
def own_due (life nc : Int64) (md : Int32) : Int32 := if nc < life then (1 : Int32) else md
/-! Record.<init> (2) -/
theorem d2_0 : decode jdk_30_method_1_code 0 = .ok (.aload_n 0, 1) := by decide +kernel
theorem d2_1 : decode jdk_30_method_1_code 1 = .ok (.invokespecial 1, 3) := by decide +kernel
theorem d2_4 : decode jdk_30_method_1_code 4 = .ok (.return_, 1) := by decide +kernel
theorem pn_2 : plainName "java/lang/Record" = true := by first | (simp [plainName, overriddenIn]; done) | decide +kernel
theorem ef_2 (m : MethodId) (o0 : Addr) : entryFrame m #[(.ref o0)] 1 = (mkF m 0 #[.val (.ref o0)] []) := by first | (simp [entryFrame, mkF, argsToLocals, Value.category]; done) | rfl
def Q2 (Z : State) (o0 : Addr) (h0 : Heap) (n0 : Nat) (v : Option Value) (h : Heap) (L : List Loc) : Prop := v = none ∧ Fr n0 L ∧ h = h0
set_option maxRecDepth 65536 in
set_option maxHeartbeats 40000000 in
theorem rm2 (l : Launch) (Z : State) (a0 : Array Value) (hw : ∀ d ∈ tables_1, d.before a0 Z = true) (ws : List Jvm.Cond) (o0 : Addr) (h0 : Heap) (n0 : Nat) (Z0 : n0 ≤ h0.size) :
    MetFree l (⟨"java/lang/Record", "<init>", "()V"⟩ : MethodName) (head1 (Jvm.Cond.code (⟨"java/lang/Record", "<init>", "()V"⟩ : MethodName) jdk_30_method_1_code 1 none :: ws) ({ frames := 1, cells := 0, slots := 0, locals := 12 } : Room)) (fun a U => a = #[(.ref o0)] ∧ Z.Warmed39 U.vm ∧ U.heap = h0) (fun _ _ _ _ _ => True) (fun _ U o U' => ∃ v L, o = .returned v ∧ Q2 Z o0 h0 n0 v U'.heap L ∧ FrameEnd U o U' L ({ frames := 1, cells := 0, slots := 0, locals := 12 } : Room).cells ({ frames := 1, cells := 0, slots := 0, locals := 12 } : Room).slots) := by
  refine MetFree.of_bodySF (plainFor_of_name pn_2) hisR ?_
  intro p e s m args below meth c s₁ Bd hml0 hP hK
  obtain ⟨rfl, hZ, hh⟩ := hP
  have hx := Bd.exec
  have hby := Bd.bytes
  have hml : c.maxLocals = 1 := hml0
  have hown : s.vm.findClass "java/lang/Record" = some m.cls := findClass_of_methodNamed Bd.named
  have hnm := (name_of_methodNamed Bd.named Bd.method).1
  have hrt := Bd.returns
  have hlk := Bd.notSynchronized
  have X0 : Stand p l e ({ frames := 1, cells := 0, slots := 0, locals := 12 } : Room) s m #[(.ref o0)] below meth c s₁ [] 0 0 := Stand.of_body Bd
  have e0 : s₁.heap = h0 := by rw [← hh, Bd.state]; rfl
  have N0 := Fr.nil n0
  show Go p e below s 0 0 (Q2 Z o0 h0 n0) (s₁.setTop (entryFrame m #[(.ref o0)] 1))
  rw [ef_2 m o0]
  refine Go.pre (st' := s₁.setTop (mkF m 1 #[.val (.ref o0)] [(.ref o0)])) (fun target kt => ?_) ?_
  · show Steps p.tables e below (s₁.setTop (mkF m 0 #[.val (.ref o0)] [])) _
    refine XS.aloadN X0.here hx rfl (hb hby d2_0) rfl rfl ?_
    exact kt
  obtain ⟨T1, X1, e1, st1⟩ := initO X0 hx hZ hown (hw _ (List.mem_of_getElem? (i := 12) rfl)) (hw _ (List.mem_of_getElem? (i := 13) rfl)) (hw _ (List.mem_of_getElem? (i := 14) rfl)) e0 (g := (mkF m 1 #[.val (.ref o0)] [(.ref o0)])) rfl (by rw [hml]; rfl) rfl (hb hby d2_1) (by decide) (W := 0) (by show 2 * 0 + _ ≤ _; exact Nat.le_of_eq rfl) (by decide)
  refine Go.pre st1 ?_
  show Go p e below s _ _ _ (T1.setTop (mkF m 4 #[.val (.ref o0)] []))
  exact Go.ret0 X1 hx hlk hrt (hb hby d2_4) (by decide) (by decide) (by rw [e1]; exact ⟨rfl, N0, rfl⟩)
/-! AbstractCollection.<init> (7) -/
theorem d7_0 : decode jdk_22_method_1_code 0 = .ok (.aload_n 0, 1) := by decide +kernel
theorem d7_1 : decode jdk_22_method_1_code 1 = .ok (.invokespecial 1, 3) := by decide +kernel
theorem d7_4 : decode jdk_22_method_1_code 4 = .ok (.return_, 1) := by decide +kernel
theorem pn_7 : plainName "java/util/AbstractCollection" = true := by first | (simp [plainName, overriddenIn]; done) | decide +kernel
theorem ef_7 (m : MethodId) (o0 : Addr) : entryFrame m #[(.ref o0)] 1 = (mkF m 0 #[.val (.ref o0)] []) := by first | (simp [entryFrame, mkF, argsToLocals, Value.category]; done) | rfl
def Q7 (Z : State) (o0 : Addr) (h0 : Heap) (n0 : Nat) (v : Option Value) (h : Heap) (L : List Loc) : Prop := v = none ∧ Fr n0 L ∧ h = h0
set_option maxRecDepth 65536 in
set_option maxHeartbeats 40000000 in
theorem rm7 (l : Launch) (Z : State) (a0 : Array Value) (hw : ∀ d ∈ tables_1, d.before a0 Z = true) (ws : List Jvm.Cond) (o0 : Addr) (h0 : Heap) (n0 : Nat) (Z0 : n0 ≤ h0.size) :
    MetFree l (⟨"java/util/AbstractCollection", "<init>", "()V"⟩ : MethodName) (head1 (Jvm.Cond.code (⟨"java/util/AbstractCollection", "<init>", "()V"⟩ : MethodName) jdk_22_method_1_code 1 none :: ws) ({ frames := 1, cells := 0, slots := 0, locals := 12 } : Room)) (fun a U => a = #[(.ref o0)] ∧ Z.Warmed39 U.vm ∧ U.heap = h0) (fun _ _ _ _ _ => True) (fun _ U o U' => ∃ v L, o = .returned v ∧ Q7 Z o0 h0 n0 v U'.heap L ∧ FrameEnd U o U' L ({ frames := 1, cells := 0, slots := 0, locals := 12 } : Room).cells ({ frames := 1, cells := 0, slots := 0, locals := 12 } : Room).slots) := by
  refine MetFree.of_bodySF (plainFor_of_name pn_7) hisR ?_
  intro p e s m args below meth c s₁ Bd hml0 hP hK
  obtain ⟨rfl, hZ, hh⟩ := hP
  have hx := Bd.exec
  have hby := Bd.bytes
  have hml : c.maxLocals = 1 := hml0
  have hown : s.vm.findClass "java/util/AbstractCollection" = some m.cls := findClass_of_methodNamed Bd.named
  have hnm := (name_of_methodNamed Bd.named Bd.method).1
  have hrt := Bd.returns
  have hlk := Bd.notSynchronized
  have X0 : Stand p l e ({ frames := 1, cells := 0, slots := 0, locals := 12 } : Room) s m #[(.ref o0)] below meth c s₁ [] 0 0 := Stand.of_body Bd
  have e0 : s₁.heap = h0 := by rw [← hh, Bd.state]; rfl
  have N0 := Fr.nil n0
  show Go p e below s 0 0 (Q7 Z o0 h0 n0) (s₁.setTop (entryFrame m #[(.ref o0)] 1))
  rw [ef_7 m o0]
  refine Go.pre (st' := s₁.setTop (mkF m 1 #[.val (.ref o0)] [(.ref o0)])) (fun target kt => ?_) ?_
  · show Steps p.tables e below (s₁.setTop (mkF m 0 #[.val (.ref o0)] [])) _
    refine XS.aloadN X0.here hx rfl (hb hby d7_0) rfl rfl ?_
    exact kt
  obtain ⟨T1, X1, e1, st1⟩ := initO X0 hx hZ hown (hw _ (List.mem_of_getElem? (i := 55) rfl)) (hw _ (List.mem_of_getElem? (i := 13) rfl)) (hw _ (List.mem_of_getElem? (i := 14) rfl)) e0 (g := (mkF m 1 #[.val (.ref o0)] [(.ref o0)])) rfl (by rw [hml]; rfl) rfl (hb hby d7_1) (by decide) (W := 0) (by show 2 * 0 + _ ≤ _; exact Nat.le_of_eq rfl) (by decide)
  refine Go.pre st1 ?_
  show Go p e below s _ _ _ (T1.setTop (mkF m 4 #[.val (.ref o0)] []))
  exact Go.ret0 X1 hx hlk hrt (hb hby d7_4) (by decide) (by decide) (by rw [e1]; exact ⟨rfl, N0, rfl⟩)
/-! AbstractList.<init> (6) -/
theorem d6_0 : decode jdk_39_method_1_code 0 = .ok (.aload_n 0, 1) := by decide +kernel
theorem d6_1 : decode jdk_39_method_1_code 1 = .ok (.invokespecial 1, 3) := by decide +kernel
theorem d6_4 : decode jdk_39_method_1_code 4 = .ok (.aload_n 0, 1) := by decide +kernel
theorem d6_5 : decode jdk_39_method_1_code 5 = .ok (.iconst 0, 1) := by decide +kernel
theorem d6_6 : decode jdk_39_method_1_code 6 = .ok (.putfield 7, 3) := by decide +kernel
theorem d6_9 : decode jdk_39_method_1_code 9 = .ok (.return_, 1) := by decide +kernel
theorem pn_6 : plainName "java/util/AbstractList" = true := by first | (simp [plainName, overriddenIn]; done) | decide +kernel
theorem pd6_0 : parseMethodDescriptor "()V" = some ⟨[], none⟩ := by decide +kernel
theorem ef_6 (m : MethodId) (o0 : Addr) : entryFrame m #[(.ref o0)] 1 = (mkF m 0 #[.val (.ref o0)] []) := by first | (simp [entryFrame, mkF, argsToLocals, Value.category]; done) | rfl
def Q6 (Z : State) (o0 : Addr) (u2 : Value) (h0 : Heap) (n0 : Nat) (v : Option Value) (h : Heap) (L : List Loc) : Prop := v = none ∧ Fr n0 L ∧ Keep h0 h [o0] ∧ KF Z h0 h [(o0, Jvm.RoadKit.slotOf Z "java/util/AbstractList" "modCount" "I")] ∧ Fld Z h o0 "java/util/AbstractList" "modCount" "I" (.int (0 : Int32))
set_option maxRecDepth 65536 in
set_option maxHeartbeats 40000000 in
theorem rm6 (l : Launch) (Z : State) (a0 : Array Value) (hw : ∀ d ∈ tables_1, d.before a0 Z = true) (ws : List Jvm.Cond) (o0 : Addr) (u2 : Value) (h0 : Heap) (n0 : Nat) (Z0 : n0 ≤ h0.size) (E_o0 : Exa Z h0 o0 "java/util/ArrayList") (F_modCount_o0 : Fld Z h0 o0 "java/util/AbstractList" "modCount" "I" u2) (g_o0 : n0 ≤ o0) :
    MetFree l (⟨"java/util/AbstractList", "<init>", "()V"⟩ : MethodName) (head1 (Jvm.Cond.code (⟨"java/util/AbstractList", "<init>", "()V"⟩ : MethodName) jdk_39_method_1_code 1 none :: ws) ({ frames := 2, cells := 0, slots := 0, locals := 24 } : Room)) (fun a U => a = #[(.ref o0)] ∧ Z.Warmed39 U.vm ∧ U.heap = h0) (fun _ _ _ _ _ => True) (fun _ U o U' => ∃ v L, o = .returned v ∧ Q6 Z o0 u2 h0 n0 v U'.heap L ∧ FrameEnd U o U' L ({ frames := 2, cells := 0, slots := 0, locals := 24 } : Room).cells ({ frames := 2, cells := 0, slots := 0, locals := 24 } : Room).slots) := by
  refine MetFree.of_bodySF (plainFor_of_name pn_6) hisR ?_
  intro p e s m args below meth c s₁ Bd hml0 hP hK
  obtain ⟨rfl, hZ, hh⟩ := hP
  have hx := Bd.exec
  have hby := Bd.bytes
  have hml : c.maxLocals = 1 := hml0
  have hown : s.vm.findClass "java/util/AbstractList" = some m.cls := findClass_of_methodNamed Bd.named
  have hnm := (name_of_methodNamed Bd.named Bd.method).1
  have hrt := Bd.returns
  have hlk := Bd.notSynchronized
  have X0 : Stand p l e ({ frames := 2, cells := 0, slots := 0, locals := 24 } : Room) s m #[(.ref o0)] below meth c s₁ [] 0 0 := Stand.of_body Bd
  have e0 : s₁.heap = h0 := by rw [← hh, Bd.state]; rfl
  have N0 := Fr.nil n0
  have lt_E_o0 : LT.lt (α := Nat) o0 h0.size := E_o0.lt
  have lt_F_modCount_o0 : LT.lt (α := Nat) o0 h0.size := F_modCount_o0.lt
  show Go p e below s 0 0 (Q6 Z o0 u2 h0 n0) (s₁.setTop (entryFrame m #[(.ref o0)] 1))
  rw [ef_6 m o0]
  refine Go.pre (st' := s₁.setTop (mkF m 1 #[.val (.ref o0)] [(.ref o0)])) (fun target kt => ?_) ?_
  · show Steps p.tables e below (s₁.setTop (mkF m 0 #[.val (.ref o0)] [])) _
    refine XS.aloadN X0.here hx rfl (hb hby d6_0) rfl rfl ?_
    exact kt
  obtain ⟨_, _, ⟨T1, L1, k1, n1⟩, -, X1, ⟨Lc1, hQ1, l1, y1, z1⟩, st1⟩ := X0.specialBack hx (y := (⟨"java/util/AbstractCollection", "<init>", "()V"⟩ : MethodName)) rfl hown (mvT hZ (hw _ (List.mem_of_getElem? (i := 49) rfl))) (mvT hZ (hw _ (List.mem_of_getElem? (i := 50) rfl))) (mvT hZ (hw _ (List.mem_of_getElem? (i := 54) rfl))) (by decide) (backOf (W := 0) (rm7 l Z a0 hw [] o0 h0 n0 (by omega) ) hZ (hw _ (List.mem_of_getElem? (i := 54) rfl)) (hw _ (List.mem_of_getElem? (i := 53) rfl)) (by decide) (by decide)) (g := (mkF m 1 #[.val (.ref o0)] [(.ref o0)])) rfl (by rw [hml]; rfl) (Steps.refl _) (a := o0) (argsL := []) (rest := []) (lenOf pd6_0 rfl) rfl (by show 2 * 0 + _ ≤ _; exact Nat.le_of_eq rfl) (hb hby d6_1) (fun vm₁ hvm => ⟨rfl, e0, (by decide : 0 + 0 ≤ _), (by decide : 0 + 0 ≤ _)⟩)
  dsimp only [Pt.U, Pt.locs, Pt.cells, Pt.slots] at X1 l1 y1 z1 st1 hQ1
  subst l1 y1 z1
  obtain ⟨rfl, N1q, e1⟩ := hQ1
  have N1 := Fr.app N0 N1q
  refine Go.trans st1 ?_
  show Go p e below s _ _ _ (T1.setTop (mkF m 4 #[.val (.ref o0)] []))
  refine Go.pre (st' := T1.setTop (mkF m 6 #[.val (.ref o0)] [(.int (0 : Int32)), (.ref o0)])) (fun target kt => ?_) ?_
  · show Steps p.tables e below (T1.setTop (mkF m 4 #[.val (.ref o0)] [])) _
    refine XS.aloadN X1.here hx rfl (hb hby d6_4) rfl rfl ?_
    show Steps p.tables e below (T1.setTop (mkF m 5 #[.val (.ref o0)] [(.ref o0)])) _
    refine XS.iconst X1.here hx rfl (hb hby d6_5) ?_
    exact kt
  obtain ⟨T3, h3, X3, e3, W3, st3⟩ := putF X1 hx hZ hown (host := "") (Or.inl (hw _ (List.mem_of_getElem? (i := 56) rfl))) Via.refl e1 F_modCount_o0 E_o0 (Or.inl (hw _ (List.mem_of_getElem? (i := 57) rfl))) (hw _ (List.mem_of_getElem? (i := 38) rfl)) (ty := .int) (by decide) rfl rfl (g := (mkF m 6 #[.val (.ref o0)] [(.int (0 : Int32)), (.ref o0)])) rfl rfl (hb hby d6_6)
  have sz3 : h0.size ≤ h3.size := (Keep.of_wr W3).1
  have Y4 : Fld Z h3 o0 "java/util/AbstractList" "modCount" "I" (.int (0 : Int32)) := F_modCount_o0.same W3
  have N3 := Fr.snoc X3 N1 (by omega)
  refine Go.pre st3 ?_
  show Go p e below s _ _ _ (T3.setTop (mkF m 9 #[.val (.ref o0)] []))
  exact Go.ret0 X3 hx hlk hrt (hb hby d6_9) (by decide) (by decide) (by rw [e3]; exact ⟨rfl, N3, ((Keep.refl h0 [o0]).wr W3 (Or.inl (List.mem_of_getElem? (i := 0) rfl))), ((KF.refl Z h0 [(o0, Jvm.RoadKit.slotOf Z "java/util/AbstractList" "modCount" "I")]).wr W3 (Or.inl (List.mem_of_getElem? (i := 0) rfl))), Y4⟩)
/-! ArrayList.<init> (5) -/
theorem d5_0 : decode jdk_38_method_2_code 0 = .ok (.aload_n 0, 1) := by decide +kernel
theorem d5_1 : decode jdk_38_method_2_code 1 = .ok (.invokespecial 1, 3) := by decide +kernel
theorem d5_4 : decode jdk_38_method_2_code 4 = .ok (.aload_n 0, 1) := by decide +kernel
theorem d5_5 : decode jdk_38_method_2_code 5 = .ok (.getstatic 39, 3) := by decide +kernel
theorem d5_8 : decode jdk_38_method_2_code 8 = .ok (.putfield 9, 3) := by decide +kernel
theorem d5_11 : decode jdk_38_method_2_code 11 = .ok (.return_, 1) := by decide +kernel
theorem pn_5 : plainName "java/util/ArrayList" = true := by first | (simp [plainName, overriddenIn]; done) | decide +kernel
theorem pd5_0 : parseMethodDescriptor "()V" = some ⟨[], none⟩ := by decide +kernel
theorem ef_5 (m : MethodId) (o0 : Addr) : entryFrame m #[(.ref o0)] 1 = (mkF m 0 #[.val (.ref o0)] []) := by first | (simp [entryFrame, mkF, argsToLocals, Value.category]; done) | rfl
def Q5 (Z : State) (o0 : Addr) (w2 : Int32) (z3 : Addr) (u6 : Value) (h0 : Heap) (n0 : Nat) (v : Option Value) (h : Heap) (L : List Loc) : Prop := v = none ∧ Fr n0 L ∧ Keep h0 h [o0] ∧ KF Z h0 h [(o0, Jvm.RoadKit.slotOf Z "java/util/AbstractList" "modCount" "I"), (o0, Jvm.RoadKit.slotOf Z "java/util/ArrayList" "elementData" "[Ljava/lang/Object;")] ∧ Fld Z h o0 "java/util/AbstractList" "modCount" "I" (.int (0 : Int32)) ∧ Fld Z h o0 "java/util/ArrayList" "elementData" "[Ljava/lang/Object;" (.ref z3)
set_option maxRecDepth 65536 in
set_option maxHeartbeats 40000000 in
theorem rm5 (l : Launch) (Z : State) (a0 : Array Value) (hw : ∀ d ∈ tables_1, d.before a0 Z = true) (ws : List Jvm.Cond) (o0 : Addr) (w2 : Int32) (z3 : Addr) (u6 : Value) (h0 : Heap) (n0 : Nat) (Z0 : n0 ≤ h0.size) (E_o0 : Exa Z h0 o0 "java/util/ArrayList") (F_modCount_o0 : Fld Z h0 o0 "java/util/AbstractList" "modCount" "I" (.int w2)) (g_o0 : n0 ≤ o0) (S_DEFAULTCAPACITY_EMPTY_ELEMENTDATA : Sta Z Z.heap "java/util/ArrayList" "DEFAULTCAPACITY_EMPTY_ELEMENTDATA" "[Ljava/lang/Object;" (.ref z3)) (Ol : Old Z n0 h0) (F_elementData_o0 : Fld Z h0 o0 "java/util/ArrayList" "elementData" "[Ljava/lang/Object;" u6) :
    MetFree l (⟨"java/util/ArrayList", "<init>", "()V"⟩ : MethodName) (head1 (Jvm.Cond.code (⟨"java/util/ArrayList", "<init>", "()V"⟩ : MethodName) jdk_38_method_2_code 1 none :: ws) ({ frames := 3, cells := 0, slots := 0, locals := 36 } : Room)) (fun a U => a = #[(.ref o0)] ∧ Z.Warmed39 U.vm ∧ U.heap = h0) (fun _ _ _ _ _ => True) (fun _ U o U' => ∃ v L, o = .returned v ∧ Q5 Z o0 w2 z3 u6 h0 n0 v U'.heap L ∧ FrameEnd U o U' L ({ frames := 3, cells := 0, slots := 0, locals := 36 } : Room).cells ({ frames := 3, cells := 0, slots := 0, locals := 36 } : Room).slots) := by
  refine MetFree.of_bodySF (plainFor_of_name pn_5) hisR ?_
  intro p e s m args below meth c s₁ Bd hml0 hP hK
  obtain ⟨rfl, hZ, hh⟩ := hP
  have hx := Bd.exec
  have hby := Bd.bytes
  have hml : c.maxLocals = 1 := hml0
  have hown : s.vm.findClass "java/util/ArrayList" = some m.cls := findClass_of_methodNamed Bd.named
  have hnm := (name_of_methodNamed Bd.named Bd.method).1
  have hrt := Bd.returns
  have hlk := Bd.notSynchronized
  have X0 : Stand p l e ({ frames := 3, cells := 0, slots := 0, locals := 36 } : Room) s m #[(.ref o0)] below meth c s₁ [] 0 0 := Stand.of_body Bd
  have e0 : s₁.heap = h0 := by rw [← hh, Bd.state]; rfl
  have N0 := Fr.nil n0
  have lt_E_o0 : LT.lt (α := Nat) o0 h0.size := E_o0.lt
  have lt_F_modCount_o0 : LT.lt (α := Nat) o0 h0.size := F_modCount_o0.lt
  have lt_F_elementData_o0 : LT.lt (α := Nat) o0 h0.size := F_elementData_o0.lt
  show Go p e below s 0 0 (Q5 Z o0 w2 z3 u6 h0 n0) (s₁.setTop (entryFrame m #[(.ref o0)] 1))
  rw [ef_5 m o0]
  refine Go.pre (st' := s₁.setTop (mkF m 1 #[.val (.ref o0)] [(.ref o0)])) (fun target kt => ?_) ?_
  · show Steps p.tables e below (s₁.setTop (mkF m 0 #[.val (.ref o0)] [])) _
    refine XS.aloadN X0.here hx rfl (hb hby d5_0) rfl rfl ?_
    exact kt
  obtain ⟨_, _, ⟨T1, L1, k1, n1⟩, -, X1, ⟨Lc1, hQ1, l1, y1, z1⟩, st1⟩ := X0.specialBack hx (y := (⟨"java/util/AbstractList", "<init>", "()V"⟩ : MethodName)) rfl hown (mvT hZ (hw _ (List.mem_of_getElem? (i := 43) rfl))) (mvT hZ (hw _ (List.mem_of_getElem? (i := 44) rfl))) (mvT hZ (hw _ (List.mem_of_getElem? (i := 48) rfl))) (by decide) (backOf (W := 0) (rm6 l Z a0 hw [] o0 (.int w2) h0 n0 (by omega) E_o0 F_modCount_o0 (by omega)) hZ (hw _ (List.mem_of_getElem? (i := 48) rfl)) (hw _ (List.mem_of_getElem? (i := 47) rfl)) (by decide) (by decide)) (g := (mkF m 1 #[.val (.ref o0)] [(.ref o0)])) rfl (by rw [hml]; rfl) (Steps.refl _) (a := o0) (argsL := []) (rest := []) (lenOf pd5_0 rfl) rfl (by show 2 * 0 + _ ≤ _; exact Nat.le_of_eq rfl) (hb hby d5_1) (fun vm₁ hvm => ⟨rfl, e0, (by decide : 0 + 0 ≤ _), (by decide : 0 + 0 ≤ _)⟩)
  dsimp only [Pt.U, Pt.locs, Pt.cells, Pt.slots] at X1 l1 y1 z1 st1 hQ1
  subst l1 y1 z1
  obtain ⟨rfl, N1q, K1, KF1, Y1_0⟩ := hQ1
  have sz1 : h0.size ≤ T1.heap.size := K1.1
  have N1 := Fr.app N0 N1q
  refine Go.trans st1 ?_
  show Go p e below s _ _ _ (T1.setTop (mkF m 4 #[.val (.ref o0)] []))
  refine Go.pre (st' := T1.setTop (mkF m 5 #[.val (.ref o0)] [(.ref o0)])) (fun target kt => ?_) ?_
  · show Steps p.tables e below (T1.setTop (mkF m 4 #[.val (.ref o0)] [])) _
    refine XS.aloadN X1.here hx rfl (hb hby d5_4) rfl rfl ?_
    exact kt
  have Y4 : Old Z n0 T1.heap := (Ol.keep K1 (allS (by omega) all0))
  obtain ⟨T5, X5, e5, st5⟩ := getS2 X1 hx hZ hown (host := "") (Or.inl (hw _ (List.mem_of_getElem? (i := 58) rfl))) Via.refl rfl (S_DEFAULTCAPACITY_EMPTY_ELEMENTDATA.ext Y4.2) (g := (mkF m 5 #[.val (.ref o0)] [(.ref o0)])) rfl (hb hby d5_5)
  refine Go.pre st5 ?_
  show Go p e below s _ _ _ (T5.setTop (mkF m 8 #[.val (.ref o0)] [(.ref z3), (.ref o0)]))
  have Y7 : Fld Z T1.heap o0 "java/util/ArrayList" "elementData" "[Ljava/lang/Object;" u6 := (KF1 _ _ _ _ _ F_elementData_o0 (pallS (Or.inr (slot_ne (Or.inl (hw _ (List.mem_of_getElem? (i := 60) rfl))) (Or.inl (hw _ (List.mem_of_getElem? (i := 57) rfl))) (by decide) (t := (.array (.object "java/lang/Object"))) (t' := .int) (by decide) (by decide))) pall0))
  have Y8 : Exa Z T1.heap o0 "java/util/ArrayList" := (E_o0.keep K1)
  obtain ⟨T9, h9, X9, e9, W9, st9⟩ := putF X5 hx hZ hown (host := "") (Or.inl (hw _ (List.mem_of_getElem? (i := 59) rfl))) Via.refl e5 Y7 Y8 (Or.inl (hw _ (List.mem_of_getElem? (i := 60) rfl))) (hw _ (List.mem_of_getElem? (i := 38) rfl)) (ty := (.array (.object "java/lang/Object"))) (by decide) rfl rfl (g := (mkF m 8 #[.val (.ref o0)] [(.ref z3), (.ref o0)])) rfl rfl (hb hby d5_8)
  have sz9 : T1.heap.size ≤ h9.size := (Keep.of_wr W9).1
  have Y10 : Fld Z h9 o0 "java/util/ArrayList" "elementData" "[Ljava/lang/Object;" (.ref z3) := Y7.same W9
  have N9 := Fr.snoc X9 N1 (by omega)
  refine Go.pre st9 ?_
  show Go p e below s _ _ _ (T9.setTop (mkF m 11 #[.val (.ref o0)] []))
  have Y11 : Fld Z h9 o0 "java/util/AbstractList" "modCount" "I" (.int (0 : Int32)) := (Y1_0.other W9 (Or.inr (slot_ne (Or.inl (hw _ (List.mem_of_getElem? (i := 57) rfl))) (Or.inl (hw _ (List.mem_of_getElem? (i := 60) rfl))) (by decide) (t := .int) (t' := (.array (.object "java/lang/Object"))) (by decide) (by decide))))
  exact Go.ret0 X9 hx hlk hrt (hb hby d5_11) (by decide) (by decide) (by rw [e9]; exact ⟨rfl, N9, (((Keep.refl h0 [o0]).trans K1 (allS (Or.inl (List.mem_of_getElem? (i := 0) rfl)) all0)).wr W9 (Or.inl (List.mem_of_getElem? (i := 0) rfl))), (((KF.refl Z h0 [(o0, Jvm.RoadKit.slotOf Z "java/util/AbstractList" "modCount" "I"), (o0, Jvm.RoadKit.slotOf Z "java/util/ArrayList" "elementData" "[Ljava/lang/Object;")]).trans KF1 (pallS (Or.inl (List.mem_of_getElem? (i := 0) rfl)) pall0)).wr W9 (Or.inl (List.mem_of_getElem? (i := 1) rfl))), Y11, Y10⟩)
/-! ArrayDeque.<init> (8) -/
theorem d8_0 : decode jdk_21_method_3_code 0 = .ok (.aload_n 0, 1) := by decide +kernel
theorem d8_1 : decode jdk_21_method_3_code 1 = .ok (.invokespecial 42, 3) := by decide +kernel
theorem d8_4 : decode jdk_21_method_3_code 4 = .ok (.aload_n 0, 1) := by decide +kernel
theorem d8_5 : decode jdk_21_method_3_code 5 = .ok (.bipush 17, 2) := by decide +kernel
theorem d8_7 : decode jdk_21_method_3_code 7 = .ok (.anewarray 47, 3) := by decide +kernel
theorem d8_10 : decode jdk_21_method_3_code 10 = .ok (.putfield 3, 3) := by decide +kernel
theorem d8_13 : decode jdk_21_method_3_code 13 = .ok (.return_, 1) := by decide +kernel
theorem pn_8 : plainName "java/util/ArrayDeque" = true := by first | (simp [plainName, overriddenIn]; done) | decide +kernel
theorem pd8_0 : parseMethodDescriptor "()V" = some ⟨[], none⟩ := by decide +kernel
theorem ef_8 (m : MethodId) (o0 : Addr) : entryFrame m #[(.ref o0)] 1 = (mkF m 0 #[.val (.ref o0)] []) := by first | (simp [entryFrame, mkF, argsToLocals, Value.category]; done) | rfl
def Q8 (Z : State) (o0 : Addr) (u3 : Value) (h0 : Heap) (n0 : Nat) (v : Option Value) (h : Heap) (L : List Loc) : Prop := ∃ b2 : Addr, ∃ k2 : ClassId, v = none ∧ Fr n0 L ∧ Keep h0 h [o0] ∧ KF Z h0 h [(o0, Jvm.RoadKit.slotOf Z "java/util/ArrayDeque" "elements" "[Ljava/lang/Object;")] ∧ LE.le (α := Nat) h0.size b2 ∧ LT.lt (α := Nat) b2 h.size ∧ Fld Z h o0 "java/util/ArrayDeque" "elements" "[Ljava/lang/Object;" (.ref b2) ∧ Arv Z h b2 k2 (.object "java/lang/Object") (17 : Int32) [.null, .null, .null, .null, .null, .null, .null, .null, .null, .null, .null, .null, .null, .null, .null, .null, .null] .null
set_option maxRecDepth 65536 in
set_option maxHeartbeats 40000000 in
theorem rm8 (l : Launch) (Z : State) (a0 : Array Value) (hw : ∀ d ∈ tables_1, d.before a0 Z = true) (ws : List Jvm.Cond) (o0 : Addr) (u3 : Value) (h0 : Heap) (n0 : Nat) (Z0 : n0 ≤ h0.size) (F_elements_o0 : Fld Z h0 o0 "java/util/ArrayDeque" "elements" "[Ljava/lang/Object;" u3) (E_o0 : Exa Z h0 o0 "java/util/ArrayDeque") (g_o0 : n0 ≤ o0) :
    MetFree l (⟨"java/util/ArrayDeque", "<init>", "()V"⟩ : MethodName) (head1 (Jvm.Cond.code (⟨"java/util/ArrayDeque", "<init>", "()V"⟩ : MethodName) jdk_21_method_3_code 1 none :: ws) ({ frames := 2, cells := 1, slots := 17, locals := 24 } : Room)) (fun a U => a = #[(.ref o0)] ∧ Z.Warmed39 U.vm ∧ U.heap = h0) (fun _ _ _ _ _ => True) (fun _ U o U' => ∃ v L, o = .returned v ∧ Q8 Z o0 u3 h0 n0 v U'.heap L ∧ FrameEnd U o U' L ({ frames := 2, cells := 1, slots := 17, locals := 24 } : Room).cells ({ frames := 2, cells := 1, slots := 17, locals := 24 } : Room).slots) := by
  refine MetFree.of_bodySF (plainFor_of_name pn_8) hisR ?_
  intro p e s m args below meth c s₁ Bd hml0 hP hK
  obtain ⟨rfl, hZ, hh⟩ := hP
  have hx := Bd.exec
  have hby := Bd.bytes
  have hml : c.maxLocals = 1 := hml0
  have hown : s.vm.findClass "java/util/ArrayDeque" = some m.cls := findClass_of_methodNamed Bd.named
  have hnm := (name_of_methodNamed Bd.named Bd.method).1
  have hrt := Bd.returns
  have hlk := Bd.notSynchronized
  have X0 : Stand p l e ({ frames := 2, cells := 1, slots := 17, locals := 24 } : Room) s m #[(.ref o0)] below meth c s₁ [] 0 0 := Stand.of_body Bd
  have e0 : s₁.heap = h0 := by rw [← hh, Bd.state]; rfl
  have N0 := Fr.nil n0
  have lt_F_elements_o0 : LT.lt (α := Nat) o0 h0.size := F_elements_o0.lt
  have lt_E_o0 : LT.lt (α := Nat) o0 h0.size := E_o0.lt
  show Go p e below s 1 17 (Q8 Z o0 u3 h0 n0) (s₁.setTop (entryFrame m #[(.ref o0)] 1))
  rw [ef_8 m o0]
  refine Go.pre (st' := s₁.setTop (mkF m 1 #[.val (.ref o0)] [(.ref o0)])) (fun target kt => ?_) ?_
  · show Steps p.tables e below (s₁.setTop (mkF m 0 #[.val (.ref o0)] [])) _
    refine XS.aloadN X0.here hx rfl (hb hby d8_0) rfl rfl ?_
    exact kt
  obtain ⟨_, _, ⟨T1, L1, k1, n1⟩, -, X1, ⟨Lc1, hQ1, l1, y1, z1⟩, st1⟩ := X0.specialBack hx (y := (⟨"java/util/AbstractCollection", "<init>", "()V"⟩ : MethodName)) rfl hown (mvT hZ (hw _ (List.mem_of_getElem? (i := 69) rfl))) (mvT hZ (hw _ (List.mem_of_getElem? (i := 50) rfl))) (mvT hZ (hw _ (List.mem_of_getElem? (i := 54) rfl))) (by decide) (backOf (W := 0) (rm7 l Z a0 hw [] o0 h0 n0 (by omega) ) hZ (hw _ (List.mem_of_getElem? (i := 54) rfl)) (hw _ (List.mem_of_getElem? (i := 53) rfl)) (by decide) (by decide)) (g := (mkF m 1 #[.val (.ref o0)] [(.ref o0)])) rfl (by rw [hml]; rfl) (Steps.refl _) (a := o0) (argsL := []) (rest := []) (lenOf pd8_0 rfl) rfl (by show 2 * 0 + _ ≤ _; exact Nat.le_of_eq rfl) (hb hby d8_1) (fun vm₁ hvm => ⟨rfl, e0, (by decide : 0 + 0 ≤ _), (by decide : 0 + 0 ≤ _)⟩)
  dsimp only [Pt.U, Pt.locs, Pt.cells, Pt.slots] at X1 l1 y1 z1 st1 hQ1
  subst l1 y1 z1
  obtain ⟨rfl, N1q, e1⟩ := hQ1
  have N1 := Fr.app N0 N1q
  refine Go.trans st1 ?_
  show Go p e below s _ _ _ (T1.setTop (mkF m 4 #[.val (.ref o0)] []))
  refine Go.pre (st' := T1.setTop (mkF m 7 #[.val (.ref o0)] [(.int (17 : Int32)), (.ref o0)])) (fun target kt => ?_) ?_
  · show Steps p.tables e below (T1.setTop (mkF m 4 #[.val (.ref o0)] [])) _
    refine XS.aloadN X1.here hx rfl (hb hby d8_4) rfl rfl ?_
    show Steps p.tables e below (T1.setTop (mkF m 5 #[.val (.ref o0)] [(.ref o0)])) _
    refine XS.bipush X1.here hx rfl (hb hby d8_5) ?_
    exact kt
  obtain ⟨T2, h2, k2, X2, e2, E2, A2, O2, st2⟩ := newR X1 hx hZ hown (hw _ (List.mem_of_getElem? (i := 71) rfl)) (hw _ (List.mem_of_getElem? (i := 72) rfl)) e1 (g := (mkF m 7 #[.val (.ref o0)] [(.int (17 : Int32)), (.ref o0)])) rfl (hb hby d8_7) rfl (by decide) (cap := 17) (by decide) (by decide) (by decide) (by decide)
  obtain ⟨b2, g2⟩ : ∃ z, z = h0.size := ⟨_, rfl⟩
  rw [← g2] at A2 st2
  have sz2 : h0.size ≤ h2.size := E2.1
  have V2 : Arv Z h2 b2 k2 (.object "java/lang/Object") (17 : Int32) [.null, .null, .null, .null, .null, .null, .null, .null, .null, .null, .null, .null, .null, .null, .null, .null, .null] .null := (Arv.new A2 (by decide)).pad (pad_rep [] .null 17)
  have lt2 : b2 < h2.size := V2.lt
  refine Go.pre st2 ?_
  show Go p e below s _ _ _ (T2.setTop (mkF m 10 #[.val (.ref o0)] [(.ref b2), (.ref o0)]))
  have Y4 : Fld Z h2 o0 "java/util/ArrayDeque" "elements" "[Ljava/lang/Object;" u3 := (F_elements_o0.ext E2)
  have Y5 : Exa Z h2 o0 "java/util/ArrayDeque" := (E_o0.ext E2)
  obtain ⟨T6, h6, X6, e6, W6, st6⟩ := putF X2 hx hZ hown (host := "") (Or.inl (hw _ (List.mem_of_getElem? (i := 73) rfl))) Via.refl e2 Y4 Y5 (Or.inl (hw _ (List.mem_of_getElem? (i := 74) rfl))) (hw _ (List.mem_of_getElem? (i := 64) rfl)) (ty := (.array (.object "java/lang/Object"))) (by decide) rfl rfl (g := (mkF m 10 #[.val (.ref o0)] [(.ref b2), (.ref o0)])) rfl rfl (hb hby d8_10)
  have sz6 : h2.size ≤ h6.size := (Keep.of_wr W6).1
  have Y7 : Fld Z h6 o0 "java/util/ArrayDeque" "elements" "[Ljava/lang/Object;" (.ref b2) := Y4.same W6
  have N6 := Fr.snoc X6 N1 (by omega)
  refine Go.pre st6 ?_
  show Go p e below s _ _ _ (T6.setTop (mkF m 13 #[.val (.ref o0)] []))
  have Y8 : Arv Z h6 b2 k2 (.object "java/lang/Object") (17 : Int32) [.null, .null, .null, .null, .null, .null, .null, .null, .null, .null, .null, .null, .null, .null, .null, .null, .null] .null := (V2.other W6 (by show @Ne Nat b2 o0; omega))
  exact Go.ret0 X6 hx hlk hrt (hb hby d8_13) (by decide) (by decide) (by rw [e6]; exact ⟨b2, k2, rfl, N6, (((Keep.refl h0 [o0]).ext E2).wr W6 (Or.inl (List.mem_of_getElem? (i := 0) rfl))), (((KF.refl Z h0 [(o0, Jvm.RoadKit.slotOf Z "java/util/ArrayDeque" "elements" "[Ljava/lang/Object;")]).ext E2).wr W6 (Or.inl (List.mem_of_getElem? (i := 0) rfl))), by omega, by omega, Y7, Y8⟩)
/-! Subscriber.<init> (4) -/
theorem d4_0 : decode prog_40_method_1_code 0 = .ok (.aload_n 0, 1) := by decide +kernel
theorem d4_1 : decode prog_40_method_1_code 1 = .ok (.invokespecial 1, 3) := by decide +kernel
theorem d4_4 : decode prog_40_method_1_code 4 = .ok (.aload_n 0, 1) := by decide +kernel
theorem d4_5 : decode prog_40_method_1_code 5 = .ok (.new 7, 3) := by decide +kernel
theorem d4_8 : decode prog_40_method_1_code 8 = .ok (.dup, 1) := by decide +kernel
theorem d4_9 : decode prog_40_method_1_code 9 = .ok (.invokespecial 9, 3) := by decide +kernel
theorem d4_12 : decode prog_40_method_1_code 12 = .ok (.putfield 10, 3) := by decide +kernel
theorem d4_15 : decode prog_40_method_1_code 15 = .ok (.aload_n 0, 1) := by decide +kernel
theorem d4_16 : decode prog_40_method_1_code 16 = .ok (.new 16, 3) := by decide +kernel
theorem d4_19 : decode prog_40_method_1_code 19 = .ok (.dup, 1) := by decide +kernel
theorem d4_20 : decode prog_40_method_1_code 20 = .ok (.invokespecial 18, 3) := by decide +kernel
theorem d4_23 : decode prog_40_method_1_code 23 = .ok (.putfield 19, 3) := by decide +kernel
theorem d4_26 : decode prog_40_method_1_code 26 = .ok (.aload_n 0, 1) := by decide +kernel
theorem d4_27 : decode prog_40_method_1_code 27 = .ok (.new 16, 3) := by decide +kernel
theorem d4_30 : decode prog_40_method_1_code 30 = .ok (.dup, 1) := by decide +kernel
theorem d4_31 : decode prog_40_method_1_code 31 = .ok (.invokespecial 18, 3) := by decide +kernel
theorem d4_34 : decode prog_40_method_1_code 34 = .ok (.putfield 23, 3) := by decide +kernel
theorem d4_37 : decode prog_40_method_1_code 37 = .ok (.aload_n 0, 1) := by decide +kernel
theorem d4_38 : decode prog_40_method_1_code 38 = .ok (.new 16, 3) := by decide +kernel
theorem d4_41 : decode prog_40_method_1_code 41 = .ok (.dup, 1) := by decide +kernel
theorem d4_42 : decode prog_40_method_1_code 42 = .ok (.invokespecial 18, 3) := by decide +kernel
theorem d4_45 : decode prog_40_method_1_code 45 = .ok (.putfield 26, 3) := by decide +kernel
theorem d4_48 : decode prog_40_method_1_code 48 = .ok (.return_, 1) := by decide +kernel
theorem pn_4 : plainName "com/example/pulsekeep/pulsekeep/core/Subscriber" = true := by first | (simp [plainName, overriddenIn]; done) | decide +kernel
theorem pd4_0 : parseMethodDescriptor "()V" = some ⟨[], none⟩ := by decide +kernel
theorem ef_4 (m : MethodId) (o0 : Addr) : entryFrame m #[(.ref o0)] 1 = (mkF m 0 #[.val (.ref o0)] []) := by first | (simp [entryFrame, mkF, argsToLocals, Value.category]; done) | rfl
def Q4 (Z : State) (o0 : Addr) (z4 : Addr) (u6 : Value) (u13 : Value) (u20 : Value) (u27 : Value) (h0 : Heap) (n0 : Nat) (v : Option Value) (h : Heap) (L : List Loc) : Prop := ∃ b2 : Addr, ∃ b11 : Addr, ∃ b12_0 : Addr, ∃ b18 : Addr, ∃ b19_0 : Addr, ∃ b25 : Addr, ∃ b26_0 : Addr, ∃ k12_0 : ClassId, ∃ k19_0 : ClassId, ∃ k26_0 : ClassId, v = none ∧ Fr n0 L ∧ Keep h0 h [o0] ∧ KF Z h0 h [(o0, Jvm.RoadKit.slotOf Z "com/example/pulsekeep/pulsekeep/core/Subscriber" "subscriptions" "Ljava/util/List;"), (o0, Jvm.RoadKit.slotOf Z "com/example/pulsekeep/pulsekeep/core/Subscriber" "requests" "Ljava/util/ArrayDeque;"), (o0, Jvm.RoadKit.slotOf Z "com/example/pulsekeep/pulsekeep/core/Subscriber" "kept" "Ljava/util/ArrayDeque;"), (o0, Jvm.RoadKit.slotOf Z "com/example/pulsekeep/pulsekeep/core/Subscriber" "departures" "Ljava/util/ArrayDeque;")] ∧ LE.le (α := Nat) h0.size b2 ∧ LT.lt (α := Nat) b2 h.size ∧ LE.le (α := Nat) h0.size b11 ∧ LT.lt (α := Nat) b11 h.size ∧ LT.lt (α := Nat) b2 b11 ∧ LE.le (α := Nat) h0.size b12_0 ∧ LT.lt (α := Nat) b12_0 h.size ∧ LT.lt (α := Nat) b11 b12_0 ∧ LE.le (α := Nat) h0.size b18 ∧ LT.lt (α := Nat) b18 h.size ∧ LT.lt (α := Nat) b12_0 b18 ∧ LE.le (α := Nat) h0.size b19_0 ∧ LT.lt (α := Nat) b19_0 h.size ∧ LT.lt (α := Nat) b18 b19_0 ∧ LE.le (α := Nat) h0.size b25 ∧ LT.lt (α := Nat) b25 h.size ∧ LT.lt (α := Nat) b19_0 b25 ∧ LE.le (α := Nat) h0.size b26_0 ∧ LT.lt (α := Nat) b26_0 h.size ∧ LT.lt (α := Nat) b25 b26_0 ∧ Fld Z h o0 "com/example/pulsekeep/pulsekeep/core/Subscriber" "subscriptions" "Ljava/util/List;" (.ref b2) ∧ Fld Z h o0 "com/example/pulsekeep/pulsekeep/core/Subscriber" "requests" "Ljava/util/ArrayDeque;" (.ref b11) ∧ Fld Z h o0 "com/example/pulsekeep/pulsekeep/core/Subscriber" "kept" "Ljava/util/ArrayDeque;" (.ref b18) ∧ Fld Z h o0 "com/example/pulsekeep/pulsekeep/core/Subscriber" "departures" "Ljava/util/ArrayDeque;" (.ref b25) ∧ Exa Z h b2 "java/util/ArrayList" ∧ Fld Z h b2 "java/util/ArrayList" "size" "I" (.int (0 : Int32)) ∧ Fld Z h b2 "java/util/AbstractList" "modCount" "I" (.int (0 : Int32)) ∧ Fld Z h b2 "java/util/ArrayList" "elementData" "[Ljava/lang/Object;" (.ref z4) ∧ Exa Z h b11 "java/util/ArrayDeque" ∧ Fld Z h b11 "java/util/ArrayDeque" "elements" "[Ljava/lang/Object;" (.ref b12_0) ∧ Exa Z h b18 "java/util/ArrayDeque" ∧ Fld Z h b18 "java/util/ArrayDeque" "elements" "[Ljava/lang/Object;" (.ref b19_0) ∧ Exa Z h b25 "java/util/ArrayDeque" ∧ Fld Z h b25 "java/util/ArrayDeque" "elements" "[Ljava/lang/Object;" (.ref b26_0) ∧ Arv Z h b12_0 k12_0 (.object "java/lang/Object") (17 : Int32) [.null, .null, .null, .null, .null, .null, .null, .null, .null, .null, .null, .null, .null, .null, .null, .null, .null] .null ∧ Arv Z h b19_0 k19_0 (.object "java/lang/Object") (17 : Int32) [.null, .null, .null, .null, .null, .null, .null, .null, .null, .null, .null, .null, .null, .null, .null, .null, .null] .null ∧ Arv Z h b26_0 k26_0 (.object "java/lang/Object") (17 : Int32) [.null, .null, .null, .null, .null, .null, .null, .null, .null, .null, .null, .null, .null, .null, .null, .null, .null] .null
set_option maxRecDepth 65536 in
set_option maxHeartbeats 40000000 in
theorem rm4 (l : Launch) (Z : State) (a0 : Array Value) (hw : ∀ d ∈ tables_1, d.before a0 Z = true) (ws : List Jvm.Cond) (o0 : Addr) (z4 : Addr) (u6 : Value) (u13 : Value) (u20 : Value) (u27 : Value) (h0 : Heap) (n0 : Nat) (Z0 : n0 ≤ h0.size) (S_DEFAULTCAPACITY_EMPTY_ELEMENTDATA : Sta Z Z.heap "java/util/ArrayList" "DEFAULTCAPACITY_EMPTY_ELEMENTDATA" "[Ljava/lang/Object;" (.ref z4)) (Ol : Old Z n0 h0) (F_subscriptions_o0 : Fld Z h0 o0 "com/example/pulsekeep/pulsekeep/core/Subscriber" "subscriptions" "Ljava/util/List;" u6) (E_o0 : Exa Z h0 o0 "com/example/pulsekeep/pulsekeep/core/Subscriber") (g_o0 : n0 ≤ o0) (F_requests_o0 : Fld Z h0 o0 "com/example/pulsekeep/pulsekeep/core/Subscriber" "requests" "Ljava/util/ArrayDeque;" u13) (F_kept_o0 : Fld Z h0 o0 "com/example/pulsekeep/pulsekeep/core/Subscriber" "kept" "Ljava/util/ArrayDeque;" u20) (F_departures_o0 : Fld Z h0 o0 "com/example/pulsekeep/pulsekeep/core/Subscriber" "departures" "Ljava/util/ArrayDeque;" u27) :
    MetFree l (⟨"com/example/pulsekeep/pulsekeep/core/Subscriber", "<init>", "()V"⟩ : MethodName) (head1 (Jvm.Cond.code (⟨"com/example/pulsekeep/pulsekeep/core/Subscriber", "<init>", "()V"⟩ : MethodName) prog_40_method_1_code 1 none :: ws) ({ frames := 4, cells := 7, slots := 63, locals := 50 } : Room)) (fun a U => a = #[(.ref o0)] ∧ Z.Warmed39 U.vm ∧ U.heap = h0) (fun _ _ _ _ _ => True) (fun _ U o U' => ∃ v L, o = .returned v ∧ Q4 Z o0 z4 u6 u13 u20 u27 h0 n0 v U'.heap L ∧ FrameEnd U o U' L ({ frames := 4, cells := 7, slots := 63, locals := 50 } : Room).cells ({ frames := 4, cells := 7, slots := 63, locals := 50 } : Room).slots) := by
  refine MetFree.of_bodySF (plainFor_of_name pn_4) hisR ?_
  intro p e s m args below meth c s₁ Bd hml0 hP hK
  obtain ⟨rfl, hZ, hh⟩ := hP
  have hx := Bd.exec
  have hby := Bd.bytes
  have hml : c.maxLocals = 1 := hml0
  have hown : s.vm.findClass "com/example/pulsekeep/pulsekeep/core/Subscriber" = some m.cls := findClass_of_methodNamed Bd.named
  have hnm := (name_of_methodNamed Bd.named Bd.method).1
  have hrt := Bd.returns
  have hlk := Bd.notSynchronized
  have X0 : Stand p l e ({ frames := 4, cells := 7, slots := 63, locals := 50 } : Room) s m #[(.ref o0)] below meth c s₁ [] 0 0 := Stand.of_body Bd
  have e0 : s₁.heap = h0 := by rw [← hh, Bd.state]; rfl
  have N0 := Fr.nil n0
  have lt_F_subscriptions_o0 : LT.lt (α := Nat) o0 h0.size := F_subscriptions_o0.lt
  have lt_E_o0 : LT.lt (α := Nat) o0 h0.size := E_o0.lt
  have lt_F_requests_o0 : LT.lt (α := Nat) o0 h0.size := F_requests_o0.lt
  have lt_F_kept_o0 : LT.lt (α := Nat) o0 h0.size := F_kept_o0.lt
  have lt_F_departures_o0 : LT.lt (α := Nat) o0 h0.size := F_departures_o0.lt
  show Go p e below s 7 63 (Q4 Z o0 z4 u6 u13 u20 u27 h0 n0) (s₁.setTop (entryFrame m #[(.ref o0)] 1))
  rw [ef_4 m o0]
  refine Go.pre (st' := s₁.setTop (mkF m 1 #[.val (.ref o0)] [(.ref o0)])) (fun target kt => ?_) ?_
  · show Steps p.tables e below (s₁.setTop (mkF m 0 #[.val (.ref o0)] [])) _
    refine XS.aloadN X0.here hx rfl (hb hby d4_0) rfl rfl ?_
    exact kt
  obtain ⟨T1, X1, e1, st1⟩ := initO X0 hx hZ hown (hw _ (List.mem_of_getElem? (i := 36) rfl)) (hw _ (List.mem_of_getElem? (i := 13) rfl)) (hw _ (List.mem_of_getElem? (i := 14) rfl)) e0 (g := (mkF m 1 #[.val (.ref o0)] [(.ref o0)])) rfl (by rw [hml]; rfl) rfl (hb hby d4_1) (by decide) (W := 0) (by show 2 * 0 + _ ≤ _; exact Nat.le_of_eq rfl) (by decide)
  refine Go.pre st1 ?_
  show Go p e below s _ _ _ (T1.setTop (mkF m 4 #[.val (.ref o0)] []))
  refine Go.pre (st' := T1.setTop (mkF m 5 #[.val (.ref o0)] [(.ref o0)])) (fun target kt => ?_) ?_
  · show Steps p.tables e below (T1.setTop (mkF m 4 #[.val (.ref o0)] [])) _
    refine XS.aloadN X1.here hx rfl (hb hby d4_4) rfl rfl ?_
    exact kt
  obtain ⟨T2, h2, X2, e2, E2, A2, D2, -, st2⟩ := newO X1 hx hZ hown (hw _ (List.mem_of_getElem? (i := 37) rfl)) (hw _ (List.mem_of_getElem? (i := 38) rfl)) (hw _ (List.mem_of_getElem? (i := 39) rfl)) e1 (g := (mkF m 5 #[.val (.ref o0)] [(.ref o0)])) rfl (hb hby d4_5) (by decide) (by decide)
  obtain ⟨b2, g2⟩ : ∃ z, z = h0.size := ⟨_, rfl⟩
  rw [← g2] at A2 D2 st2
  have sz2 : h0.size ≤ h2.size := E2.1
  have lt2 : b2 < h2.size := A2.lt
  have F2_modCount : Fld Z h2 b2 "java/util/AbstractList" "modCount" "I" (.int (0 : Int32)) := D2 (Or.inl (hw _ (List.mem_of_getElem? (i := 57) rfl))) (ty := .int) (by decide)
  have F2_elementData : Fld Z h2 b2 "java/util/ArrayList" "elementData" "[Ljava/lang/Object;" .null := D2 (Or.inl (hw _ (List.mem_of_getElem? (i := 60) rfl))) (ty := (.array (.object "java/lang/Object"))) (by decide)
  have F2_size : Fld Z h2 b2 "java/util/ArrayList" "size" "I" (.int (0 : Int32)) := D2 (Or.inl (hw _ (List.mem_of_getElem? (i := 193) rfl))) (ty := .int) (by decide)
  refine Go.pre st2 ?_
  show Go p e below s _ _ _ (T2.setTop (mkF m 8 #[.val (.ref o0)] [(.ref b2), (.ref o0)]))
  refine Go.pre (st' := T2.setTop (mkF m 9 #[.val (.ref o0)] [(.ref b2), (.ref b2), (.ref o0)])) (fun target kt => ?_) ?_
  · show Steps p.tables e below (T2.setTop (mkF m 8 #[.val (.ref o0)] [(.ref b2), (.ref o0)])) _
    refine XS.dup X2.here hx rfl (hb hby d4_8) rfl rfl ?_
    exact kt
  have Y5 : Old Z n0 h2 := (Ol.ext E2)
  obtain ⟨_, _, ⟨T3, L3, k3, n3⟩, -, X3, ⟨Lc3, hQ3, l3, y3, z3⟩, st3⟩ := X2.specialBack hx (y := (⟨"java/util/ArrayList", "<init>", "()V"⟩ : MethodName)) rfl hown (mvT hZ (hw _ (List.mem_of_getElem? (i := 40) rfl))) (mvT hZ (hw _ (List.mem_of_getElem? (i := 41) rfl))) (mvT hZ (hw _ (List.mem_of_getElem? (i := 42) rfl))) (by decide) (backOf (W := 2) (rm5 l Z a0 hw [] b2 (0 : Int32) z4 .null h2 n0 (by omega) A2 F2_modCount (by omega) S_DEFAULTCAPACITY_EMPTY_ELEMENTDATA Y5 F2_elementData) hZ (hw _ (List.mem_of_getElem? (i := 42) rfl)) (hw _ (List.mem_of_getElem? (i := 39) rfl)) (by decide) (by decide)) (g := (mkF m 9 #[.val (.ref o0)] [(.ref b2), (.ref b2), (.ref o0)])) rfl (by rw [hml]; rfl) (Steps.refl _) (a := b2) (argsL := []) (rest := [(.ref b2), (.ref o0)]) (lenOf pd4_0 rfl) rfl (by show 2 * 0 + _ ≤ _; exact Nat.le_of_eq rfl) (hb hby d4_9) (fun vm₁ hvm => ⟨rfl, e2, (by decide : 1 + 0 ≤ _), (by decide : 3 + 0 ≤ _)⟩)
  dsimp only [Pt.U, Pt.locs, Pt.cells, Pt.slots] at X3 l3 y3 z3 st3 hQ3
  subst l3 y3 z3
  obtain ⟨rfl, N3q, K3, KF3, Y3_0, Y3_1⟩ := hQ3
  have sz3 : h2.size ≤ T3.heap.size := K3.1
  have N3 := Fr.app N0 N3q
  refine Go.trans st3 ?_
  show Go p e below s _ _ _ (T3.setTop (mkF m 12 #[.val (.ref o0)] [(.ref b2), (.ref o0)]))
  have Y7 : Fld Z T3.heap o0 "com/example/pulsekeep/pulsekeep/core/Subscriber" "subscriptions" "Ljava/util/List;" u6 := ((F_subscriptions_o0.ext E2).keep K3 (ninS (by show @Ne Nat o0 b2; omega) nin0))
  have Y8 : Exa Z T3.heap o0 "com/example/pulsekeep/pulsekeep/core/Subscriber" := ((E_o0.ext E2).keep K3)
  obtain ⟨T9, h9, X9, e9, W9, st9⟩ := putF X3 hx hZ hown (host := "") (Or.inl (hw _ (List.mem_of_getElem? (i := 61) rfl))) Via.refl rfl Y7 Y8 (Or.inr ⟨(hw _ (List.mem_of_getElem? (i := 62) rfl)), rfl, hnm⟩) (hw _ (List.mem_of_getElem? (i := 31) rfl)) (ty := (.object "java/util/List")) (by decide) rfl rfl (g := (mkF m 12 #[.val (.ref o0)] [(.ref b2), (.ref o0)])) rfl rfl (hb hby d4_12)
  have sz9 : T3.heap.size ≤ h9.size := (Keep.of_wr W9).1
  have Y10 : Fld Z h9 o0 "com/example/pulsekeep/pulsekeep/core/Subscriber" "subscriptions" "Ljava/util/List;" (.ref b2) := Y7.same W9
  have N9 := Fr.snoc X9 N3 (by omega)
  refine Go.pre st9 ?_
  show Go p e below s _ _ _ (T9.setTop (mkF m 15 #[.val (.ref o0)] []))
  refine Go.pre (st' := T9.setTop (mkF m 16 #[.val (.ref o0)] [(.ref o0)])) (fun target kt => ?_) ?_
  · show Steps p.tables e below (T9.setTop (mkF m 15 #[.val (.ref o0)] [])) _
    refine XS.aloadN X9.here hx rfl (hb hby d4_15) rfl rfl ?_
    exact kt
  obtain ⟨T11, h11, X11, e11, E11, A11, D11, -, st11⟩ := newO X9 hx hZ hown (hw _ (List.mem_of_getElem? (i := 63) rfl)) (hw _ (List.mem_of_getElem? (i := 64) rfl)) (hw _ (List.mem_of_getElem? (i := 65) rfl)) e9 (g := (mkF m 16 #[.val (.ref o0)] [(.ref o0)])) rfl (hb hby d4_16) (by decide) (by decide)
  obtain ⟨b11, g11⟩ : ∃ z, z = h9.size := ⟨_, rfl⟩
  rw [← g11] at A11 D11 st11
  have sz11 : h9.size ≤ h11.size := E11.1
  have lt11 : b11 < h11.size := A11.lt
  have F11_elements : Fld Z h11 b11 "java/util/ArrayDeque" "elements" "[Ljava/lang/Object;" .null := D11 (Or.inl (hw _ (List.mem_of_getElem? (i := 74) rfl))) (ty := (.array (.object "java/lang/Object"))) (by decide)
  refine Go.pre st11 ?_
  show Go p e below s _ _ _ (T11.setTop (mkF m 19 #[.val (.ref o0)] [(.ref b11), (.ref o0)]))
  refine Go.pre (st' := T11.setTop (mkF m 20 #[.val (.ref o0)] [(.ref b11), (.ref b11), (.ref o0)])) (fun target kt => ?_) ?_
  · show Steps p.tables e below (T11.setTop (mkF m 19 #[.val (.ref o0)] [(.ref b11), (.ref o0)])) _
    refine XS.dup X11.here hx rfl (hb hby d4_19) rfl rfl ?_
    exact kt
  obtain ⟨_, _, ⟨T12, L12, k12, n12⟩, -, X12, ⟨Lc12, hQ12, l12, y12, z12⟩, st12⟩ := X11.specialBack hx (y := (⟨"java/util/ArrayDeque", "<init>", "()V"⟩ : MethodName)) rfl hown (mvT hZ (hw _ (List.mem_of_getElem? (i := 66) rfl))) (mvT hZ (hw _ (List.mem_of_getElem? (i := 67) rfl))) (mvT hZ (hw _ (List.mem_of_getElem? (i := 68) rfl))) (by decide) (backOf (W := 2) (rm8 l Z a0 hw [] b11 .null h11 n0 (by omega) F11_elements A11 (by omega)) hZ (hw _ (List.mem_of_getElem? (i := 68) rfl)) (hw _ (List.mem_of_getElem? (i := 65) rfl)) (by decide) (by decide)) (g := (mkF m 20 #[.val (.ref o0)] [(.ref b11), (.ref b11), (.ref o0)])) rfl (by rw [hml]; rfl) (Steps.refl _) (a := b11) (argsL := []) (rest := [(.ref b11), (.ref o0)]) (lenOf pd4_0 rfl) rfl (by show 2 * 0 + _ ≤ _; exact Nat.le_of_eq rfl) (hb hby d4_20) (fun vm₁ hvm => ⟨rfl, e11, (by decide : 2 + 1 ≤ _), (by decide : 6 + 17 ≤ _)⟩)
  dsimp only [Pt.U, Pt.locs, Pt.cells, Pt.slots] at X12 l12 y12 z12 st12 hQ12
  subst l12 y12 z12
  obtain ⟨b12_0, k12_0, rfl, N12q, K12, KF12, gb12_0, ltb12_0, Y12_0, Y12_1⟩ := hQ12
  have sz12 : h11.size ≤ T12.heap.size := K12.1
  have N12 := Fr.app N9 N12q
  refine Go.trans st12 ?_
  show Go p e below s _ _ _ (T12.setTop (mkF m 23 #[.val (.ref o0)] [(.ref b11), (.ref o0)]))
  have Y14 : Fld Z T12.heap o0 "com/example/pulsekeep/pulsekeep/core/Subscriber" "requests" "Ljava/util/ArrayDeque;" u13 := (((((F_requests_o0.ext E2).keep K3 (ninS (by show @Ne Nat o0 b2; omega) nin0)).other W9 (Or.inr (slot_ne (Or.inr (hw _ (List.mem_of_getElem? (i := 76) rfl))) (Or.inr (hw _ (List.mem_of_getElem? (i := 62) rfl))) (by decide) (t := (.object "java/util/ArrayDeque")) (t' := (.object "java/util/List")) (by decide) (by decide)))).ext E11).keep K12 (ninS (by show @Ne Nat o0 b11; omega) nin0))
  have Y15 : Exa Z T12.heap o0 "com/example/pulsekeep/pulsekeep/core/Subscriber" := (((Y8.wr W9).ext E11).keep K12)
  obtain ⟨T16, h16, X16, e16, W16, st16⟩ := putF X12 hx hZ hown (host := "") (Or.inl (hw _ (List.mem_of_getElem? (i := 75) rfl))) Via.refl rfl Y14 Y15 (Or.inr ⟨(hw _ (List.mem_of_getElem? (i := 76) rfl)), rfl, hnm⟩) (hw _ (List.mem_of_getElem? (i := 31) rfl)) (ty := (.object "java/util/ArrayDeque")) (by decide) rfl rfl (g := (mkF m 23 #[.val (.ref o0)] [(.ref b11), (.ref o0)])) rfl rfl (hb hby d4_23)
  have sz16 : T12.heap.size ≤ h16.size := (Keep.of_wr W16).1
  have Y17 : Fld Z h16 o0 "com/example/pulsekeep/pulsekeep/core/Subscriber" "requests" "Ljava/util/ArrayDeque;" (.ref b11) := Y14.same W16
  have N16 := Fr.snoc X16 N12 (by omega)
  refine Go.pre st16 ?_
  show Go p e below s _ _ _ (T16.setTop (mkF m 26 #[.val (.ref o0)] []))
  refine Go.pre (st' := T16.setTop (mkF m 27 #[.val (.ref o0)] [(.ref o0)])) (fun target kt => ?_) ?_
  · show Steps p.tables e below (T16.setTop (mkF m 26 #[.val (.ref o0)] [])) _
    refine XS.aloadN X16.here hx rfl (hb hby d4_26) rfl rfl ?_
    exact kt
  obtain ⟨T18, h18, X18, e18, E18, A18, D18, -, st18⟩ := newO X16 hx hZ hown (hw _ (List.mem_of_getElem? (i := 63) rfl)) (hw _ (List.mem_of_getElem? (i := 64) rfl)) (hw _ (List.mem_of_getElem? (i := 65) rfl)) e16 (g := (mkF m 27 #[.val (.ref o0)] [(.ref o0)])) rfl (hb hby d4_27) (by decide) (by decide)
  obtain ⟨b18, g18⟩ : ∃ z, z = h16.size := ⟨_, rfl⟩
  rw [← g18] at A18 D18 st18
  have sz18 : h16.size ≤ h18.size := E18.1
  have lt18 : b18 < h18.size := A18.lt
  have F18_elements : Fld Z h18 b18 "java/util/ArrayDeque" "elements" "[Ljava/lang/Object;" .null := D18 (Or.inl (hw _ (List.mem_of_getElem? (i := 74) rfl))) (ty := (.array (.object "java/lang/Object"))) (by decide)
  refine Go.pre st18 ?_
  show Go p e below s _ _ _ (T18.setTop (mkF m 30 #[.val (.ref o0)] [(.ref b18), (.ref o0)]))
  refine Go.pre (st' := T18.setTop (mkF m 31 #[.val (.ref o0)] [(.ref b18), (.ref b18), (.ref o0)])) (fun target kt => ?_) ?_
  · show Steps p.tables e below (T18.setTop (mkF m 30 #[.val (.ref o0)] [(.ref b18), (.ref o0)])) _
    refine XS.dup X18.here hx rfl (hb hby d4_30) rfl rfl ?_
    exact kt
  obtain ⟨_, _, ⟨T19, L19, k19, n19⟩, -, X19, ⟨Lc19, hQ19, l19, y19, z19⟩, st19⟩ := X18.specialBack hx (y := (⟨"java/util/ArrayDeque", "<init>", "()V"⟩ : MethodName)) rfl hown (mvT hZ (hw _ (List.mem_of_getElem? (i := 66) rfl))) (mvT hZ (hw _ (List.mem_of_getElem? (i := 67) rfl))) (mvT hZ (hw _ (List.mem_of_getElem? (i := 68) rfl))) (by decide) (backOf (W := 2) (rm8 l Z a0 hw [] b18 .null h18 n0 (by omega) F18_elements A18 (by omega)) hZ (hw _ (List.mem_of_getElem? (i := 68) rfl)) (hw _ (List.mem_of_getElem? (i := 65) rfl)) (by decide) (by decide)) (g := (mkF m 31 #[.val (.ref o0)] [(.ref b18), (.ref b18), (.ref o0)])) rfl (by rw [hml]; rfl) (Steps.refl _) (a := b18) (argsL := []) (rest := [(.ref b18), (.ref o0)]) (lenOf pd4_0 rfl) rfl (by show 2 * 0 + _ ≤ _; exact Nat.le_of_eq rfl) (hb hby d4_31) (fun vm₁ hvm => ⟨rfl, e18, (by decide : 4 + 1 ≤ _), (by decide : 26 + 17 ≤ _)⟩)
  dsimp only [Pt.U, Pt.locs, Pt.cells, Pt.slots] at X19 l19 y19 z19 st19 hQ19
  subst l19 y19 z19
  obtain ⟨b19_0, k19_0, rfl, N19q, K19, KF19, gb19_0, ltb19_0, Y19_0, Y19_1⟩ := hQ19
  have sz19 : h18.size ≤ T19.heap.size := K19.1
  have N19 := Fr.app N16 N19q
  refine Go.trans st19 ?_
  show Go p e below s _ _ _ (T19.setTop (mkF m 34 #[.val (.ref o0)] [(.ref b18), (.ref o0)]))
  have Y21 : Fld Z T19.heap o0 "com/example/pulsekeep/pulsekeep/core/Subscriber" "kept" "Ljava/util/ArrayDeque;" u20 := ((((((((F_kept_o0.ext E2).keep K3 (ninS (by show @Ne Nat o0 b2; omega) nin0)).other W9 (Or.inr (slot_ne (Or.inr (hw _ (List.mem_of_getElem? (i := 78) rfl))) (Or.inr (hw _ (List.mem_of_getElem? (i := 62) rfl))) (by decide) (t := (.object "java/util/ArrayDeque")) (t' := (.object "java/util/List")) (by decide) (by decide)))).ext E11).keep K12 (ninS (by show @Ne Nat o0 b11; omega) nin0)).other W16 (Or.inr (slot_ne (Or.inr (hw _ (List.mem_of_getElem? (i := 78) rfl))) (Or.inr (hw _ (List.mem_of_getElem? (i := 76) rfl))) (by decide) (t := (.object "java/util/ArrayDeque")) (t' := (.object "java/util/ArrayDeque")) (by decide) (by decide)))).ext E18).keep K19 (ninS (by show @Ne Nat o0 b18; omega) nin0))
  have Y22 : Exa Z T19.heap o0 "com/example/pulsekeep/pulsekeep/core/Subscriber" := (((Y15.wr W16).ext E18).keep K19)
  obtain ⟨T23, h23, X23, e23, W23, st23⟩ := putF X19 hx hZ hown (host := "") (Or.inl (hw _ (List.mem_of_getElem? (i := 77) rfl))) Via.refl rfl Y21 Y22 (Or.inr ⟨(hw _ (List.mem_of_getElem? (i := 78) rfl)), rfl, hnm⟩) (hw _ (List.mem_of_getElem? (i := 31) rfl)) (ty := (.object "java/util/ArrayDeque")) (by decide) rfl rfl (g := (mkF m 34 #[.val (.ref o0)] [(.ref b18), (.ref o0)])) rfl rfl (hb hby d4_34)
  have sz23 : T19.heap.size ≤ h23.size := (Keep.of_wr W23).1
  have Y24 : Fld Z h23 o0 "com/example/pulsekeep/pulsekeep/core/Subscriber" "kept" "Ljava/util/ArrayDeque;" (.ref b18) := Y21.same W23
  have N23 := Fr.snoc X23 N19 (by omega)
  refine Go.pre st23 ?_
  show Go p e below s _ _ _ (T23.setTop (mkF m 37 #[.val (.ref o0)] []))
  refine Go.pre (st' := T23.setTop (mkF m 38 #[.val (.ref o0)] [(.ref o0)])) (fun target kt => ?_) ?_
  · show Steps p.tables e below (T23.setTop (mkF m 37 #[.val (.ref o0)] [])) _
    refine XS.aloadN X23.here hx rfl (hb hby d4_37) rfl rfl ?_
    exact kt
  obtain ⟨T25, h25, X25, e25, E25, A25, D25, -, st25⟩ := newO X23 hx hZ hown (hw _ (List.mem_of_getElem? (i := 63) rfl)) (hw _ (List.mem_of_getElem? (i := 64) rfl)) (hw _ (List.mem_of_getElem? (i := 65) rfl)) e23 (g := (mkF m 38 #[.val (.ref o0)] [(.ref o0)])) rfl (hb hby d4_38) (by decide) (by decide)
  obtain ⟨b25, g25⟩ : ∃ z, z = h23.size := ⟨_, rfl⟩
  rw [← g25] at A25 D25 st25
  have sz25 : h23.size ≤ h25.size := E25.1
  have lt25 : b25 < h25.size := A25.lt
  have F25_elements : Fld Z h25 b25 "java/util/ArrayDeque" "elements" "[Ljava/lang/Object;" .null := D25 (Or.inl (hw _ (List.mem_of_getElem? (i := 74) rfl))) (ty := (.array (.object "java/lang/Object"))) (by decide)
  refine Go.pre st25 ?_
  show Go p e below s _ _ _ (T25.setTop (mkF m 41 #[.val (.ref o0)] [(.ref b25), (.ref o0)]))
  refine Go.pre (st' := T25.setTop (mkF m 42 #[.val (.ref o0)] [(.ref b25), (.ref b25), (.ref o0)])) (fun target kt => ?_) ?_
  · show Steps p.tables e below (T25.setTop (mkF m 41 #[.val (.ref o0)] [(.ref b25), (.ref o0)])) _
    refine XS.dup X25.here hx rfl (hb hby d4_41) rfl rfl ?_
    exact kt
  obtain ⟨_, _, ⟨T26, L26, k26, n26⟩, -, X26, ⟨Lc26, hQ26, l26, y26, z26⟩, st26⟩ := X25.specialBack hx (y := (⟨"java/util/ArrayDeque", "<init>", "()V"⟩ : MethodName)) rfl hown (mvT hZ (hw _ (List.mem_of_getElem? (i := 66) rfl))) (mvT hZ (hw _ (List.mem_of_getElem? (i := 67) rfl))) (mvT hZ (hw _ (List.mem_of_getElem? (i := 68) rfl))) (by decide) (backOf (W := 2) (rm8 l Z a0 hw [] b25 .null h25 n0 (by omega) F25_elements A25 (by omega)) hZ (hw _ (List.mem_of_getElem? (i := 68) rfl)) (hw _ (List.mem_of_getElem? (i := 65) rfl)) (by decide) (by decide)) (g := (mkF m 42 #[.val (.ref o0)] [(.ref b25), (.ref b25), (.ref o0)])) rfl (by rw [hml]; rfl) (Steps.refl _) (a := b25) (argsL := []) (rest := [(.ref b25), (.ref o0)]) (lenOf pd4_0 rfl) rfl (by show 2 * 0 + _ ≤ _; exact Nat.le_of_eq rfl) (hb hby d4_42) (fun vm₁ hvm => ⟨rfl, e25, (by decide : 6 + 1 ≤ _), (by decide : 46 + 17 ≤ _)⟩)
  dsimp only [Pt.U, Pt.locs, Pt.cells, Pt.slots] at X26 l26 y26 z26 st26 hQ26
  subst l26 y26 z26
  obtain ⟨b26_0, k26_0, rfl, N26q, K26, KF26, gb26_0, ltb26_0, Y26_0, Y26_1⟩ := hQ26
  have sz26 : h25.size ≤ T26.heap.size := K26.1
  have N26 := Fr.app N23 N26q
  refine Go.trans st26 ?_
  show Go p e below s _ _ _ (T26.setTop (mkF m 45 #[.val (.ref o0)] [(.ref b25), (.ref o0)]))
  have Y28 : Fld Z T26.heap o0 "com/example/pulsekeep/pulsekeep/core/Subscriber" "departures" "Ljava/util/ArrayDeque;" u27 := (((((((((((F_departures_o0.ext E2).keep K3 (ninS (by show @Ne Nat o0 b2; omega) nin0)).other W9 (Or.inr (slot_ne (Or.inr (hw _ (List.mem_of_getElem? (i := 80) rfl))) (Or.inr (hw _ (List.mem_of_getElem? (i := 62) rfl))) (by decide) (t := (.object "java/util/ArrayDeque")) (t' := (.object "java/util/List")) (by decide) (by decide)))).ext E11).keep K12 (ninS (by show @Ne Nat o0 b11; omega) nin0)).other W16 (Or.inr (slot_ne (Or.inr (hw _ (List.mem_of_getElem? (i := 80) rfl))) (Or.inr (hw _ (List.mem_of_getElem? (i := 76) rfl))) (by decide) (t := (.object "java/util/ArrayDeque")) (t' := (.object "java/util/ArrayDeque")) (by decide) (by decide)))).ext E18).keep K19 (ninS (by show @Ne Nat o0 b18; omega) nin0)).other W23 (Or.inr (slot_ne (Or.inr (hw _ (List.mem_of_getElem? (i := 80) rfl))) (Or.inr (hw _ (List.mem_of_getElem? (i := 78) rfl))) (by decide) (t := (.object "java/util/ArrayDeque")) (t' := (.object "java/util/ArrayDeque")) (by decide) (by decide)))).ext E25).keep K26 (ninS (by show @Ne Nat o0 b25; omega) nin0))
  have Y29 : Exa Z T26.heap o0 "com/example/pulsekeep/pulsekeep/core/Subscriber" := (((Y22.wr W23).ext E25).keep K26)
  obtain ⟨T30, h30, X30, e30, W30, st30⟩ := putF X26 hx hZ hown (host := "") (Or.inl (hw _ (List.mem_of_getElem? (i := 79) rfl))) Via.refl rfl Y28 Y29 (Or.inr ⟨(hw _ (List.mem_of_getElem? (i := 80) rfl)), rfl, hnm⟩) (hw _ (List.mem_of_getElem? (i := 31) rfl)) (ty := (.object "java/util/ArrayDeque")) (by decide) rfl rfl (g := (mkF m 45 #[.val (.ref o0)] [(.ref b25), (.ref o0)])) rfl rfl (hb hby d4_45)
  have sz30 : T26.heap.size ≤ h30.size := (Keep.of_wr W30).1
  have Y31 : Fld Z h30 o0 "com/example/pulsekeep/pulsekeep/core/Subscriber" "departures" "Ljava/util/ArrayDeque;" (.ref b25) := Y28.same W30
  have N30 := Fr.snoc X30 N26 (by omega)
  refine Go.pre st30 ?_
  show Go p e below s _ _ _ (T30.setTop (mkF m 48 #[.val (.ref o0)] []))
  have Y32 : Fld Z h30 o0 "com/example/pulsekeep/pulsekeep/core/Subscriber" "subscriptions" "Ljava/util/List;" (.ref b2) := (((((((((Y10.ext E11).keep K12 (ninS (by show @Ne Nat o0 b11; omega) nin0)).other W16 (Or.inr (slot_ne (Or.inr (hw _ (List.mem_of_getElem? (i := 62) rfl))) (Or.inr (hw _ (List.mem_of_getElem? (i := 76) rfl))) (by decide) (t := (.object "java/util/List")) (t' := (.object "java/util/ArrayDeque")) (by decide) (by decide)))).ext E18).keep K19 (ninS (by show @Ne Nat o0 b18; omega) nin0)).other W23 (Or.inr (slot_ne (Or.inr (hw _ (List.mem_of_getElem? (i := 62) rfl))) (Or.inr (hw _ (List.mem_of_getElem? (i := 78) rfl))) (by decide) (t := (.object "java/util/List")) (t' := (.object "java/util/ArrayDeque")) (by decide) (by decide)))).ext E25).keep K26 (ninS (by show @Ne Nat o0 b25; omega) nin0)).other W30 (Or.inr (slot_ne (Or.inr (hw _ (List.mem_of_getElem? (i := 62) rfl))) (Or.inr (hw _ (List.mem_of_getElem? (i := 80) rfl))) (by decide) (t := (.object "java/util/List")) (t' := (.object "java/util/ArrayDeque")) (by decide) (by decide))))
  have Y33 : Fld Z h30 o0 "com/example/pulsekeep/pulsekeep/core/Subscriber" "requests" "Ljava/util/ArrayDeque;" (.ref b11) := ((((((Y17.ext E18).keep K19 (ninS (by show @Ne Nat o0 b18; omega) nin0)).other W23 (Or.inr (slot_ne (Or.inr (hw _ (List.mem_of_getElem? (i := 76) rfl))) (Or.inr (hw _ (List.mem_of_getElem? (i := 78) rfl))) (by decide) (t := (.object "java/util/ArrayDeque")) (t' := (.object "java/util/ArrayDeque")) (by decide) (by decide)))).ext E25).keep K26 (ninS (by show @Ne Nat o0 b25; omega) nin0)).other W30 (Or.inr (slot_ne (Or.inr (hw _ (List.mem_of_getElem? (i := 76) rfl))) (Or.inr (hw _ (List.mem_of_getElem? (i := 80) rfl))) (by decide) (t := (.object "java/util/ArrayDeque")) (t' := (.object "java/util/ArrayDeque")) (by decide) (by decide))))
  have Y34 : Fld Z h30 o0 "com/example/pulsekeep/pulsekeep/core/Subscriber" "kept" "Ljava/util/ArrayDeque;" (.ref b18) := (((Y24.ext E25).keep K26 (ninS (by show @Ne Nat o0 b25; omega) nin0)).other W30 (Or.inr (slot_ne (Or.inr (hw _ (List.mem_of_getElem? (i := 78) rfl))) (Or.inr (hw _ (List.mem_of_getElem? (i := 80) rfl))) (by decide) (t := (.object "java/util/ArrayDeque")) (t' := (.object "java/util/ArrayDeque")) (by decide) (by decide))))
  have Y35 : Exa Z h30 b2 "java/util/ArrayList" := (((((((((((A2.keep K3).wr W9).ext E11).keep K12).wr W16).ext E18).keep K19).wr W23).ext E25).keep K26).wr W30)
  have Y36 : Fld Z h30 b2 "java/util/ArrayList" "size" "I" (.int (0 : Int32)) := (((((((((((KF3 _ _ _ _ _ F2_size (pallS (Or.inr (slot_ne (Or.inl (hw _ (List.mem_of_getElem? (i := 193) rfl))) (Or.inl (hw _ (List.mem_of_getElem? (i := 57) rfl))) (by decide) (t := .int) (t' := .int) (by decide) (by decide))) (pallS (Or.inr (slot_ne (Or.inl (hw _ (List.mem_of_getElem? (i := 193) rfl))) (Or.inl (hw _ (List.mem_of_getElem? (i := 60) rfl))) (by decide) (t := .int) (t' := (.array (.object "java/lang/Object"))) (by decide) (by decide))) pall0))).other W9 (Or.inl (by show @Ne Nat b2 o0; omega))).ext E11).keep K12 (ninS (by show @Ne Nat b2 b11; omega) nin0)).other W16 (Or.inl (by show @Ne Nat b2 o0; omega))).ext E18).keep K19 (ninS (by show @Ne Nat b2 b18; omega) nin0)).other W23 (Or.inl (by show @Ne Nat b2 o0; omega))).ext E25).keep K26 (ninS (by show @Ne Nat b2 b25; omega) nin0)).other W30 (Or.inl (by show @Ne Nat b2 o0; omega)))
  have Y37 : Fld Z h30 b2 "java/util/AbstractList" "modCount" "I" (.int (0 : Int32)) := ((((((((((Y3_0.other W9 (Or.inl (by show @Ne Nat b2 o0; omega))).ext E11).keep K12 (ninS (by show @Ne Nat b2 b11; omega) nin0)).other W16 (Or.inl (by show @Ne Nat b2 o0; omega))).ext E18).keep K19 (ninS (by show @Ne Nat b2 b18; omega) nin0)).other W23 (Or.inl (by show @Ne Nat b2 o0; omega))).ext E25).keep K26 (ninS (by show @Ne Nat b2 b25; omega) nin0)).other W30 (Or.inl (by show @Ne Nat b2 o0; omega)))
  have Y38 : Fld Z h30 b2 "java/util/ArrayList" "elementData" "[Ljava/lang/Object;" (.ref z4) := ((((((((((Y3_1.other W9 (Or.inl (by show @Ne Nat b2 o0; omega))).ext E11).keep K12 (ninS (by show @Ne Nat b2 b11; omega) nin0)).other W16 (Or.inl (by show @Ne Nat b2 o0; omega))).ext E18).keep K19 (ninS (by show @Ne Nat b2 b18; omega) nin0)).other W23 (Or.inl (by show @Ne Nat b2 o0; omega))).ext E25).keep K26 (ninS (by show @Ne Nat b2 b25; omega) nin0)).other W30 (Or.inl (by show @Ne Nat b2 o0; omega)))
  have Y39 : Exa Z h30 b11 "java/util/ArrayDeque" := ((((((((A11.keep K12).wr W16).ext E18).keep K19).wr W23).ext E25).keep K26).wr W30)
  have Y40 : Fld Z h30 b11 "java/util/ArrayDeque" "elements" "[Ljava/lang/Object;" (.ref b12_0) := (((((((Y12_0.other W16 (Or.inl (by show @Ne Nat b11 o0; omega))).ext E18).keep K19 (ninS (by show @Ne Nat b11 b18; omega) nin0)).other W23 (Or.inl (by show @Ne Nat b11 o0; omega))).ext E25).keep K26 (ninS (by show @Ne Nat b11 b25; omega) nin0)).other W30 (Or.inl (by show @Ne Nat b11 o0; omega)))
  have Y41 : Exa Z h30 b18 "java/util/ArrayDeque" := (((((A18.keep K19).wr W23).ext E25).keep K26).wr W30)
  have Y42 : Fld Z h30 b18 "java/util/ArrayDeque" "elements" "[Ljava/lang/Object;" (.ref b19_0) := ((((Y19_0.other W23 (Or.inl (by show @Ne Nat b18 o0; omega))).ext E25).keep K26 (ninS (by show @Ne Nat b18 b25; omega) nin0)).other W30 (Or.inl (by show @Ne Nat b18 o0; omega)))
  have Y43 : Exa Z h30 b25 "java/util/ArrayDeque" := ((A25.keep K26).wr W30)
  have Y44 : Fld Z h30 b25 "java/util/ArrayDeque" "elements" "[Ljava/lang/Object;" (.ref b26_0) := (Y26_0.other W30 (Or.inl (by show @Ne Nat b25 o0; omega)))
  have Y45 : Arv Z h30 b12_0 k12_0 (.object "java/lang/Object") (17 : Int32) [.null, .null, .null, .null, .null, .null, .null, .null, .null, .null, .null, .null, .null, .null, .null, .null, .null] .null := (((((((Y12_1.other W16 (by show @Ne Nat b12_0 o0; omega)).ext E18).keep K19 (ninS (by show @Ne Nat b12_0 b18; omega) nin0)).other W23 (by show @Ne Nat b12_0 o0; omega)).ext E25).keep K26 (ninS (by show @Ne Nat b12_0 b25; omega) nin0)).other W30 (by show @Ne Nat b12_0 o0; omega))
  have Y46 : Arv Z h30 b19_0 k19_0 (.object "java/lang/Object") (17 : Int32) [.null, .null, .null, .null, .null, .null, .null, .null, .null, .null, .null, .null, .null, .null, .null, .null, .null] .null := ((((Y19_1.other W23 (by show @Ne Nat b19_0 o0; omega)).ext E25).keep K26 (ninS (by show @Ne Nat b19_0 b25; omega) nin0)).other W30 (by show @Ne Nat b19_0 o0; omega))
  have Y47 : Arv Z h30 b26_0 k26_0 (.object "java/lang/Object") (17 : Int32) [.null, .null, .null, .null, .null, .null, .null, .null, .null, .null, .null, .null, .null, .null, .null, .null, .null] .null := (Y26_1.other W30 (by show @Ne Nat b26_0 o0; omega))
  exact Go.ret0 X30 hx hlk hrt (hb hby d4_48) (by decide) (by decide) (by rw [e30]; exact ⟨b2, b11, b12_0, b18, b19_0, b25, b26_0, k12_0, k19_0, k26_0, rfl, N30, (((((((((((((Keep.refl h0 [o0]).ext E2).trans K3 (allS (Or.inr (by omega)) all0)).wr W9 (Or.inl (List.mem_of_getElem? (i := 0) rfl))).ext E11).trans K12 (allS (Or.inr (by omega)) all0)).wr W16 (Or.inl (List.mem_of_getElem? (i := 0) rfl))).ext E18).trans K19 (allS (Or.inr (by omega)) all0)).wr W23 (Or.inl (List.mem_of_getElem? (i := 0) rfl))).ext E25).trans K26 (allS (Or.inr (by omega)) all0)).wr W30 (Or.inl (List.mem_of_getElem? (i := 0) rfl))), (((((((((((((KF.refl Z h0 [(o0, Jvm.RoadKit.slotOf Z "com/example/pulsekeep/pulsekeep/core/Subscriber" "subscriptions" "Ljava/util/List;"), (o0, Jvm.RoadKit.slotOf Z "com/example/pulsekeep/pulsekeep/core/Subscriber" "requests" "Ljava/util/ArrayDeque;"), (o0, Jvm.RoadKit.slotOf Z "com/example/pulsekeep/pulsekeep/core/Subscriber" "kept" "Ljava/util/ArrayDeque;"), (o0, Jvm.RoadKit.slotOf Z "com/example/pulsekeep/pulsekeep/core/Subscriber" "departures" "Ljava/util/ArrayDeque;")]).ext E2).trans KF3 (pallS (Or.inr (by show _ ≤ b2; omega)) (pallS (Or.inr (by show _ ≤ b2; omega)) pall0))).wr W9 (Or.inl (List.mem_of_getElem? (i := 0) rfl))).ext E11).trans KF12 (pallS (Or.inr (by show _ ≤ b11; omega)) pall0)).wr W16 (Or.inl (List.mem_of_getElem? (i := 1) rfl))).ext E18).trans KF19 (pallS (Or.inr (by show _ ≤ b18; omega)) pall0)).wr W23 (Or.inl (List.mem_of_getElem? (i := 2) rfl))).ext E25).trans KF26 (pallS (Or.inr (by show _ ≤ b25; omega)) pall0)).wr W30 (Or.inl (List.mem_of_getElem? (i := 3) rfl))), by omega, by omega, by omega, by omega, by omega, by omega, by omega, by omega, by omega, by omega, by omega, by omega, by omega, by omega, by omega, by omega, by omega, by omega, by omega, by omega, Y32, Y33, Y34, Y31, Y35, Y36, Y37, Y38, Y39, Y40, Y41, Y42, Y43, Y44, Y45, Y46, Y47⟩)
/-! MonitoredItem$ValueBudget.<init> (10) -/
theorem d10_0 : decode prog_13_method_1_code 0 = .ok (.aload_n 0, 1) := by decide +kernel
theorem d10_1 : decode prog_13_method_1_code 1 = .ok (.invokespecial 1, 3) := by decide +kernel
theorem d10_4 : decode prog_13_method_1_code 4 = .ok (.return_, 1) := by decide +kernel
theorem pn_10 : plainName "com/example/pulsekeep/pulsekeep/core/MonitoredItem$ValueBudget" = true := by first | (simp [plainName, overriddenIn]; done) | decide +kernel
theorem ef_10 (m : MethodId) (o0 : Addr) : entryFrame m #[(.ref o0)] 1 = (mkF m 0 #[.val (.ref o0)] []) := by first | (simp [entryFrame, mkF, argsToLocals, Value.category]; done) | rfl
def Q10 (Z : State) (o0 : Addr) (h0 : Heap) (n0 : Nat) (v : Option Value) (h : Heap) (L : List Loc) : Prop := v = none ∧ Fr n0 L ∧ h = h0
set_option maxRecDepth 65536 in
set_option maxHeartbeats 40000000 in
theorem rm10 (l : Launch) (Z : State) (a0 : Array Value) (hw : ∀ d ∈ tables_1, d.before a0 Z = true) (ws : List Jvm.Cond) (o0 : Addr) (h0 : Heap) (n0 : Nat) (Z0 : n0 ≤ h0.size) :
    MetFree l (⟨"com/example/pulsekeep/pulsekeep/core/MonitoredItem$ValueBudget", "<init>", "()V"⟩ : MethodName) (head1 (Jvm.Cond.code (⟨"com/example/pulsekeep/pulsekeep/core/MonitoredItem$ValueBudget", "<init>", "()V"⟩ : MethodName) prog_13_method_1_code 1 none :: ws) ({ frames := 1, cells := 0, slots := 0, locals := 12 } : Room)) (fun a U => a = #[(.ref o0)] ∧ Z.Warmed39 U.vm ∧ U.heap = h0) (fun _ _ _ _ _ => True) (fun _ U o U' => ∃ v L, o = .returned v ∧ Q10 Z o0 h0 n0 v U'.heap L ∧ FrameEnd U o U' L ({ frames := 1, cells := 0, slots := 0, locals := 12 } : Room).cells ({ frames := 1, cells := 0, slots := 0, locals := 12 } : Room).slots) := by
  refine MetFree.of_bodySF (plainFor_of_name pn_10) hisR ?_
  intro p e s m args below meth c s₁ Bd hml0 hP hK
  obtain ⟨rfl, hZ, hh⟩ := hP
  have hx := Bd.exec
  have hby := Bd.bytes
  have hml : c.maxLocals = 1 := hml0
  have hown : s.vm.findClass "com/example/pulsekeep/pulsekeep/core/MonitoredItem$ValueBudget" = some m.cls := findClass_of_methodNamed Bd.named
  have hnm := (name_of_methodNamed Bd.named Bd.method).1
  have hrt := Bd.returns
  have hlk := Bd.notSynchronized
  have X0 : Stand p l e ({ frames := 1, cells := 0, slots := 0, locals := 12 } : Room) s m #[(.ref o0)] below meth c s₁ [] 0 0 := Stand.of_body Bd
  have e0 : s₁.heap = h0 := by rw [← hh, Bd.state]; rfl
  have N0 := Fr.nil n0
  show Go p e below s 0 0 (Q10 Z o0 h0 n0) (s₁.setTop (entryFrame m #[(.ref o0)] 1))
  rw [ef_10 m o0]
  refine Go.pre (st' := s₁.setTop (mkF m 1 #[.val (.ref o0)] [(.ref o0)])) (fun target kt => ?_) ?_
  · show Steps p.tables e below (s₁.setTop (mkF m 0 #[.val (.ref o0)] [])) _
    refine XS.aloadN X0.here hx rfl (hb hby d10_0) rfl rfl ?_
    exact kt
  obtain ⟨T1, X1, e1, st1⟩ := initO X0 hx hZ hown (hw _ (List.mem_of_getElem? (i := 95) rfl)) (hw _ (List.mem_of_getElem? (i := 13) rfl)) (hw _ (List.mem_of_getElem? (i := 14) rfl)) e0 (g := (mkF m 1 #[.val (.ref o0)] [(.ref o0)])) rfl (by rw [hml]; rfl) rfl (hb hby d10_1) (by decide) (W := 0) (by show 2 * 0 + _ ≤ _; exact Nat.le_of_eq rfl) (by decide)
  refine Go.pre st1 ?_
  show Go p e below s _ _ _ (T1.setTop (mkF m 4 #[.val (.ref o0)] []))
  exact Go.ret0 X1 hx hlk hrt (hb hby d10_4) (by decide) (by decide) (by rw [e1]; exact ⟨rfl, N0, rfl⟩)
/-! SubscriptionSettings.<init> (1) -/
theorem d1_0 : decode prog_47_method_1_code 0 = .ok (.aload_n 0, 1) := by decide +kernel
theorem d1_1 : decode prog_47_method_1_code 1 = .ok (.invokespecial 1, 3) := by decide +kernel
theorem d1_4 : decode prog_47_method_1_code 4 = .ok (.aload_n 0, 1) := by decide +kernel
theorem d1_5 : decode prog_47_method_1_code 5 = .ok (.dload_n 1, 1) := by decide +kernel
theorem d1_6 : decode prog_47_method_1_code 6 = .ok (.putfield 7, 3) := by decide +kernel
theorem d1_9 : decode prog_47_method_1_code 9 = .ok (.aload_n 0, 1) := by decide +kernel
theorem d1_10 : decode prog_47_method_1_code 10 = .ok (.lload_n 3, 1) := by decide +kernel
theorem d1_11 : decode prog_47_method_1_code 11 = .ok (.putfield 13, 3) := by decide +kernel
theorem d1_14 : decode prog_47_method_1_code 14 = .ok (.aload_n 0, 1) := by decide +kernel
theorem d1_15 : decode prog_47_method_1_code 15 = .ok (.lload 5, 2) := by decide +kernel
theorem d1_17 : decode prog_47_method_1_code 17 = .ok (.putfield 17, 3) := by decide +kernel
theorem d1_20 : decode prog_47_method_1_code 20 = .ok (.aload_n 0, 1) := by decide +kernel
theorem d1_21 : decode prog_47_method_1_code 21 = .ok (.lload 7, 2) := by decide +kernel
theorem d1_23 : decode prog_47_method_1_code 23 = .ok (.putfield 20, 3) := by decide +kernel
theorem d1_26 : decode prog_47_method_1_code 26 = .ok (.aload_n 0, 1) := by decide +kernel
theorem d1_27 : decode prog_47_method_1_code 27 = .ok (.iload 9, 2) := by decide +kernel
theorem d1_29 : decode prog_47_method_1_code 29 = .ok (.putfield 23, 3) := by decide +kernel
theorem d1_32 : decode prog_47_method_1_code 32 = .ok (.aload_n 0, 1) := by decide +kernel
theorem d1_33 : decode prog_47_method_1_code 33 = .ok (.iload 10, 2) := by decide +kernel
theorem d1_35 : decode prog_47_method_1_code 35 = .ok (.putfield 27, 3) := by decide +kernel
theorem d1_38 : decode prog_47_method_1_code 38 = .ok (.return_, 1) := by decide +kernel
theorem pn_1 : plainName "com/example/pulsekeep/pulsekeep/core/SubscriptionSettings" = true := by first | (simp [plainName, overriddenIn]; done) | decide +kernel
theorem pd1_0 : parseMethodDescriptor "()V" = some ⟨[], none⟩ := by decide +kernel
theorem ef_1 (m : MethodId) (o0 : Addr) (d1 : UInt64) (q2 : Int64) (q3 : Int64) (q4 : Int64) (p5 : Int32) (p6 : Int32) : entryFrame m #[(.ref o0), (.double d1), (.long q2), (.long q3), (.long q4), (.int p5), (.int p6)] 11 = (mkF m 0 #[.val (.ref o0), .val (.double d1), .second, .val (.long q2), .second, .val (.long q3), .second, .val (.long q4), .second, .val (.int p5), .val (.int p6)] []) := by first | (simp [entryFrame, mkF, argsToLocals, Value.category]; done) | rfl
def Q1 (Z : State) (o0 : Addr) (d1 : UInt64) (q2 : Int64) (q3 : Int64) (q4 : Int64) (p5 : Int32) (p6 : Int32) (u2 : Value) (u5 : Value) (u10 : Value) (u15 : Value) (u20 : Value) (u25 : Value) (h0 : Heap) (n0 : Nat) (v : Option Value) (h : Heap) (L : List Loc) : Prop := v = none ∧ Fr n0 L ∧ Keep h0 h [o0] ∧ KF Z h0 h [(o0, Jvm.RoadKit.slotOf Z "com/example/pulsekeep/pulsekeep/core/SubscriptionSettings" "publishingIntervalMs" "D"), (o0, Jvm.RoadKit.slotOf Z "com/example/pulsekeep/pulsekeep/core/SubscriptionSettings" "lifetimeCount" "J"), (o0, Jvm.RoadKit.slotOf Z "com/example/pulsekeep/pulsekeep/core/SubscriptionSettings" "maxKeepAliveCount" "J"), (o0, Jvm.RoadKit.slotOf Z "com/example/pulsekeep/pulsekeep/core/SubscriptionSettings" "maxNotificationsPerPublish" "J"), (o0, Jvm.RoadKit.slotOf Z "com/example/pulsekeep/pulsekeep/core/SubscriptionSettings" "publishingEnabled" "Z"), (o0, Jvm.RoadKit.slotOf Z "com/example/pulsekeep/pulsekeep/core/SubscriptionSettings" "priority" "I")] ∧ Fld Z h o0 "com/example/pulsekeep/pulsekeep/core/SubscriptionSettings" "publishingIntervalMs" "D" (.double d1) ∧ Fld Z h o0 "com/example/pulsekeep/pulsekeep/core/SubscriptionSettings" "lifetimeCount" "J" (.long q2) ∧ Fld Z h o0 "com/example/pulsekeep/pulsekeep/core/SubscriptionSettings" "maxKeepAliveCount" "J" (.long q3) ∧ Fld Z h o0 "com/example/pulsekeep/pulsekeep/core/SubscriptionSettings" "maxNotificationsPerPublish" "J" (.long q4) ∧ Fld Z h o0 "com/example/pulsekeep/pulsekeep/core/SubscriptionSettings" "publishingEnabled" "Z" (.int (p5 &&& 1)) ∧ Fld Z h o0 "com/example/pulsekeep/pulsekeep/core/SubscriptionSettings" "priority" "I" (.int p6)
set_option maxRecDepth 65536 in
set_option maxHeartbeats 40000000 in
theorem rm1 (l : Launch) (Z : State) (a0 : Array Value) (hw : ∀ d ∈ tables_1, d.before a0 Z = true) (ws : List Jvm.Cond) (o0 : Addr) (d1 : UInt64) (q2 : Int64) (q3 : Int64) (q4 : Int64) (p5 : Int32) (p6 : Int32) (u2 : Value) (u5 : Value) (u10 : Value) (u15 : Value) (u20 : Value) (u25 : Value) (h0 : Heap) (n0 : Nat) (Z0 : n0 ≤ h0.size) (F_publishingIntervalMs_o0 : Fld Z h0 o0 "com/example/pulsekeep/pulsekeep/core/SubscriptionSettings" "publishingIntervalMs" "D" u2) (E_o0 : Exa Z h0 o0 "com/example/pulsekeep/pulsekeep/core/SubscriptionSettings") (g_o0 : n0 ≤ o0) (F_lifetimeCount_o0 : Fld Z h0 o0 "com/example/pulsekeep/pulsekeep/core/SubscriptionSettings" "lifetimeCount" "J" u5) (F_maxKeepAliveCount_o0 : Fld Z h0 o0 "com/example/pulsekeep/pulsekeep/core/SubscriptionSettings" "maxKeepAliveCount" "J" u10) (F_maxNotificationsPerPublish_o0 : Fld Z h0 o0 "com/example/pulsekeep/pulsekeep/core/SubscriptionSettings" "maxNotificationsPerPublish" "J" u15) (F_publishingEnabled_o0 : Fld Z h0 o0 "com/example/pulsekeep/pulsekeep/core/SubscriptionSettings" "publishingEnabled" "Z" u20) (F_priority_o0 : Fld Z h0 o0 "com/example/pulsekeep/pulsekeep/core/SubscriptionSettings" "priority" "I" u25) :
    MetFree l (⟨"com/example/pulsekeep/pulsekeep/core/SubscriptionSettings", "<init>", "(DJJJZI)V"⟩ : MethodName) (head1 (Jvm.Cond.code (⟨"com/example/pulsekeep/pulsekeep/core/SubscriptionSettings", "<init>", "(DJJJZI)V"⟩ : MethodName) prog_47_method_1_code 11 none :: ws) ({ frames := 2, cells := 0, slots := 0, locals := 24 } : Room)) (fun a U => a = #[(.ref o0), (.double d1), (.long q2), (.long q3), (.long q4), (.int p5), (.int p6)] ∧ Z.Warmed39 U.vm ∧ U.heap = h0) (fun _ _ _ _ _ => True) (fun _ U o U' => ∃ v L, o = .returned v ∧ Q1 Z o0 d1 q2 q3 q4 p5 p6 u2 u5 u10 u15 u20 u25 h0 n0 v U'.heap L ∧ FrameEnd U o U' L ({ frames := 2, cells := 0, slots := 0, locals := 24 } : Room).cells ({ frames := 2, cells := 0, slots := 0, locals := 24 } : Room).slots) := by
  refine MetFree.of_bodySF (plainFor_of_name pn_1) hisR ?_
  intro p e s m args below meth c s₁ Bd hml0 hP hK
  obtain ⟨rfl, hZ, hh⟩ := hP
  have hx := Bd.exec
  have hby := Bd.bytes
  have hml : c.maxLocals = 11 := hml0
  have hown : s.vm.findClass "com/example/pulsekeep/pulsekeep/core/SubscriptionSettings" = some m.cls := findClass_of_methodNamed Bd.named
  have hnm := (name_of_methodNamed Bd.named Bd.method).1
  have hrt := Bd.returns
  have hlk := Bd.notSynchronized
  have X0 : Stand p l e ({ frames := 2, cells := 0, slots := 0, locals := 24 } : Room) s m #[(.ref o0), (.double d1), (.long q2), (.long q3), (.long q4), (.int p5), (.int p6)] below meth c s₁ [] 0 0 := Stand.of_body Bd
  have e0 : s₁.heap = h0 := by rw [← hh, Bd.state]; rfl
  have N0 := Fr.nil n0
  have lt_F_publishingIntervalMs_o0 : LT.lt (α := Nat) o0 h0.size := F_publishingIntervalMs_o0.lt
  have lt_E_o0 : LT.lt (α := Nat) o0 h0.size := E_o0.lt
  have lt_F_lifetimeCount_o0 : LT.lt (α := Nat) o0 h0.size := F_lifetimeCount_o0.lt
  have lt_F_maxKeepAliveCount_o0 : LT.lt (α := Nat) o0 h0.size := F_maxKeepAliveCount_o0.lt
  have lt_F_maxNotificationsPerPublish_o0 : LT.lt (α := Nat) o0 h0.size := F_maxNotificationsPerPublish_o0.lt
  have lt_F_publishingEnabled_o0 : LT.lt (α := Nat) o0 h0.size := F_publishingEnabled_o0.lt
  have lt_F_priority_o0 : LT.lt (α := Nat) o0 h0.size := F_priority_o0.lt
  show Go p e below s 0 0 (Q1 Z o0 d1 q2 q3 q4 p5 p6 u2 u5 u10 u15 u20 u25 h0 n0) (s₁.setTop (entryFrame m #[(.ref o0), (.double d1), (.long q2), (.long q3), (.long q4), (.int p5), (.int p6)] 11))
  rw [ef_1 m o0 d1 q2 q3 q4 p5 p6]
  refine Go.pre (st' := s₁.setTop (mkF m 1 #[.val (.ref o0), .val (.double d1), .second, .val (.long q2), .second, .val (.long q3), .second, .val (.long q4), .second, .val (.int p5), .val (.int p6)] [(.ref o0)])) (fun target kt => ?_) ?_
  · show Steps p.tables e below (s₁.setTop (mkF m 0 #[.val (.ref o0), .val (.double d1), .second, .val (.long q2), .second, .val (.long q3), .second, .val (.long q4), .second, .val (.int p5), .val (.int p6)] [])) _
    refine XS.aloadN X0.here hx rfl (hb hby d1_0) rfl rfl ?_
    exact kt
  obtain ⟨_, _, ⟨T1, L1, k1, n1⟩, -, X1, ⟨Lc1, hQ1, l1, y1, z1⟩, st1⟩ := X0.specialBack hx (y := (⟨"java/lang/Record", "<init>", "()V"⟩ : MethodName)) rfl hown (mvT hZ (hw _ (List.mem_of_getElem? (i := 7) rfl))) (mvT hZ (hw _ (List.mem_of_getElem? (i := 8) rfl))) (mvT hZ (hw _ (List.mem_of_getElem? (i := 11) rfl))) (by decide) (backOf (W := 0) (rm2 l Z a0 hw [] o0 h0 n0 (by omega) ) hZ (hw _ (List.mem_of_getElem? (i := 11) rfl)) (hw _ (List.mem_of_getElem? (i := 10) rfl)) (by decide) (by decide)) (g := (mkF m 1 #[.val (.ref o0), .val (.double d1), .second, .val (.long q2), .second, .val (.long q3), .second, .val (.long q4), .second, .val (.int p5), .val (.int p6)] [(.ref o0)])) rfl (by rw [hml]; rfl) (Steps.refl _) (a := o0) (argsL := []) (rest := []) (lenOf pd1_0 rfl) rfl (by show 2 * 0 + _ ≤ _; exact Nat.le_of_eq rfl) (hb hby d1_1) (fun vm₁ hvm => ⟨rfl, e0, (by decide : 0 + 0 ≤ _), (by decide : 0 + 0 ≤ _)⟩)
  dsimp only [Pt.U, Pt.locs, Pt.cells, Pt.slots] at X1 l1 y1 z1 st1 hQ1
  subst l1 y1 z1
  obtain ⟨rfl, N1q, e1⟩ := hQ1
  have N1 := Fr.app N0 N1q
  refine Go.trans st1 ?_
  show Go p e below s _ _ _ (T1.setTop (mkF m 4 #[.val (.ref o0), .val (.double d1), .second, .val (.long q2), .second, .val (.long q3), .second, .val (.long q4), .second, .val (.int p5), .val (.int p6)] []))
  refine Go.pre (st' := T1.setTop (mkF m 6 #[.val (.ref o0), .val (.double d1), .second, .val (.long q2), .second, .val (.long q3), .second, .val (.long q4), .second, .val (.int p5), .val (.int p6)] [(.double d1), (.ref o0)])) (fun target kt => ?_) ?_
  · show Steps p.tables e below (T1.setTop (mkF m 4 #[.val (.ref o0), .val (.double d1), .second, .val (.long q2), .second, .val (.long q3), .second, .val (.long q4), .second, .val (.int p5), .val (.int p6)] [])) _
    refine XS.aloadN X1.here hx rfl (hb hby d1_4) rfl rfl ?_
    show Steps p.tables e below (T1.setTop (mkF m 5 #[.val (.ref o0), .val (.double d1), .second, .val (.long q2), .second, .val (.long q3), .second, .val (.long q4), .second, .val (.int p5), .val (.int p6)] [(.ref o0)])) _
    refine XS.dloadN X1.here hx rfl (hb hby d1_5) rfl ?_
    exact kt
  obtain ⟨T3, h3, X3, e3, W3, st3⟩ := putF X1 hx hZ hown (host := "") (Or.inl (hw _ (List.mem_of_getElem? (i := 15) rfl))) Via.refl e1 F_publishingIntervalMs_o0 E_o0 (Or.inr ⟨(hw _ (List.mem_of_getElem? (i := 16) rfl)), rfl, hnm⟩) (hw _ (List.mem_of_getElem? (i := 1) rfl)) (ty := .double) (by decide) rfl rfl (g := (mkF m 6 #[.val (.ref o0), .val (.double d1), .second, .val (.long q2), .second, .val (.long q3), .second, .val (.long q4), .second, .val (.int p5), .val (.int p6)] [(.double d1), (.ref o0)])) rfl rfl (hb hby d1_6)
  have sz3 : h0.size ≤ h3.size := (Keep.of_wr W3).1
  have Y4 : Fld Z h3 o0 "com/example/pulsekeep/pulsekeep/core/SubscriptionSettings" "publishingIntervalMs" "D" (.double d1) := F_publishingIntervalMs_o0.same W3
  have N3 := Fr.snoc X3 N1 (by omega)
  refine Go.pre st3 ?_
  show Go p e below s _ _ _ (T3.setTop (mkF m 9 #[.val (.ref o0), .val (.double d1), .second, .val (.long q2), .second, .val (.long q3), .second, .val (.long q4), .second, .val (.int p5), .val (.int p6)] []))
  refine Go.pre (st' := T3.setTop (mkF m 11 #[.val (.ref o0), .val (.double d1), .second, .val (.long q2), .second, .val (.long q3), .second, .val (.long q4), .second, .val (.int p5), .val (.int p6)] [(.long q2), (.ref o0)])) (fun target kt => ?_) ?_
  · show Steps p.tables e below (T3.setTop (mkF m 9 #[.val (.ref o0), .val (.double d1), .second, .val (.long q2), .second, .val (.long q3), .second, .val (.long q4), .second, .val (.int p5), .val (.int p6)] [])) _
    refine XS.aloadN X3.here hx rfl (hb hby d1_9) rfl rfl ?_
    show Steps p.tables e below (T3.setTop (mkF m 10 #[.val (.ref o0), .val (.double d1), .second, .val (.long q2), .second, .val (.long q3), .second, .val (.long q4), .second, .val (.int p5), .val (.int p6)] [(.ref o0)])) _
    refine XS.lloadN X3.here hx rfl (hb hby d1_10) rfl ?_
    exact kt
  have Y6 : Fld Z h3 o0 "com/example/pulsekeep/pulsekeep/core/SubscriptionSettings" "lifetimeCount" "J" u5 := (F_lifetimeCount_o0.other W3 (Or.inr (slot_ne (Or.inr (hw _ (List.mem_of_getElem? (i := 18) rfl))) (Or.inr (hw _ (List.mem_of_getElem? (i := 16) rfl))) (by decide) (t := .long) (t' := .double) (by decide) (by decide))))
  have Y7 : Exa Z h3 o0 "com/example/pulsekeep/pulsekeep/core/SubscriptionSettings" := (E_o0.wr W3)
  obtain ⟨T8, h8, X8, e8, W8, st8⟩ := putF X3 hx hZ hown (host := "") (Or.inl (hw _ (List.mem_of_getElem? (i := 17) rfl))) Via.refl e3 Y6 Y7 (Or.inr ⟨(hw _ (List.mem_of_getElem? (i := 18) rfl)), rfl, hnm⟩) (hw _ (List.mem_of_getElem? (i := 1) rfl)) (ty := .long) (by decide) rfl rfl (g := (mkF m 11 #[.val (.ref o0), .val (.double d1), .second, .val (.long q2), .second, .val (.long q3), .second, .val (.long q4), .second, .val (.int p5), .val (.int p6)] [(.long q2), (.ref o0)])) rfl rfl (hb hby d1_11)
  have sz8 : h3.size ≤ h8.size := (Keep.of_wr W8).1
  have Y9 : Fld Z h8 o0 "com/example/pulsekeep/pulsekeep/core/SubscriptionSettings" "lifetimeCount" "J" (.long q2) := Y6.same W8
  have N8 := Fr.snoc X8 N3 (by omega)
  refine Go.pre st8 ?_
  show Go p e below s _ _ _ (T8.setTop (mkF m 14 #[.val (.ref o0), .val (.double d1), .second, .val (.long q2), .second, .val (.long q3), .second, .val (.long q4), .second, .val (.int p5), .val (.int p6)] []))
  refine Go.pre (st' := T8.setTop (mkF m 17 #[.val (.ref o0), .val (.double d1), .second, .val (.long q2), .second, .val (.long q3), .second, .val (.long q4), .second, .val (.int p5), .val (.int p6)] [(.long q3), (.ref o0)])) (fun target kt => ?_) ?_
  · show Steps p.tables e below (T8.setTop (mkF m 14 #[.val (.ref o0), .val (.double d1), .second, .val (.long q2), .second, .val (.long q3), .second, .val (.long q4), .second, .val (.int p5), .val (.int p6)] [])) _
    refine XS.aloadN X8.here hx rfl (hb hby d1_14) rfl rfl ?_
    show Steps p.tables e below (T8.setTop (mkF m 15 #[.val (.ref o0), .val (.double d1), .second, .val (.long q2), .second, .val (.long q3), .second, .val (.long q4), .second, .val (.int p5), .val (.int p6)] [(.ref o0)])) _
    refine XS.lload X8.here hx rfl (hb hby d1_15) rfl ?_
    exact kt
  have Y11 : Fld Z h8 o0 "com/example/pulsekeep/pulsekeep/core/SubscriptionSettings" "maxKeepAliveCount" "J" u10 := ((F_maxKeepAliveCount_o0.other W3 (Or.inr (slot_ne (Or.inr (hw _ (List.mem_of_getElem? (i := 20) rfl))) (Or.inr (hw _ (List.mem_of_getElem? (i := 16) rfl))) (by decide) (t := .long) (t' := .double) (by decide) (by decide)))).other W8 (Or.inr (slot_ne (Or.inr (hw _ (List.mem_of_getElem? (i := 20) rfl))) (Or.inr (hw _ (List.mem_of_getElem? (i := 18) rfl))) (by decide) (t := .long) (t' := .long) (by decide) (by decide))))
  have Y12 : Exa Z h8 o0 "com/example/pulsekeep/pulsekeep/core/SubscriptionSettings" := (Y7.wr W8)
  obtain ⟨T13, h13, X13, e13, W13, st13⟩ := putF X8 hx hZ hown (host := "") (Or.inl (hw _ (List.mem_of_getElem? (i := 19) rfl))) Via.refl e8 Y11 Y12 (Or.inr ⟨(hw _ (List.mem_of_getElem? (i := 20) rfl)), rfl, hnm⟩) (hw _ (List.mem_of_getElem? (i := 1) rfl)) (ty := .long) (by decide) rfl rfl (g := (mkF m 17 #[.val (.ref o0), .val (.double d1), .second, .val (.long q2), .second, .val (.long q3), .second, .val (.long q4), .second, .val (.int p5), .val (.int p6)] [(.long q3), (.ref o0)])) rfl rfl (hb hby d1_17)
  have sz13 : h8.size ≤ h13.size := (Keep.of_wr W13).1
  have Y14 : Fld Z h13 o0 "com/example/pulsekeep/pulsekeep/core/SubscriptionSettings" "maxKeepAliveCount" "J" (.long q3) := Y11.same W13
  have N13 := Fr.snoc X13 N8 (by omega)
  refine Go.pre st13 ?_
  show Go p e below s _ _ _ (T13.setTop (mkF m 20 #[.val (.ref o0), .val (.double d1), .second, .val (.long q2), .second, .val (.long q3), .second, .val (.long q4), .second, .val (.int p5), .val (.int p6)] []))
  refine Go.pre (st' := T13.setTop (mkF m 23 #[.val (.ref o0), .val (.double d1), .second, .val (.long q2), .second, .val (.long q3), .second, .val (.long q4), .second, .val (.int p5), .val (.int p6)] [(.long q4), (.ref o0)])) (fun target kt => ?_) ?_
  · show Steps p.tables e below (T13.setTop (mkF m 20 #[.val (.ref o0), .val (.double d1), .second, .val (.long q2), .second, .val (.long q3), .second, .val (.long q4), .second, .val (.int p5), .val (.int p6)] [])) _
    refine XS.aloadN X13.here hx rfl (hb hby d1_20) rfl rfl ?_
    show Steps p.tables e below (T13.setTop (mkF m 21 #[.val (.ref o0), .val (.double d1), .second, .val (.long q2), .second, .val (.long q3), .second, .val (.long q4), .second, .val (.int p5), .val (.int p6)] [(.ref o0)])) _
    refine XS.lload X13.here hx rfl (hb hby d1_21) rfl ?_
    exact kt
  have Y16 : Fld Z h13 o0 "com/example/pulsekeep/pulsekeep/core/SubscriptionSettings" "maxNotificationsPerPublish" "J" u15 := (((F_maxNotificationsPerPublish_o0.other W3 (Or.inr (slot_ne (Or.inr (hw _ (List.mem_of_getElem? (i := 22) rfl))) (Or.inr (hw _ (List.mem_of_getElem? (i := 16) rfl))) (by decide) (t := .long) (t' := .double) (by decide) (by decide)))).other W8 (Or.inr (slot_ne (Or.inr (hw _ (List.mem_of_getElem? (i := 22) rfl))) (Or.inr (hw _ (List.mem_of_getElem? (i := 18) rfl))) (by decide) (t := .long) (t' := .long) (by decide) (by decide)))).other W13 (Or.inr (slot_ne (Or.inr (hw _ (List.mem_of_getElem? (i := 22) rfl))) (Or.inr (hw _ (List.mem_of_getElem? (i := 20) rfl))) (by decide) (t := .long) (t' := .long) (by decide) (by decide))))
  have Y17 : Exa Z h13 o0 "com/example/pulsekeep/pulsekeep/core/SubscriptionSettings" := (Y12.wr W13)
  obtain ⟨T18, h18, X18, e18, W18, st18⟩ := putF X13 hx hZ hown (host := "") (Or.inl (hw _ (List.mem_of_getElem? (i := 21) rfl))) Via.refl e13 Y16 Y17 (Or.inr ⟨(hw _ (List.mem_of_getElem? (i := 22) rfl)), rfl, hnm⟩) (hw _ (List.mem_of_getElem? (i := 1) rfl)) (ty := .long) (by decide) rfl rfl (g := (mkF m 23 #[.val (.ref o0), .val (.double d1), .second, .val (.long q2), .second, .val (.long q3), .second, .val (.long q4), .second, .val (.int p5), .val (.int p6)] [(.long q4), (.ref o0)])) rfl rfl (hb hby d1_23)
  have sz18 : h13.size ≤ h18.size := (Keep.of_wr W18).1
  have Y19 : Fld Z h18 o0 "com/example/pulsekeep/pulsekeep/core/SubscriptionSettings" "maxNotificationsPerPublish" "J" (.long q4) := Y16.same W18
  have N18 := Fr.snoc X18 N13 (by omega)
  refine Go.pre st18 ?_
  show Go p e below s _ _ _ (T18.setTop (mkF m 26 #[.val (.ref o0), .val (.double d1), .second, .val (.long q2), .second, .val (.long q3), .second, .val (.long q4), .second, .val (.int p5), .val (.int p6)] []))
  refine Go.pre (st' := T18.setTop (mkF m 29 #[.val (.ref o0), .val (.double d1), .second, .val (.long q2), .second, .val (.long q3), .second, .val (.long q4), .second, .val (.int p5), .val (.int p6)] [(.int p5), (.ref o0)])) (fun target kt => ?_) ?_
  · show Steps p.tables e below (T18.setTop (mkF m 26 #[.val (.ref o0), .val (.double d1), .second, .val (.long q2), .second, .val (.long q3), .second, .val (.long q4), .second, .val (.int p5), .val (.int p6)] [])) _
    refine XS.aloadN X18.here hx rfl (hb hby d1_26) rfl rfl ?_
    show Steps p.tables e below (T18.setTop (mkF m 27 #[.val (.ref o0), .val (.double d1), .second, .val (.long q2), .second, .val (.long q3), .second, .val (.long q4), .second, .val (.int p5), .val (.int p6)] [(.ref o0)])) _
    refine XS.iload X18.here hx rfl (hb hby d1_27) rfl ?_
    exact kt
  have Y21 : Fld Z h18 o0 "com/example/pulsekeep/pulsekeep/core/SubscriptionSettings" "publishingEnabled" "Z" u20 := ((((F_publishingEnabled_o0.other W3 (Or.inr (slot_ne (Or.inr (hw _ (List.mem_of_getElem? (i := 24) rfl))) (Or.inr (hw _ (List.mem_of_getElem? (i := 16) rfl))) (by decide) (t := .boolean) (t' := .double) (by decide) (by decide)))).other W8 (Or.inr (slot_ne (Or.inr (hw _ (List.mem_of_getElem? (i := 24) rfl))) (Or.inr (hw _ (List.mem_of_getElem? (i := 18) rfl))) (by decide) (t := .boolean) (t' := .long) (by decide) (by decide)))).other W13 (Or.inr (slot_ne (Or.inr (hw _ (List.mem_of_getElem? (i := 24) rfl))) (Or.inr (hw _ (List.mem_of_getElem? (i := 20) rfl))) (by decide) (t := .boolean) (t' := .long) (by decide) (by decide)))).other W18 (Or.inr (slot_ne (Or.inr (hw _ (List.mem_of_getElem? (i := 24) rfl))) (Or.inr (hw _ (List.mem_of_getElem? (i := 22) rfl))) (by decide) (t := .boolean) (t' := .long) (by decide) (by decide))))
  have Y22 : Exa Z h18 o0 "com/example/pulsekeep/pulsekeep/core/SubscriptionSettings" := (Y17.wr W18)
  obtain ⟨T23, h23, X23, e23, W23, st23⟩ := putFN X18 hx hZ hown (hw _ (List.mem_of_getElem? (i := 23) rfl)) Via.refl e18 Y21 Y22 (Or.inr ⟨(hw _ (List.mem_of_getElem? (i := 24) rfl)), rfl, hnm⟩) (hw _ (List.mem_of_getElem? (i := 1) rfl)) (ty := .boolean) (v' := (.int (p5 &&& 1))) (by decide) rfl (fits_nar_bool _) (g := (mkF m 29 #[.val (.ref o0), .val (.double d1), .second, .val (.long q2), .second, .val (.long q3), .second, .val (.long q4), .second, .val (.int p5), .val (.int p6)] [(.int p5), (.ref o0)])) rfl rfl (hb hby d1_29)
  have sz23 : h18.size ≤ h23.size := (Keep.of_wr W23).1
  have Y24 : Fld Z h23 o0 "com/example/pulsekeep/pulsekeep/core/SubscriptionSettings" "publishingEnabled" "Z" (.int (p5 &&& 1)) := Y21.same W23
  have N23 := Fr.snoc X23 N18 (by omega)
  refine Go.pre st23 ?_
  show Go p e below s _ _ _ (T23.setTop (mkF m 32 #[.val (.ref o0), .val (.double d1), .second, .val (.long q2), .second, .val (.long q3), .second, .val (.long q4), .second, .val (.int p5), .val (.int p6)] []))
  refine Go.pre (st' := T23.setTop (mkF m 35 #[.val (.ref o0), .val (.double d1), .second, .val (.long q2), .second, .val (.long q3), .second, .val (.long q4), .second, .val (.int p5), .val (.int p6)] [(.int p6), (.ref o0)])) (fun target kt => ?_) ?_
  · show Steps p.tables e below (T23.setTop (mkF m 32 #[.val (.ref o0), .val (.double d1), .second, .val (.long q2), .second, .val (.long q3), .second, .val (.long q4), .second, .val (.int p5), .val (.int p6)] [])) _
    refine XS.aloadN X23.here hx rfl (hb hby d1_32) rfl rfl ?_
    show Steps p.tables e below (T23.setTop (mkF m 33 #[.val (.ref o0), .val (.double d1), .second, .val (.long q2), .second, .val (.long q3), .second, .val (.long q4), .second, .val (.int p5), .val (.int p6)] [(.ref o0)])) _
    refine XS.iload X23.here hx rfl (hb hby d1_33) rfl ?_
    exact kt
  have Y26 : Fld Z h23 o0 "com/example/pulsekeep/pulsekeep/core/SubscriptionSettings" "priority" "I" u25 := (((((F_priority_o0.other W3 (Or.inr (slot_ne (Or.inr (hw _ (List.mem_of_getElem? (i := 26) rfl))) (Or.inr (hw _ (List.mem_of_getElem? (i := 16) rfl))) (by decide) (t := .int) (t' := .double) (by decide) (by decide)))).other W8 (Or.inr (slot_ne (Or.inr (hw _ (List.mem_of_getElem? (i := 26) rfl))) (Or.inr (hw _ (List.mem_of_getElem? (i := 18) rfl))) (by decide) (t := .int) (t' := .long) (by decide) (by decide)))).other W13 (Or.inr (slot_ne (Or.inr (hw _ (List.mem_of_getElem? (i := 26) rfl))) (Or.inr (hw _ (List.mem_of_getElem? (i := 20) rfl))) (by decide) (t := .int) (t' := .long) (by decide) (by decide)))).other W18 (Or.inr (slot_ne (Or.inr (hw _ (List.mem_of_getElem? (i := 26) rfl))) (Or.inr (hw _ (List.mem_of_getElem? (i := 22) rfl))) (by decide) (t := .int) (t' := .long) (by decide) (by decide)))).other W23 (Or.inr (slot_ne (Or.inr (hw _ (List.mem_of_getElem? (i := 26) rfl))) (Or.inr (hw _ (List.mem_of_getElem? (i := 24) rfl))) (by decide) (t := .int) (t' := .boolean) (by decide) (by decide))))
  have Y27 : Exa Z h23 o0 "com/example/pulsekeep/pulsekeep/core/SubscriptionSettings" := (Y22.wr W23)
  obtain ⟨T28, h28, X28, e28, W28, st28⟩ := putF X23 hx hZ hown (host := "") (Or.inl (hw _ (List.mem_of_getElem? (i := 25) rfl))) Via.refl e23 Y26 Y27 (Or.inr ⟨(hw _ (List.mem_of_getElem? (i := 26) rfl)), rfl, hnm⟩) (hw _ (List.mem_of_getElem? (i := 1) rfl)) (ty := .int) (by decide) rfl rfl (g := (mkF m 35 #[.val (.ref o0), .val (.double d1), .second, .val (.long q2), .second, .val (.long q3), .second, .val (.long q4), .second, .val (.int p5), .val (.int p6)] [(.int p6), (.ref o0)])) rfl rfl (hb hby d1_35)
  have sz28 : h23.size ≤ h28.size := (Keep.of_wr W28).1
  have Y29 : Fld Z h28 o0 "com/example/pulsekeep/pulsekeep/core/SubscriptionSettings" "priority" "I" (.int p6) := Y26.same W28
  have N28 := Fr.snoc X28 N23 (by omega)
  refine Go.pre st28 ?_
  show Go p e below s _ _ _ (T28.setTop (mkF m 38 #[.val (.ref o0), .val (.double d1), .second, .val (.long q2), .second, .val (.long q3), .second, .val (.long q4), .second, .val (.int p5), .val (.int p6)] []))
  have Y30 : Fld Z h28 o0 "com/example/pulsekeep/pulsekeep/core/SubscriptionSettings" "publishingIntervalMs" "D" (.double d1) := (((((Y4.other W8 (Or.inr (slot_ne (Or.inr (hw _ (List.mem_of_getElem? (i := 16) rfl))) (Or.inr (hw _ (List.mem_of_getElem? (i := 18) rfl))) (by decide) (t := .double) (t' := .long) (by decide) (by decide)))).other W13 (Or.inr (slot_ne (Or.inr (hw _ (List.mem_of_getElem? (i := 16) rfl))) (Or.inr (hw _ (List.mem_of_getElem? (i := 20) rfl))) (by decide) (t := .double) (t' := .long) (by decide) (by decide)))).other W18 (Or.inr (slot_ne (Or.inr (hw _ (List.mem_of_getElem? (i := 16) rfl))) (Or.inr (hw _ (List.mem_of_getElem? (i := 22) rfl))) (by decide) (t := .double) (t' := .long) (by decide) (by decide)))).other W23 (Or.inr (slot_ne (Or.inr (hw _ (List.mem_of_getElem? (i := 16) rfl))) (Or.inr (hw _ (List.mem_of_getElem? (i := 24) rfl))) (by decide) (t := .double) (t' := .boolean) (by decide) (by decide)))).other W28 (Or.inr (slot_ne (Or.inr (hw _ (List.mem_of_getElem? (i := 16) rfl))) (Or.inr (hw _ (List.mem_of_getElem? (i := 26) rfl))) (by decide) (t := .double) (t' := .int) (by decide) (by decide))))
  have Y31 : Fld Z h28 o0 "com/example/pulsekeep/pulsekeep/core/SubscriptionSettings" "lifetimeCount" "J" (.long q2) := ((((Y9.other W13 (Or.inr (slot_ne (Or.inr (hw _ (List.mem_of_getElem? (i := 18) rfl))) (Or.inr (hw _ (List.mem_of_getElem? (i := 20) rfl))) (by decide) (t := .long) (t' := .long) (by decide) (by decide)))).other W18 (Or.inr (slot_ne (Or.inr (hw _ (List.mem_of_getElem? (i := 18) rfl))) (Or.inr (hw _ (List.mem_of_getElem? (i := 22) rfl))) (by decide) (t := .long) (t' := .long) (by decide) (by decide)))).other W23 (Or.inr (slot_ne (Or.inr (hw _ (List.mem_of_getElem? (i := 18) rfl))) (Or.inr (hw _ (List.mem_of_getElem? (i := 24) rfl))) (by decide) (t := .long) (t' := .boolean) (by decide) (by decide)))).other W28 (Or.inr (slot_ne (Or.inr (hw _ (List.mem_of_getElem? (i := 18) rfl))) (Or.inr (hw _ (List.mem_of_getElem? (i := 26) rfl))) (by decide) (t := .long) (t' := .int) (by decide) (by decide))))
  have Y32 : Fld Z h28 o0 "com/example/pulsekeep/pulsekeep/core/SubscriptionSettings" "maxKeepAliveCount" "J" (.long q3) := (((Y14.other W18 (Or.inr (slot_ne (Or.inr (hw _ (List.mem_of_getElem? (i := 20) rfl))) (Or.inr (hw _ (List.mem_of_getElem? (i := 22) rfl))) (by decide) (t := .long) (t' := .long) (by decide) (by decide)))).other W23 (Or.inr (slot_ne (Or.inr (hw _ (List.mem_of_getElem? (i := 20) rfl))) (Or.inr (hw _ (List.mem_of_getElem? (i := 24) rfl))) (by decide) (t := .long) (t' := .boolean) (by decide) (by decide)))).other W28 (Or.inr (slot_ne (Or.inr (hw _ (List.mem_of_getElem? (i := 20) rfl))) (Or.inr (hw _ (List.mem_of_getElem? (i := 26) rfl))) (by decide) (t := .long) (t' := .int) (by decide) (by decide))))
  have Y33 : Fld Z h28 o0 "com/example/pulsekeep/pulsekeep/core/SubscriptionSettings" "maxNotificationsPerPublish" "J" (.long q4) := ((Y19.other W23 (Or.inr (slot_ne (Or.inr (hw _ (List.mem_of_getElem? (i := 22) rfl))) (Or.inr (hw _ (List.mem_of_getElem? (i := 24) rfl))) (by decide) (t := .long) (t' := .boolean) (by decide) (by decide)))).other W28 (Or.inr (slot_ne (Or.inr (hw _ (List.mem_of_getElem? (i := 22) rfl))) (Or.inr (hw _ (List.mem_of_getElem? (i := 26) rfl))) (by decide) (t := .long) (t' := .int) (by decide) (by decide))))
  have Y34 : Fld Z h28 o0 "com/example/pulsekeep/pulsekeep/core/SubscriptionSettings" "publishingEnabled" "Z" (.int (p5 &&& 1)) := (Y24.other W28 (Or.inr (slot_ne (Or.inr (hw _ (List.mem_of_getElem? (i := 24) rfl))) (Or.inr (hw _ (List.mem_of_getElem? (i := 26) rfl))) (by decide) (t := .boolean) (t' := .int) (by decide) (by decide))))
  exact Go.ret0 X28 hx hlk hrt (hb hby d1_38) (by decide) (by decide) (by rw [e28]; exact ⟨rfl, N28, (((((((Keep.refl h0 [o0]).wr W3 (Or.inl (List.mem_of_getElem? (i := 0) rfl))).wr W8 (Or.inl (List.mem_of_getElem? (i := 0) rfl))).wr W13 (Or.inl (List.mem_of_getElem? (i := 0) rfl))).wr W18 (Or.inl (List.mem_of_getElem? (i := 0) rfl))).wr W23 (Or.inl (List.mem_of_getElem? (i := 0) rfl))).wr W28 (Or.inl (List.mem_of_getElem? (i := 0) rfl))), (((((((KF.refl Z h0 [(o0, Jvm.RoadKit.slotOf Z "com/example/pulsekeep/pulsekeep/core/SubscriptionSettings" "publishingIntervalMs" "D"), (o0, Jvm.RoadKit.slotOf Z "com/example/pulsekeep/pulsekeep/core/SubscriptionSettings" "lifetimeCount" "J"), (o0, Jvm.RoadKit.slotOf Z "com/example/pulsekeep/pulsekeep/core/SubscriptionSettings" "maxKeepAliveCount" "J"), (o0, Jvm.RoadKit.slotOf Z "com/example/pulsekeep/pulsekeep/core/SubscriptionSettings" "maxNotificationsPerPublish" "J"), (o0, Jvm.RoadKit.slotOf Z "com/example/pulsekeep/pulsekeep/core/SubscriptionSettings" "publishingEnabled" "Z"), (o0, Jvm.RoadKit.slotOf Z "com/example/pulsekeep/pulsekeep/core/SubscriptionSettings" "priority" "I")]).wr W3 (Or.inl (List.mem_of_getElem? (i := 0) rfl))).wr W8 (Or.inl (List.mem_of_getElem? (i := 1) rfl))).wr W13 (Or.inl (List.mem_of_getElem? (i := 2) rfl))).wr W18 (Or.inl (List.mem_of_getElem? (i := 3) rfl))).wr W23 (Or.inl (List.mem_of_getElem? (i := 4) rfl))).wr W28 (Or.inl (List.mem_of_getElem? (i := 5) rfl))), Y30, Y31, Y32, Y33, Y34, Y29⟩)
/-! Subscription.<init> (9) -/
theorem d9_0 : decode prog_45_method_1_code 0 = .ok (.aload_n 0, 1) := by decide +kernel
theorem d9_1 : decode prog_45_method_1_code 1 = .ok (.invokespecial 1, 3) := by decide +kernel
theorem d9_4 : decode prog_45_method_1_code 4 = .ok (.aload_n 0, 1) := by decide +kernel
theorem d9_5 : decode prog_45_method_1_code 5 = .ok (.new 7, 3) := by decide +kernel
theorem d9_8 : decode prog_45_method_1_code 8 = .ok (.dup, 1) := by decide +kernel
theorem d9_9 : decode prog_45_method_1_code 9 = .ok (.invokespecial 9, 3) := by decide +kernel
theorem d9_12 : decode prog_45_method_1_code 12 = .ok (.putfield 10, 3) := by decide +kernel
theorem d9_15 : decode prog_45_method_1_code 15 = .ok (.aload_n 0, 1) := by decide +kernel
theorem d9_16 : decode prog_45_method_1_code 16 = .ok (.new 16, 3) := by decide +kernel
theorem d9_19 : decode prog_45_method_1_code 19 = .ok (.dup, 1) := by decide +kernel
theorem d9_20 : decode prog_45_method_1_code 20 = .ok (.invokespecial 18, 3) := by decide +kernel
theorem d9_23 : decode prog_45_method_1_code 23 = .ok (.putfield 19, 3) := by decide +kernel
theorem d9_26 : decode prog_45_method_1_code 26 = .ok (.aload_n 0, 1) := by decide +kernel
theorem d9_27 : decode prog_45_method_1_code 27 = .ok (.invokedynamic 23, 5) := by decide +kernel
theorem d9_32 : decode prog_45_method_1_code 32 = .ok (.putfield 27, 3) := by decide +kernel
theorem d9_35 : decode prog_45_method_1_code 35 = .ok (.aload_n 0, 1) := by decide +kernel
theorem d9_36 : decode prog_45_method_1_code 36 = .ok (.lconst 1, 1) := by decide +kernel
theorem d9_37 : decode prog_45_method_1_code 37 = .ok (.putfield 31, 3) := by decide +kernel
theorem d9_40 : decode prog_45_method_1_code 40 = .ok (.aload_n 0, 1) := by decide +kernel
theorem d9_41 : decode prog_45_method_1_code 41 = .ok (.lconst 1, 1) := by decide +kernel
theorem d9_42 : decode prog_45_method_1_code 42 = .ok (.putfield 35, 3) := by decide +kernel
theorem d9_45 : decode prog_45_method_1_code 45 = .ok (.aload_n 0, 1) := by decide +kernel
theorem d9_46 : decode prog_45_method_1_code 46 = .ok (.iconst (-1), 1) := by decide +kernel
theorem d9_47 : decode prog_45_method_1_code 47 = .ok (.putfield 38, 3) := by decide +kernel
theorem d9_50 : decode prog_45_method_1_code 50 = .ok (.aload_n 0, 1) := by decide +kernel
theorem d9_51 : decode prog_45_method_1_code 51 = .ok (.lload_n 1, 1) := by decide +kernel
theorem d9_52 : decode prog_45_method_1_code 52 = .ok (.putfield 42, 3) := by decide +kernel
theorem d9_55 : decode prog_45_method_1_code 55 = .ok (.aload_n 0, 1) := by decide +kernel
theorem d9_56 : decode prog_45_method_1_code 56 = .ok (.aload_n 3, 1) := by decide +kernel
theorem d9_57 : decode prog_45_method_1_code 57 = .ok (.putfield 45, 3) := by decide +kernel
theorem d9_60 : decode prog_45_method_1_code 60 = .ok (.aload_n 0, 1) := by decide +kernel
theorem d9_61 : decode prog_45_method_1_code 61 = .ok (.aload 4, 2) := by decide +kernel
theorem d9_63 : decode prog_45_method_1_code 63 = .ok (.putfield 49, 3) := by decide +kernel
theorem d9_66 : decode prog_45_method_1_code 66 = .ok (.return_, 1) := by decide +kernel
theorem pn_9 : plainName "com/example/pulsekeep/pulsekeep/core/Subscription" = true := by first | (simp [plainName, overriddenIn]; done) | decide +kernel
theorem pd9_0 : parseMethodDescriptor "()V" = some ⟨[], none⟩ := by decide +kernel
theorem ef_9 (m : MethodId) (o0 : Addr) (q1 : Int64) (o2 : Addr) (o3 : Addr) : entryFrame m #[(.ref o0), (.long q1), (.ref o2), (.ref o3)] 5 = (mkF m 0 #[.val (.ref o0), .val (.long q1), .second, .val (.ref o2), .val (.ref o3)] []) := by first | (simp [entryFrame, mkF, argsToLocals, Value.category]; done) | rfl
def Q9 (Z : State) (o0 : Addr) (q1 : Int64) (o2 : Addr) (o3 : Addr) (z4 : Addr) (u6 : Value) (u13 : Value) (u19 : Value) (u24 : Value) (u29 : Value) (u34 : Value) (u39 : Value) (u44 : Value) (u49 : Value) (h0 : Heap) (n0 : Nat) (v : Option Value) (h : Heap) (L : List Loc) : Prop := ∃ b2 : Addr, ∃ b11 : Addr, v = none ∧ Fr n0 L ∧ Keep h0 h [o0] ∧ KF Z h0 h [(o0, Jvm.RoadKit.slotOf Z "com/example/pulsekeep/pulsekeep/core/Subscription" "items" "Ljava/util/List;"), (o0, Jvm.RoadKit.slotOf Z "com/example/pulsekeep/pulsekeep/core/Subscription" "valueBudget" "Lcom/example/pulsekeep/pulsekeep/core/MonitoredItem$ValueBudget;"), (o0, Jvm.RoadKit.slotOf Z "com/example/pulsekeep/pulsekeep/core/Subscription" "stopPacing" "Ljava/lang/Runnable;"), (o0, Jvm.RoadKit.slotOf Z "com/example/pulsekeep/pulsekeep/core/Subscription" "nextItemId" "J"), (o0, Jvm.RoadKit.slotOf Z "com/example/pulsekeep/pulsekeep/core/Subscription" "nextSequenceNumber" "J"), (o0, Jvm.RoadKit.slotOf Z "com/example/pulsekeep/pulsekeep/core/Subscription" "nextPartAt" "I"), (o0, Jvm.RoadKit.slotOf Z "com/example/pulsekeep/pulsekeep/core/Subscription" "id" "J"), (o0, Jvm.RoadKit.slotOf Z "com/example/pulsekeep/pulsekeep/core/Subscription" "owner" "Lcom/example/pulsekeep/pulsekeep/core/Subscriber;"), (o0, Jvm.RoadKit.slotOf Z "com/example/pulsekeep/pulsekeep/core/Subscription" "settings" "Lcom/example/pulsekeep/pulsekeep/core/SubscriptionSettings;")] ∧ LE.le (α := Nat) h0.size b2 ∧ LT.lt (α := Nat) b2 h.size ∧ LE.le (α := Nat) h0.size b11 ∧ LT.lt (α := Nat) b11 h.size ∧ LT.lt (α := Nat) b2 b11 ∧ Fld Z h o0 "com/example/pulsekeep/pulsekeep/core/Subscription" "items" "Ljava/util/List;" (.ref b2) ∧ Fld Z h o0 "com/example/pulsekeep/pulsekeep/core/Subscription" "valueBudget" "Lcom/example/pulsekeep/pulsekeep/core/MonitoredItem$ValueBudget;" (.ref b11) ∧ Fld Z h o0 "com/example/pulsekeep/pulsekeep/core/Subscription" "nextItemId" "J" (.long (1 : Int64)) ∧ Fld Z h o0 "com/example/pulsekeep/pulsekeep/core/Subscription" "nextSequenceNumber" "J" (.long (1 : Int64)) ∧ Fld Z h o0 "com/example/pulsekeep/pulsekeep/core/Subscription" "nextPartAt" "I" (.int (-1 : Int32)) ∧ Fld Z h o0 "com/example/pulsekeep/pulsekeep/core/Subscription" "id" "J" (.long q1) ∧ Fld Z h o0 "com/example/pulsekeep/pulsekeep/core/Subscription" "owner" "Lcom/example/pulsekeep/pulsekeep/core/Subscriber;" (.ref o2) ∧ Fld Z h o0 "com/example/pulsekeep/pulsekeep/core/Subscription" "settings" "Lcom/example/pulsekeep/pulsekeep/core/SubscriptionSettings;" (.ref o3) ∧ Exa Z h b2 "java/util/ArrayList" ∧ Fld Z h b2 "java/util/ArrayList" "size" "I" (.int (0 : Int32)) ∧ Fld Z h b2 "java/util/AbstractList" "modCount" "I" (.int (0 : Int32)) ∧ Fld Z h b2 "java/util/ArrayList" "elementData" "[Ljava/lang/Object;" (.ref z4) ∧ Exa Z h b11 "com/example/pulsekeep/pulsekeep/core/MonitoredItem$ValueBudget"
set_option maxRecDepth 65536 in
set_option maxHeartbeats 40000000 in
theorem rm9 (l : Launch) (Z : State) (a0 : Array Value) (hw : ∀ d ∈ tables_1, d.before a0 Z = true) (ws : List Jvm.Cond) (o0 : Addr) (q1 : Int64) (o2 : Addr) (o3 : Addr) (z4 : Addr) (u6 : Value) (u13 : Value) (u19 : Value) (u24 : Value) (u29 : Value) (u34 : Value) (u39 : Value) (u44 : Value) (u49 : Value) (h0 : Heap) (n0 : Nat) (Z0 : n0 ≤ h0.size) (S_DEFAULTCAPACITY_EMPTY_ELEMENTDATA : Sta Z Z.heap "java/util/ArrayList" "DEFAULTCAPACITY_EMPTY_ELEMENTDATA" "[Ljava/lang/Object;" (.ref z4)) (Ol : Old Z n0 h0) (F_items_o0 : Fld Z h0 o0 "com/example/pulsekeep/pulsekeep/core/Subscription" "items" "Ljava/util/List;" u6) (E_o0 : Exa Z h0 o0 "com/example/pulsekeep/pulsekeep/core/Subscription") (g_o0 : n0 ≤ o0) (F_valueBudget_o0 : Fld Z h0 o0 "com/example/pulsekeep/pulsekeep/core/Subscription" "valueBudget" "Lcom/example/pulsekeep/pulsekeep/core/MonitoredItem$ValueBudget;" u13) (F_stopPacing_o0 : Fld Z h0 o0 "com/example/pulsekeep/pulsekeep/core/Subscription" "stopPacing" "Ljava/lang/Runnable;" u19) (F_nextItemId_o0 : Fld Z h0 o0 "com/example/pulsekeep/pulsekeep/core/Subscription" "nextItemId" "J" u24) (F_nextSequenceNumber_o0 : Fld Z h0 o0 "com/example/pulsekeep/pulsekeep/core/Subscription" "nextSequenceNumber" "J" u29) (F_nextPartAt_o0 : Fld Z h0 o0 "com/example/pulsekeep/pulsekeep/core/Subscription" "nextPartAt" "I" u34) (F_id_o0 : Fld Z h0 o0 "com/example/pulsekeep/pulsekeep/core/Subscription" "id" "J" u39) (F_owner_o0 : Fld Z h0 o0 "com/example/pulsekeep/pulsekeep/core/Subscription" "owner" "Lcom/example/pulsekeep/pulsekeep/core/Subscriber;" u44) (F_settings_o0 : Fld Z h0 o0 "com/example/pulsekeep/pulsekeep/core/Subscription" "settings" "Lcom/example/pulsekeep/pulsekeep/core/SubscriptionSettings;" u49) :
    MetFree l (⟨"com/example/pulsekeep/pulsekeep/core/Subscription", "<init>", "(JLcom/example/pulsekeep/pulsekeep/core/Subscriber;Lcom/example/pulsekeep/pulsekeep/core/SubscriptionSettings;)V"⟩ : MethodName) (head1 (Jvm.Cond.code (⟨"com/example/pulsekeep/pulsekeep/core/Subscription", "<init>", "(JLcom/example/pulsekeep/pulsekeep/core/Subscriber;Lcom/example/pulsekeep/pulsekeep/core/SubscriptionSettings;)V"⟩ : MethodName) prog_45_method_1_code 5 none :: ws) ({ frames := 4, cells := 2, slots := 5, locals := 3073 } : Room)) (fun a U => a = #[(.ref o0), (.long q1), (.ref o2), (.ref o3)] ∧ Z.Warmed39 U.vm ∧ U.heap = h0 ∧ EXL U) (fun _ _ _ _ _ => True) (fun _ U o U' => ∃ v L, o = .returned v ∧ Q9 Z o0 q1 o2 o3 z4 u6 u13 u19 u24 u29 u34 u39 u44 u49 h0 n0 v U'.heap L ∧ FrameEnd U o U' L ({ frames := 4, cells := 2, slots := 5, locals := 3073 } : Room).cells ({ frames := 4, cells := 2, slots := 5, locals := 3073 } : Room).slots) := by
  refine MetFree.of_bodySF (plainFor_of_name pn_9) hisR ?_
  intro p e s m args below meth c s₁ Bd hml0 hP hK
  obtain ⟨rfl, hZ, hh, hEX⟩ := hP
  have hx := Bd.exec
  have hby := Bd.bytes
  have hml : c.maxLocals = 5 := hml0
  have hown : s.vm.findClass "com/example/pulsekeep/pulsekeep/core/Subscription" = some m.cls := findClass_of_methodNamed Bd.named
  have hnm := (name_of_methodNamed Bd.named Bd.method).1
  have hrt := Bd.returns
  have hlk := Bd.notSynchronized
  have X0 : Stand p l e ({ frames := 4, cells := 2, slots := 5, locals := 3073 } : Room) s m #[(.ref o0), (.long q1), (.ref o2), (.ref o3)] below meth c s₁ [] 0 0 := Stand.of_body Bd
  have e0 : s₁.heap = h0 := by rw [← hh, Bd.state]; rfl
  have N0 := Fr.nil n0
  have lt_F_items_o0 : LT.lt (α := Nat) o0 h0.size := F_items_o0.lt
  have lt_E_o0 : LT.lt (α := Nat) o0 h0.size := E_o0.lt
  have lt_F_valueBudget_o0 : LT.lt (α := Nat) o0 h0.size := F_valueBudget_o0.lt
  have lt_F_stopPacing_o0 : LT.lt (α := Nat) o0 h0.size := F_stopPacing_o0.lt
  have lt_F_nextItemId_o0 : LT.lt (α := Nat) o0 h0.size := F_nextItemId_o0.lt
  have lt_F_nextSequenceNumber_o0 : LT.lt (α := Nat) o0 h0.size := F_nextSequenceNumber_o0.lt
  have lt_F_nextPartAt_o0 : LT.lt (α := Nat) o0 h0.size := F_nextPartAt_o0.lt
  have lt_F_id_o0 : LT.lt (α := Nat) o0 h0.size := F_id_o0.lt
  have lt_F_owner_o0 : LT.lt (α := Nat) o0 h0.size := F_owner_o0.lt
  have lt_F_settings_o0 : LT.lt (α := Nat) o0 h0.size := F_settings_o0.lt
  show Go p e below s 2 5 (Q9 Z o0 q1 o2 o3 z4 u6 u13 u19 u24 u29 u34 u39 u44 u49 h0 n0) (s₁.setTop (entryFrame m #[(.ref o0), (.long q1), (.ref o2), (.ref o3)] 5))
  rw [ef_9 m o0 q1 o2 o3]
  refine Go.pre (st' := s₁.setTop (mkF m 1 #[.val (.ref o0), .val (.long q1), .second, .val (.ref o2), .val (.ref o3)] [(.ref o0)])) (fun target kt => ?_) ?_
  · show Steps p.tables e below (s₁.setTop (mkF m 0 #[.val (.ref o0), .val (.long q1), .second, .val (.ref o2), .val (.ref o3)] [])) _
    refine XS.aloadN X0.here hx rfl (hb hby d9_0) rfl rfl ?_
    exact kt
  obtain ⟨T1, X1, e1, st1⟩ := initO X0 hx hZ hown (hw _ (List.mem_of_getElem? (i := 84) rfl)) (hw _ (List.mem_of_getElem? (i := 13) rfl)) (hw _ (List.mem_of_getElem? (i := 14) rfl)) e0 (g := (mkF m 1 #[.val (.ref o0), .val (.long q1), .second, .val (.ref o2), .val (.ref o3)] [(.ref o0)])) rfl (by rw [hml]; rfl) rfl (hb hby d9_1) (by decide) (W := 0) (by show 2 * 0 + _ ≤ _; exact Nat.le_of_eq rfl) (by decide)
  refine Go.pre st1 ?_
  show Go p e below s _ _ _ (T1.setTop (mkF m 4 #[.val (.ref o0), .val (.long q1), .second, .val (.ref o2), .val (.ref o3)] []))
  refine Go.pre (st' := T1.setTop (mkF m 5 #[.val (.ref o0), .val (.long q1), .second, .val (.ref o2), .val (.ref o3)] [(.ref o0)])) (fun target kt => ?_) ?_
  · show Steps p.tables e below (T1.setTop (mkF m 4 #[.val (.ref o0), .val (.long q1), .second, .val (.ref o2), .val (.ref o3)] [])) _
    refine XS.aloadN X1.here hx rfl (hb hby d9_4) rfl rfl ?_
    exact kt
  obtain ⟨T2, h2, X2, e2, E2, A2, D2, -, st2⟩ := newO X1 hx hZ hown (hw _ (List.mem_of_getElem? (i := 85) rfl)) (hw _ (List.mem_of_getElem? (i := 38) rfl)) (hw _ (List.mem_of_getElem? (i := 39) rfl)) e1 (g := (mkF m 5 #[.val (.ref o0), .val (.long q1), .second, .val (.ref o2), .val (.ref o3)] [(.ref o0)])) rfl (hb hby d9_5) (by decide) (by decide)
  obtain ⟨b2, g2⟩ : ∃ z, z = h0.size := ⟨_, rfl⟩
  rw [← g2] at A2 D2 st2
  have sz2 : h0.size ≤ h2.size := E2.1
  have lt2 : b2 < h2.size := A2.lt
  have F2_modCount : Fld Z h2 b2 "java/util/AbstractList" "modCount" "I" (.int (0 : Int32)) := D2 (Or.inl (hw _ (List.mem_of_getElem? (i := 57) rfl))) (ty := .int) (by decide)
  have F2_elementData : Fld Z h2 b2 "java/util/ArrayList" "elementData" "[Ljava/lang/Object;" .null := D2 (Or.inl (hw _ (List.mem_of_getElem? (i := 60) rfl))) (ty := (.array (.object "java/lang/Object"))) (by decide)
  have F2_size : Fld Z h2 b2 "java/util/ArrayList" "size" "I" (.int (0 : Int32)) := D2 (Or.inl (hw _ (List.mem_of_getElem? (i := 193) rfl))) (ty := .int) (by decide)
  refine Go.pre st2 ?_
  show Go p e below s _ _ _ (T2.setTop (mkF m 8 #[.val (.ref o0), .val (.long q1), .second, .val (.ref o2), .val (.ref o3)] [(.ref b2), (.ref o0)]))
  refine Go.pre (st' := T2.setTop (mkF m 9 #[.val (.ref o0), .val (.long q1), .second, .val (.ref o2), .val (.ref o3)] [(.ref b2), (.ref b2), (.ref o0)])) (fun target kt => ?_) ?_
  · show Steps p.tables e below (T2.setTop (mkF m 8 #[.val (.ref o0), .val (.long q1), .second, .val (.ref o2), .val (.ref o3)] [(.ref b2), (.ref o0)])) _
    refine XS.dup X2.here hx rfl (hb hby d9_8) rfl rfl ?_
    exact kt
  have Y5 : Old Z n0 h2 := (Ol.ext E2)
  obtain ⟨_, _, ⟨T3, L3, k3, n3⟩, -, X3, ⟨Lc3, hQ3, l3, y3, z3⟩, st3⟩ := X2.specialBack hx (y := (⟨"java/util/ArrayList", "<init>", "()V"⟩ : MethodName)) rfl hown (mvT hZ (hw _ (List.mem_of_getElem? (i := 86) rfl))) (mvT hZ (hw _ (List.mem_of_getElem? (i := 41) rfl))) (mvT hZ (hw _ (List.mem_of_getElem? (i := 42) rfl))) (by decide) (backOf (W := 2) (rm5 l Z a0 hw [] b2 (0 : Int32) z4 .null h2 n0 (by omega) A2 F2_modCount (by omega) S_DEFAULTCAPACITY_EMPTY_ELEMENTDATA Y5 F2_elementData) hZ (hw _ (List.mem_of_getElem? (i := 42) rfl)) (hw _ (List.mem_of_getElem? (i := 39) rfl)) (by decide) (by decide)) (g := (mkF m 9 #[.val (.ref o0), .val (.long q1), .second, .val (.ref o2), .val (.ref o3)] [(.ref b2), (.ref b2), (.ref o0)])) rfl (by rw [hml]; rfl) (Steps.refl _) (a := b2) (argsL := []) (rest := [(.ref b2), (.ref o0)]) (lenOf pd9_0 rfl) rfl (by show 2 * 0 + _ ≤ _; exact Nat.le_of_eq rfl) (hb hby d9_9) (fun vm₁ hvm => ⟨rfl, e2, (by decide : 1 + 0 ≤ _), (by decide : 3 + 0 ≤ _)⟩)
  dsimp only [Pt.U, Pt.locs, Pt.cells, Pt.slots] at X3 l3 y3 z3 st3 hQ3
  subst l3 y3 z3
  obtain ⟨rfl, N3q, K3, KF3, Y3_0, Y3_1⟩ := hQ3
  have sz3 : h2.size ≤ T3.heap.size := K3.1
  have N3 := Fr.app N0 N3q
  refine Go.trans st3 ?_
  show Go p e below s _ _ _ (T3.setTop (mkF m 12 #[.val (.ref o0), .val (.long q1), .second, .val (.ref o2), .val (.ref o3)] [(.ref b2), (.ref o0)]))
  have Y7 : Fld Z T3.heap o0 "com/example/pulsekeep/pulsekeep/core/Subscription" "items" "Ljava/util/List;" u6 := ((F_items_o0.ext E2).keep K3 (ninS (by show @Ne Nat o0 b2; omega) nin0))
  have Y8 : Exa Z T3.heap o0 "com/example/pulsekeep/pulsekeep/core/Subscription" := ((E_o0.ext E2).keep K3)
  obtain ⟨T9, h9, X9, e9, W9, st9⟩ := putF X3 hx hZ hown (host := "") (Or.inl (hw _ (List.mem_of_getElem? (i := 87) rfl))) Via.refl rfl Y7 Y8 (Or.inr ⟨(hw _ (List.mem_of_getElem? (i := 88) rfl)), rfl, hnm⟩) (hw _ (List.mem_of_getElem? (i := 28) rfl)) (ty := (.object "java/util/List")) (by decide) rfl rfl (g := (mkF m 12 #[.val (.ref o0), .val (.long q1), .second, .val (.ref o2), .val (.ref o3)] [(.ref b2), (.ref o0)])) rfl rfl (hb hby d9_12)
  have sz9 : T3.heap.size ≤ h9.size := (Keep.of_wr W9).1
  have Y10 : Fld Z h9 o0 "com/example/pulsekeep/pulsekeep/core/Subscription" "items" "Ljava/util/List;" (.ref b2) := Y7.same W9
  have N9 := Fr.snoc X9 N3 (by omega)
  refine Go.pre st9 ?_
  show Go p e below s _ _ _ (T9.setTop (mkF m 15 #[.val (.ref o0), .val (.long q1), .second, .val (.ref o2), .val (.ref o3)] []))
  refine Go.pre (st' := T9.setTop (mkF m 16 #[.val (.ref o0), .val (.long q1), .second, .val (.ref o2), .val (.ref o3)] [(.ref o0)])) (fun target kt => ?_) ?_
  · show Steps p.tables e below (T9.setTop (mkF m 15 #[.val (.ref o0), .val (.long q1), .second, .val (.ref o2), .val (.ref o3)] [])) _
    refine XS.aloadN X9.here hx rfl (hb hby d9_15) rfl rfl ?_
    exact kt
  obtain ⟨T11, h11, X11, e11, E11, A11, D11, -, st11⟩ := newO X9 hx hZ hown (hw _ (List.mem_of_getElem? (i := 89) rfl)) (hw _ (List.mem_of_getElem? (i := 90) rfl)) (hw _ (List.mem_of_getElem? (i := 91) rfl)) e9 (g := (mkF m 16 #[.val (.ref o0), .val (.long q1), .second, .val (.ref o2), .val (.ref o3)] [(.ref o0)])) rfl (hb hby d9_16) (by decide) (by decide)
  obtain ⟨b11, g11⟩ : ∃ z, z = h9.size := ⟨_, rfl⟩
  rw [← g11] at A11 D11 st11
  have sz11 : h9.size ≤ h11.size := E11.1
  have lt11 : b11 < h11.size := A11.lt
  refine Go.pre st11 ?_
  show Go p e below s _ _ _ (T11.setTop (mkF m 19 #[.val (.ref o0), .val (.long q1), .second, .val (.ref o2), .val (.ref o3)] [(.ref b11), (.ref o0)]))
  refine Go.pre (st' := T11.setTop (mkF m 20 #[.val (.ref o0), .val (.long q1), .second, .val (.ref o2), .val (.ref o3)] [(.ref b11), (.ref b11), (.ref o0)])) (fun target kt => ?_) ?_
  · show Steps p.tables e below (T11.setTop (mkF m 19 #[.val (.ref o0), .val (.long q1), .second, .val (.ref o2), .val (.ref o3)] [(.ref b11), (.ref o0)])) _
    refine XS.dup X11.here hx rfl (hb hby d9_19) rfl rfl ?_
    exact kt
  obtain ⟨_, _, ⟨T12, L12, k12, n12⟩, -, X12, ⟨Lc12, hQ12, l12, y12, z12⟩, st12⟩ := X11.specialBack hx (y := (⟨"com/example/pulsekeep/pulsekeep/core/MonitoredItem$ValueBudget", "<init>", "()V"⟩ : MethodName)) rfl hown (mvT hZ (hw _ (List.mem_of_getElem? (i := 92) rfl))) (mvT hZ (hw _ (List.mem_of_getElem? (i := 93) rfl))) (mvT hZ (hw _ (List.mem_of_getElem? (i := 94) rfl))) (by decide) (backOf (W := 2) (rm10 l Z a0 hw [] b11 h11 n0 (by omega) ) hZ (hw _ (List.mem_of_getElem? (i := 94) rfl)) (hw _ (List.mem_of_getElem? (i := 91) rfl)) (by decide) (by decide)) (g := (mkF m 20 #[.val (.ref o0), .val (.long q1), .second, .val (.ref o2), .val (.ref o3)] [(.ref b11), (.ref b11), (.ref o0)])) rfl (by rw [hml]; rfl) (Steps.refl _) (a := b11) (argsL := []) (rest := [(.ref b11), (.ref o0)]) (lenOf pd9_0 rfl) rfl (by show 2 * 0 + _ ≤ _; exact Nat.le_of_eq rfl) (hb hby d9_20) (fun vm₁ hvm => ⟨rfl, e11, (by decide : 2 + 0 ≤ _), (by decide : 5 + 0 ≤ _)⟩)
  dsimp only [Pt.U, Pt.locs, Pt.cells, Pt.slots] at X12 l12 y12 z12 st12 hQ12
  subst l12 y12 z12
  obtain ⟨rfl, N12q, e12⟩ := hQ12
  have N12 := Fr.app N9 N12q
  refine Go.trans st12 ?_
  show Go p e below s _ _ _ (T12.setTop (mkF m 23 #[.val (.ref o0), .val (.long q1), .second, .val (.ref o2), .val (.ref o3)] [(.ref b11), (.ref o0)]))
  have Y14 : Fld Z h11 o0 "com/example/pulsekeep/pulsekeep/core/Subscription" "valueBudget" "Lcom/example/pulsekeep/pulsekeep/core/MonitoredItem$ValueBudget;" u13 := ((((F_valueBudget_o0.ext E2).keep K3 (ninS (by show @Ne Nat o0 b2; omega) nin0)).other W9 (Or.inr (slot_ne (Or.inr (hw _ (List.mem_of_getElem? (i := 97) rfl))) (Or.inr (hw _ (List.mem_of_getElem? (i := 88) rfl))) (by decide) (t := (.object "com/example/pulsekeep/pulsekeep/core/MonitoredItem$ValueBudget")) (t' := (.object "java/util/List")) (by decide) (by decide)))).ext E11)
  have Y15 : Exa Z h11 o0 "com/example/pulsekeep/pulsekeep/core/Subscription" := ((Y8.wr W9).ext E11)
  obtain ⟨T16, h16, X16, e16, W16, st16⟩ := putF X12 hx hZ hown (host := "") (Or.inl (hw _ (List.mem_of_getElem? (i := 96) rfl))) Via.refl e12 Y14 Y15 (Or.inr ⟨(hw _ (List.mem_of_getElem? (i := 97) rfl)), rfl, hnm⟩) (hw _ (List.mem_of_getElem? (i := 28) rfl)) (ty := (.object "com/example/pulsekeep/pulsekeep/core/MonitoredItem$ValueBudget")) (by decide) rfl rfl (g := (mkF m 23 #[.val (.ref o0), .val (.long q1), .second, .val (.ref o2), .val (.ref o3)] [(.ref b11), (.ref o0)])) rfl rfl (hb hby d9_23)
  have sz16 : h11.size ≤ h16.size := (Keep.of_wr W16).1
  have Y17 : Fld Z h16 o0 "com/example/pulsekeep/pulsekeep/core/Subscription" "valueBudget" "Lcom/example/pulsekeep/pulsekeep/core/MonitoredItem$ValueBudget;" (.ref b11) := Y14.same W16
  have N16 := Fr.snoc X16 N12 (by omega)
  refine Go.pre st16 ?_
  show Go p e below s _ _ _ (T16.setTop (mkF m 26 #[.val (.ref o0), .val (.long q1), .second, .val (.ref o2), .val (.ref o3)] []))
  refine Go.pre (st' := T16.setTop (mkF m 27 #[.val (.ref o0), .val (.long q1), .second, .val (.ref o2), .val (.ref o3)] [(.ref o0)])) (fun target kt => ?_) ?_
  · show Steps p.tables e below (T16.setTop (mkF m 26 #[.val (.ref o0), .val (.long q1), .second, .val (.ref o2), .val (.ref o3)] [])) _
    refine XS.aloadN X16.here hx rfl (hb hby d9_26) rfl rfl ?_
    exact kt
  obtain ⟨la18, cK18, -, -, st18⟩ := Jvm.LamKit.siteConst X16 hx (x := own_ln) (pc := 27) (index := 23) (σ := own_sh) Bd.named hEX.site rfl (g := (mkF m 27 #[.val (.ref o0), .val (.long q1), .second, .val (.ref o2), .val (.ref o3)] [(.ref o0)])) rfl rfl (by rw [hml]; rfl) (hb hby d9_27) (Nat.le_of_ble_eq_true rfl)
  refine Go.pre st18 ?_
  show Go p e below s _ _ _ (T16.setTop (mkF m 32 #[.val (.ref o0), .val (.long q1), .second, .val (.ref o2), .val (.ref o3)] [(.ref la18), (.ref o0)]))
  have Y20 : Fld Z h16 o0 "com/example/pulsekeep/pulsekeep/core/Subscription" "stopPacing" "Ljava/lang/Runnable;" u19 := (((((F_stopPacing_o0.ext E2).keep K3 (ninS (by show @Ne Nat o0 b2; omega) nin0)).other W9 (Or.inr (slot_ne (Or.inl (hw _ (List.mem_of_getElem? (i := 102) rfl))) (Or.inr (hw _ (List.mem_of_getElem? (i := 88) rfl))) (by decide) (t := (.object "java/lang/Runnable")) (t' := (.object "java/util/List")) (by decide) (by decide)))).ext E11).other W16 (Or.inr (slot_ne (Or.inl (hw _ (List.mem_of_getElem? (i := 102) rfl))) (Or.inr (hw _ (List.mem_of_getElem? (i := 97) rfl))) (by decide) (t := (.object "java/lang/Runnable")) (t' := (.object "com/example/pulsekeep/pulsekeep/core/MonitoredItem$ValueBudget")) (by decide) (by decide))))
  have Y21 : Exa Z h16 o0 "com/example/pulsekeep/pulsekeep/core/Subscription" := (Y15.wr W16)
  obtain ⟨T22, h22, X22, e22, W22, st22⟩ := putF X16 hx hZ hown (host := "") (Or.inl (hw _ (List.mem_of_getElem? (i := 101) rfl))) Via.refl e16 Y20 Y21 (Or.inl (hw _ (List.mem_of_getElem? (i := 102) rfl))) (hw _ (List.mem_of_getElem? (i := 28) rfl)) (ty := (.object "java/lang/Runnable")) (by decide) rfl rfl (g := (mkF m 32 #[.val (.ref o0), .val (.long q1), .second, .val (.ref o2), .val (.ref o3)] [(.ref la18), (.ref o0)])) rfl rfl (hb hby d9_32)
  have sz22 : h16.size ≤ h22.size := (Keep.of_wr W22).1
  have Y23 : Fld Z h22 o0 "com/example/pulsekeep/pulsekeep/core/Subscription" "stopPacing" "Ljava/lang/Runnable;" (.ref la18) := Y20.same W22
  have N22 := Fr.snoc X22 N16 (by omega)
  refine Go.pre st22 ?_
  show Go p e below s _ _ _ (T22.setTop (mkF m 35 #[.val (.ref o0), .val (.long q1), .second, .val (.ref o2), .val (.ref o3)] []))
  refine Go.pre (st' := T22.setTop (mkF m 37 #[.val (.ref o0), .val (.long q1), .second, .val (.ref o2), .val (.ref o3)] [(.long (1 : Int64)), (.ref o0)])) (fun target kt => ?_) ?_
  · show Steps p.tables e below (T22.setTop (mkF m 35 #[.val (.ref o0), .val (.long q1), .second, .val (.ref o2), .val (.ref o3)] [])) _
    refine XS.aloadN X22.here hx rfl (hb hby d9_35) rfl rfl ?_
    show Steps p.tables e below (T22.setTop (mkF m 36 #[.val (.ref o0), .val (.long q1), .second, .val (.ref o2), .val (.ref o3)] [(.ref o0)])) _
    refine XS.lconst X22.here hx rfl (hb hby d9_36) ?_
    exact kt
  have Y25 : Fld Z h22 o0 "com/example/pulsekeep/pulsekeep/core/Subscription" "nextItemId" "J" u24 := ((((((F_nextItemId_o0.ext E2).keep K3 (ninS (by show @Ne Nat o0 b2; omega) nin0)).other W9 (Or.inr (slot_ne (Or.inl (hw _ (List.mem_of_getElem? (i := 104) rfl))) (Or.inr (hw _ (List.mem_of_getElem? (i := 88) rfl))) (by decide) (t := .long) (t' := (.object "java/util/List")) (by decide) (by decide)))).ext E11).other W16 (Or.inr (slot_ne (Or.inl (hw _ (List.mem_of_getElem? (i := 104) rfl))) (Or.inr (hw _ (List.mem_of_getElem? (i := 97) rfl))) (by decide) (t := .long) (t' := (.object "com/example/pulsekeep/pulsekeep/core/MonitoredItem$ValueBudget")) (by decide) (by decide)))).other W22 (Or.inr (slot_ne (Or.inl (hw _ (List.mem_of_getElem? (i := 104) rfl))) (Or.inl (hw _ (List.mem_of_getElem? (i := 102) rfl))) (by decide) (t := .long) (t' := (.object "java/lang/Runnable")) (by decide) (by decide))))
  have Y26 : Exa Z h22 o0 "com/example/pulsekeep/pulsekeep/core/Subscription" := (Y21.wr W22)
  obtain ⟨T27, h27, X27, e27, W27, st27⟩ := putF X22 hx hZ hown (host := "") (Or.inl (hw _ (List.mem_of_getElem? (i := 103) rfl))) Via.refl e22 Y25 Y26 (Or.inl (hw _ (List.mem_of_getElem? (i := 104) rfl))) (hw _ (List.mem_of_getElem? (i := 28) rfl)) (ty := .long) (by decide) rfl rfl (g := (mkF m 37 #[.val (.ref o0), .val (.long q1), .second, .val (.ref o2), .val (.ref o3)] [(.long (1 : Int64)), (.ref o0)])) rfl rfl (hb hby d9_37)
  have sz27 : h22.size ≤ h27.size := (Keep.of_wr W27).1
  have Y28 : Fld Z h27 o0 "com/example/pulsekeep/pulsekeep/core/Subscription" "nextItemId" "J" (.long (1 : Int64)) := Y25.same W27
  have N27 := Fr.snoc X27 N22 (by omega)
  refine Go.pre st27 ?_
  show Go p e below s _ _ _ (T27.setTop (mkF m 40 #[.val (.ref o0), .val (.long q1), .second, .val (.ref o2), .val (.ref o3)] []))
  refine Go.pre (st' := T27.setTop (mkF m 42 #[.val (.ref o0), .val (.long q1), .second, .val (.ref o2), .val (.ref o3)] [(.long (1 : Int64)), (.ref o0)])) (fun target kt => ?_) ?_
  · show Steps p.tables e below (T27.setTop (mkF m 40 #[.val (.ref o0), .val (.long q1), .second, .val (.ref o2), .val (.ref o3)] [])) _
    refine XS.aloadN X27.here hx rfl (hb hby d9_40) rfl rfl ?_
    show Steps p.tables e below (T27.setTop (mkF m 41 #[.val (.ref o0), .val (.long q1), .second, .val (.ref o2), .val (.ref o3)] [(.ref o0)])) _
    refine XS.lconst X27.here hx rfl (hb hby d9_41) ?_
    exact kt
  have Y30 : Fld Z h27 o0 "com/example/pulsekeep/pulsekeep/core/Subscription" "nextSequenceNumber" "J" u29 := (((((((F_nextSequenceNumber_o0.ext E2).keep K3 (ninS (by show @Ne Nat o0 b2; omega) nin0)).other W9 (Or.inr (slot_ne (Or.inl (hw _ (List.mem_of_getElem? (i := 106) rfl))) (Or.inr (hw _ (List.mem_of_getElem? (i := 88) rfl))) (by decide) (t := .long) (t' := (.object "java/util/List")) (by decide) (by decide)))).ext E11).other W16 (Or.inr (slot_ne (Or.inl (hw _ (List.mem_of_getElem? (i := 106) rfl))) (Or.inr (hw _ (List.mem_of_getElem? (i := 97) rfl))) (by decide) (t := .long) (t' := (.object "com/example/pulsekeep/pulsekeep/core/MonitoredItem$ValueBudget")) (by decide) (by decide)))).other W22 (Or.inr (slot_ne (Or.inl (hw _ (List.mem_of_getElem? (i := 106) rfl))) (Or.inl (hw _ (List.mem_of_getElem? (i := 102) rfl))) (by decide) (t := .long) (t' := (.object "java/lang/Runnable")) (by decide) (by decide)))).other W27 (Or.inr (slot_ne (Or.inl (hw _ (List.mem_of_getElem? (i := 106) rfl))) (Or.inl (hw _ (List.mem_of_getElem? (i := 104) rfl))) (by decide) (t := .long) (t' := .long) (by decide) (by decide))))
  have Y31 : Exa Z h27 o0 "com/example/pulsekeep/pulsekeep/core/Subscription" := (Y26.wr W27)
  obtain ⟨T32, h32, X32, e32, W32, st32⟩ := putF X27 hx hZ hown (host := "") (Or.inl (hw _ (List.mem_of_getElem? (i := 105) rfl))) Via.refl e27 Y30 Y31 (Or.inl (hw _ (List.mem_of_getElem? (i := 106) rfl))) (hw _ (List.mem_of_getElem? (i := 28) rfl)) (ty := .long) (by decide) rfl rfl (g := (mkF m 42 #[.val (.ref o0), .val (.long q1), .second, .val (.ref o2), .val (.ref o3)] [(.long (1 : Int64)), (.ref o0)])) rfl rfl (hb hby d9_42)
  have sz32 : h27.size ≤ h32.size := (Keep.of_wr W32).1
  have Y33 : Fld Z h32 o0 "com/example/pulsekeep/pulsekeep/core/Subscription" "nextSequenceNumber" "J" (.long (1 : Int64)) := Y30.same W32
  have N32 := Fr.snoc X32 N27 (by omega)
  refine Go.pre st32 ?_
  show Go p e below s _ _ _ (T32.setTop (mkF m 45 #[.val (.ref o0), .val (.long q1), .second, .val (.ref o2), .val (.ref o3)] []))
  refine Go.pre (st' := T32.setTop (mkF m 47 #[.val (.ref o0), .val (.long q1), .second, .val (.ref o2), .val (.ref o3)] [(.int (-1 : Int32)), (.ref o0)])) (fun target kt => ?_) ?_
  · show Steps p.tables e below (T32.setTop (mkF m 45 #[.val (.ref o0), .val (.long q1), .second, .val (.ref o2), .val (.ref o3)] [])) _
    refine XS.aloadN X32.here hx rfl (hb hby d9_45) rfl rfl ?_
    show Steps p.tables e below (T32.setTop (mkF m 46 #[.val (.ref o0), .val (.long q1), .second, .val (.ref o2), .val (.ref o3)] [(.ref o0)])) _
    refine XS.iconst X32.here hx rfl (hb hby d9_46) ?_
    exact kt
  have Y35 : Fld Z h32 o0 "com/example/pulsekeep/pulsekeep/core/Subscription" "nextPartAt" "I" u34 := ((((((((F_nextPartAt_o0.ext E2).keep K3 (ninS (by show @Ne Nat o0 b2; omega) nin0)).other W9 (Or.inr (slot_ne (Or.inl (hw _ (List.mem_of_getElem? (i := 108) rfl))) (Or.inr (hw _ (List.mem_of_getElem? (i := 88) rfl))) (by decide) (t := .int) (t' := (.object "java/util/List")) (by decide) (by decide)))).ext E11).other W16 (Or.inr (slot_ne (Or.inl (hw _ (List.mem_of_getElem? (i := 108) rfl))) (Or.inr (hw _ (List.mem_of_getElem? (i := 97) rfl))) (by decide) (t := .int) (t' := (.object "com/example/pulsekeep/pulsekeep/core/MonitoredItem$ValueBudget")) (by decide) (by decide)))).other W22 (Or.inr (slot_ne (Or.inl (hw _ (List.mem_of_getElem? (i := 108) rfl))) (Or.inl (hw _ (List.mem_of_getElem? (i := 102) rfl))) (by decide) (t := .int) (t' := (.object "java/lang/Runnable")) (by decide) (by decide)))).other W27 (Or.inr (slot_ne (Or.inl (hw _ (List.mem_of_getElem? (i := 108) rfl))) (Or.inl (hw _ (List.mem_of_getElem? (i := 104) rfl))) (by decide) (t := .int) (t' := .long) (by decide) (by decide)))).other W32 (Or.inr (slot_ne (Or.inl (hw _ (List.mem_of_getElem? (i := 108) rfl))) (Or.inl (hw _ (List.mem_of_getElem? (i := 106) rfl))) (by decide) (t := .int) (t' := .long) (by decide) (by decide))))
  have Y36 : Exa Z h32 o0 "com/example/pulsekeep/pulsekeep/core/Subscription" := (Y31.wr W32)
  obtain ⟨T37, h37, X37, e37, W37, st37⟩ := putF X32 hx hZ hown (host := "") (Or.inl (hw _ (List.mem_of_getElem? (i := 107) rfl))) Via.refl e32 Y35 Y36 (Or.inl (hw _ (List.mem_of_getElem? (i := 108) rfl))) (hw _ (List.mem_of_getElem? (i := 28) rfl)) (ty := .int) (by decide) rfl rfl (g := (mkF m 47 #[.val (.ref o0), .val (.long q1), .second, .val (.ref o2), .val (.ref o3)] [(.int (-1 : Int32)), (.ref o0)])) rfl rfl (hb hby d9_47)
  have sz37 : h32.size ≤ h37.size := (Keep.of_wr W37).1
  have Y38 : Fld Z h37 o0 "com/example/pulsekeep/pulsekeep/core/Subscription" "nextPartAt" "I" (.int (-1 : Int32)) := Y35.same W37
  have N37 := Fr.snoc X37 N32 (by omega)
  refine Go.pre st37 ?_
  show Go p e below s _ _ _ (T37.setTop (mkF m 50 #[.val (.ref o0), .val (.long q1), .second, .val (.ref o2), .val (.ref o3)] []))
  refine Go.pre (st' := T37.setTop (mkF m 52 #[.val (.ref o0), .val (.long q1), .second, .val (.ref o2), .val (.ref o3)] [(.long q1), (.ref o0)])) (fun target kt => ?_) ?_
  · show Steps p.tables e below (T37.setTop (mkF m 50 #[.val (.ref o0), .val (.long q1), .second, .val (.ref o2), .val (.ref o3)] [])) _
    refine XS.aloadN X37.here hx rfl (hb hby d9_50) rfl rfl ?_
    show Steps p.tables e below (T37.setTop (mkF m 51 #[.val (.ref o0), .val (.long q1), .second, .val (.ref o2), .val (.ref o3)] [(.ref o0)])) _
    refine XS.lloadN X37.here hx rfl (hb hby d9_51) rfl ?_
    exact kt
  have Y40 : Fld Z h37 o0 "com/example/pulsekeep/pulsekeep/core/Subscription" "id" "J" u39 := (((((((((F_id_o0.ext E2).keep K3 (ninS (by show @Ne Nat o0 b2; omega) nin0)).other W9 (Or.inr (slot_ne (Or.inr (hw _ (List.mem_of_getElem? (i := 110) rfl))) (Or.inr (hw _ (List.mem_of_getElem? (i := 88) rfl))) (by decide) (t := .long) (t' := (.object "java/util/List")) (by decide) (by decide)))).ext E11).other W16 (Or.inr (slot_ne (Or.inr (hw _ (List.mem_of_getElem? (i := 110) rfl))) (Or.inr (hw _ (List.mem_of_getElem? (i := 97) rfl))) (by decide) (t := .long) (t' := (.object "com/example/pulsekeep/pulsekeep/core/MonitoredItem$ValueBudget")) (by decide) (by decide)))).other W22 (Or.inr (slot_ne (Or.inr (hw _ (List.mem_of_getElem? (i := 110) rfl))) (Or.inl (hw _ (List.mem_of_getElem? (i := 102) rfl))) (by decide) (t := .long) (t' := (.object "java/lang/Runnable")) (by decide) (by decide)))).other W27 (Or.inr (slot_ne (Or.inr (hw _ (List.mem_of_getElem? (i := 110) rfl))) (Or.inl (hw _ (List.mem_of_getElem? (i := 104) rfl))) (by decide) (t := .long) (t' := .long) (by decide) (by decide)))).other W32 (Or.inr (slot_ne (Or.inr (hw _ (List.mem_of_getElem? (i := 110) rfl))) (Or.inl (hw _ (List.mem_of_getElem? (i := 106) rfl))) (by decide) (t := .long) (t' := .long) (by decide) (by decide)))).other W37 (Or.inr (slot_ne (Or.inr (hw _ (List.mem_of_getElem? (i := 110) rfl))) (Or.inl (hw _ (List.mem_of_getElem? (i := 108) rfl))) (by decide) (t := .long) (t' := .int) (by decide) (by decide))))
  have Y41 : Exa Z h37 o0 "com/example/pulsekeep/pulsekeep/core/Subscription" := (Y36.wr W37)
  obtain ⟨T42, h42, X42, e42, W42, st42⟩ := putF X37 hx hZ hown (host := "") (Or.inl (hw _ (List.mem_of_getElem? (i := 109) rfl))) Via.refl e37 Y40 Y41 (Or.inr ⟨(hw _ (List.mem_of_getElem? (i := 110) rfl)), rfl, hnm⟩) (hw _ (List.mem_of_getElem? (i := 28) rfl)) (ty := .long) (by decide) rfl rfl (g := (mkF m 52 #[.val (.ref o0), .val (.long q1), .second, .val (.ref o2), .val (.ref o3)] [(.long q1), (.ref o0)])) rfl rfl (hb hby d9_52)
  have sz42 : h37.size ≤ h42.size := (Keep.of_wr W42).1
  have Y43 : Fld Z h42 o0 "com/example/pulsekeep/pulsekeep/core/Subscription" "id" "J" (.long q1) := Y40.same W42
  have N42 := Fr.snoc X42 N37 (by omega)
  refine Go.pre st42 ?_
  show Go p e below s _ _ _ (T42.setTop (mkF m 55 #[.val (.ref o0), .val (.long q1), .second, .val (.ref o2), .val (.ref o3)] []))
  refine Go.pre (st' := T42.setTop (mkF m 57 #[.val (.ref o0), .val (.long q1), .second, .val (.ref o2), .val (.ref o3)] [(.ref o2), (.ref o0)])) (fun target kt => ?_) ?_
  · show Steps p.tables e below (T42.setTop (mkF m 55 #[.val (.ref o0), .val (.long q1), .second, .val (.ref o2), .val (.ref o3)] [])) _
    refine XS.aloadN X42.here hx rfl (hb hby d9_55) rfl rfl ?_
    show Steps p.tables e below (T42.setTop (mkF m 56 #[.val (.ref o0), .val (.long q1), .second, .val (.ref o2), .val (.ref o3)] [(.ref o0)])) _
    refine XS.aloadN X42.here hx rfl (hb hby d9_56) rfl rfl ?_
    exact kt
  have Y45 : Fld Z h42 o0 "com/example/pulsekeep/pulsekeep/core/Subscription" "owner" "Lcom/example/pulsekeep/pulsekeep/core/Subscriber;" u44 := ((((((((((F_owner_o0.ext E2).keep K3 (ninS (by show @Ne Nat o0 b2; omega) nin0)).other W9 (Or.inr (slot_ne (Or.inl (hw _ (List.mem_of_getElem? (i := 112) rfl))) (Or.inr (hw _ (List.mem_of_getElem? (i := 88) rfl))) (by decide) (t := (.object "com/example/pulsekeep/pulsekeep/core/Subscriber")) (t' := (.object "java/util/List")) (by decide) (by decide)))).ext E11).other W16 (Or.inr (slot_ne (Or.inl (hw _ (List.mem_of_getElem? (i := 112) rfl))) (Or.inr (hw _ (List.mem_of_getElem? (i := 97) rfl))) (by decide) (t := (.object "com/example/pulsekeep/pulsekeep/core/Subscriber")) (t' := (.object "com/example/pulsekeep/pulsekeep/core/MonitoredItem$ValueBudget")) (by decide) (by decide)))).other W22 (Or.inr (slot_ne (Or.inl (hw _ (List.mem_of_getElem? (i := 112) rfl))) (Or.inl (hw _ (List.mem_of_getElem? (i := 102) rfl))) (by decide) (t := (.object "com/example/pulsekeep/pulsekeep/core/Subscriber")) (t' := (.object "java/lang/Runnable")) (by decide) (by decide)))).other W27 (Or.inr (slot_ne (Or.inl (hw _ (List.mem_of_getElem? (i := 112) rfl))) (Or.inl (hw _ (List.mem_of_getElem? (i := 104) rfl))) (by decide) (t := (.object "com/example/pulsekeep/pulsekeep/core/Subscriber")) (t' := .long) (by decide) (by decide)))).other W32 (Or.inr (slot_ne (Or.inl (hw _ (List.mem_of_getElem? (i := 112) rfl))) (Or.inl (hw _ (List.mem_of_getElem? (i := 106) rfl))) (by decide) (t := (.object "com/example/pulsekeep/pulsekeep/core/Subscriber")) (t' := .long) (by decide) (by decide)))).other W37 (Or.inr (slot_ne (Or.inl (hw _ (List.mem_of_getElem? (i := 112) rfl))) (Or.inl (hw _ (List.mem_of_getElem? (i := 108) rfl))) (by decide) (t := (.object "com/example/pulsekeep/pulsekeep/core/Subscriber")) (t' := .int) (by decide) (by decide)))).other W42 (Or.inr (slot_ne (Or.inl (hw _ (List.mem_of_getElem? (i := 112) rfl))) (Or.inr (hw _ (List.mem_of_getElem? (i := 110) rfl))) (by decide) (t := (.object "com/example/pulsekeep/pulsekeep/core/Subscriber")) (t' := .long) (by decide) (by decide))))
  have Y46 : Exa Z h42 o0 "com/example/pulsekeep/pulsekeep/core/Subscription" := (Y41.wr W42)
  obtain ⟨T47, h47, X47, e47, W47, st47⟩ := putF X42 hx hZ hown (host := "") (Or.inl (hw _ (List.mem_of_getElem? (i := 111) rfl))) Via.refl e42 Y45 Y46 (Or.inl (hw _ (List.mem_of_getElem? (i := 112) rfl))) (hw _ (List.mem_of_getElem? (i := 28) rfl)) (ty := (.object "com/example/pulsekeep/pulsekeep/core/Subscriber")) (by decide) rfl rfl (g := (mkF m 57 #[.val (.ref o0), .val (.long q1), .second, .val (.ref o2), .val (.ref o3)] [(.ref o2), (.ref o0)])) rfl rfl (hb hby d9_57)
  have sz47 : h42.size ≤ h47.size := (Keep.of_wr W47).1
  have Y48 : Fld Z h47 o0 "com/example/pulsekeep/pulsekeep/core/Subscription" "owner" "Lcom/example/pulsekeep/pulsekeep/core/Subscriber;" (.ref o2) := Y45.same W47
  have N47 := Fr.snoc X47 N42 (by omega)
  refine Go.pre st47 ?_
  show Go p e below s _ _ _ (T47.setTop (mkF m 60 #[.val (.ref o0), .val (.long q1), .second, .val (.ref o2), .val (.ref o3)] []))
  refine Go.pre (st' := T47.setTop (mkF m 63 #[.val (.ref o0), .val (.long q1), .second, .val (.ref o2), .val (.ref o3)] [(.ref o3), (.ref o0)])) (fun target kt => ?_) ?_
  · show Steps p.tables e below (T47.setTop (mkF m 60 #[.val (.ref o0), .val (.long q1), .second, .val (.ref o2), .val (.ref o3)] [])) _
    refine XS.aloadN X47.here hx rfl (hb hby d9_60) rfl rfl ?_
    show Steps p.tables e below (T47.setTop (mkF m 61 #[.val (.ref o0), .val (.long q1), .second, .val (.ref o2), .val (.ref o3)] [(.ref o0)])) _
    refine XS.aload X47.here hx rfl (hb hby d9_61) rfl rfl ?_
    exact kt
  have Y50 : Fld Z h47 o0 "com/example/pulsekeep/pulsekeep/core/Subscription" "settings" "Lcom/example/pulsekeep/pulsekeep/core/SubscriptionSettings;" u49 := (((((((((((F_settings_o0.ext E2).keep K3 (ninS (by show @Ne Nat o0 b2; omega) nin0)).other W9 (Or.inr (slot_ne (Or.inl (hw _ (List.mem_of_getElem? (i := 114) rfl))) (Or.inr (hw _ (List.mem_of_getElem? (i := 88) rfl))) (by decide) (t := (.object "com/example/pulsekeep/pulsekeep/core/SubscriptionSettings")) (t' := (.object "java/util/List")) (by decide) (by decide)))).ext E11).other W16 (Or.inr (slot_ne (Or.inl (hw _ (List.mem_of_getElem? (i := 114) rfl))) (Or.inr (hw _ (List.mem_of_getElem? (i := 97) rfl))) (by decide) (t := (.object "com/example/pulsekeep/pulsekeep/core/SubscriptionSettings")) (t' := (.object "com/example/pulsekeep/pulsekeep/core/MonitoredItem$ValueBudget")) (by decide) (by decide)))).other W22 (Or.inr (slot_ne (Or.inl (hw _ (List.mem_of_getElem? (i := 114) rfl))) (Or.inl (hw _ (List.mem_of_getElem? (i := 102) rfl))) (by decide) (t := (.object "com/example/pulsekeep/pulsekeep/core/SubscriptionSettings")) (t' := (.object "java/lang/Runnable")) (by decide) (by decide)))).other W27 (Or.inr (slot_ne (Or.inl (hw _ (List.mem_of_getElem? (i := 114) rfl))) (Or.inl (hw _ (List.mem_of_getElem? (i := 104) rfl))) (by decide) (t := (.object "com/example/pulsekeep/pulsekeep/core/SubscriptionSettings")) (t' := .long) (by decide) (by decide)))).other W32 (Or.inr (slot_ne (Or.inl (hw _ (List.mem_of_getElem? (i := 114) rfl))) (Or.inl (hw _ (List.mem_of_getElem? (i := 106) rfl))) (by decide) (t := (.object "com/example/pulsekeep/pulsekeep/core/SubscriptionSettings")) (t' := .long) (by decide) (by decide)))).other W37 (Or.inr (slot_ne (Or.inl (hw _ (List.mem_of_getElem? (i := 114) rfl))) (Or.inl (hw _ (List.mem_of_getElem? (i := 108) rfl))) (by decide) (t := (.object "com/example/pulsekeep/pulsekeep/core/SubscriptionSettings")) (t' := .int) (by decide) (by decide)))).other W42 (Or.inr (slot_ne (Or.inl (hw _ (List.mem_of_getElem? (i := 114) rfl))) (Or.inr (hw _ (List.mem_of_getElem? (i := 110) rfl))) (by decide) (t := (.object "com/example/pulsekeep/pulsekeep/core/SubscriptionSettings")) (t' := .long) (by decide) (by decide)))).other W47 (Or.inr (slot_ne (Or.inl (hw _ (List.mem_of_getElem? (i := 114) rfl))) (Or.inl (hw _ (List.mem_of_getElem? (i := 112) rfl))) (by decide) (t := (.object "com/example/pulsekeep/pulsekeep/core/SubscriptionSettings")) (t' := (.object "com/example/pulsekeep/pulsekeep/core/Subscriber")) (by decide) (by decide))))
  have Y51 : Exa Z h47 o0 "com/example/pulsekeep/pulsekeep/core/Subscription" := (Y46.wr W47)
  obtain ⟨T52, h52, X52, e52, W52, st52⟩ := putF X47 hx hZ hown (host := "") (Or.inl (hw _ (List.mem_of_getElem? (i := 113) rfl))) Via.refl e47 Y50 Y51 (Or.inl (hw _ (List.mem_of_getElem? (i := 114) rfl))) (hw _ (List.mem_of_getElem? (i := 28) rfl)) (ty := (.object "com/example/pulsekeep/pulsekeep/core/SubscriptionSettings")) (by decide) rfl rfl (g := (mkF m 63 #[.val (.ref o0), .val (.long q1), .second, .val (.ref o2), .val (.ref o3)] [(.ref o3), (.ref o0)])) rfl rfl (hb hby d9_63)
  have sz52 : h47.size ≤ h52.size := (Keep.of_wr W52).1
  have Y53 : Fld Z h52 o0 "com/example/pulsekeep/pulsekeep/core/Subscription" "settings" "Lcom/example/pulsekeep/pulsekeep/core/SubscriptionSettings;" (.ref o3) := Y50.same W52
  have N52 := Fr.snoc X52 N47 (by omega)
  refine Go.pre st52 ?_
  show Go p e below s _ _ _ (T52.setTop (mkF m 66 #[.val (.ref o0), .val (.long q1), .second, .val (.ref o2), .val (.ref o3)] []))
  have Y54 : Fld Z h52 o0 "com/example/pulsekeep/pulsekeep/core/Subscription" "items" "Ljava/util/List;" (.ref b2) := (((((((((Y10.ext E11).other W16 (Or.inr (slot_ne (Or.inr (hw _ (List.mem_of_getElem? (i := 88) rfl))) (Or.inr (hw _ (List.mem_of_getElem? (i := 97) rfl))) (by decide) (t := (.object "java/util/List")) (t' := (.object "com/example/pulsekeep/pulsekeep/core/MonitoredItem$ValueBudget")) (by decide) (by decide)))).other W22 (Or.inr (slot_ne (Or.inr (hw _ (List.mem_of_getElem? (i := 88) rfl))) (Or.inl (hw _ (List.mem_of_getElem? (i := 102) rfl))) (by decide) (t := (.object "java/util/List")) (t' := (.object "java/lang/Runnable")) (by decide) (by decide)))).other W27 (Or.inr (slot_ne (Or.inr (hw _ (List.mem_of_getElem? (i := 88) rfl))) (Or.inl (hw _ (List.mem_of_getElem? (i := 104) rfl))) (by decide) (t := (.object "java/util/List")) (t' := .long) (by decide) (by decide)))).other W32 (Or.inr (slot_ne (Or.inr (hw _ (List.mem_of_getElem? (i := 88) rfl))) (Or.inl (hw _ (List.mem_of_getElem? (i := 106) rfl))) (by decide) (t := (.object "java/util/List")) (t' := .long) (by decide) (by decide)))).other W37 (Or.inr (slot_ne (Or.inr (hw _ (List.mem_of_getElem? (i := 88) rfl))) (Or.inl (hw _ (List.mem_of_getElem? (i := 108) rfl))) (by decide) (t := (.object "java/util/List")) (t' := .int) (by decide) (by decide)))).other W42 (Or.inr (slot_ne (Or.inr (hw _ (List.mem_of_getElem? (i := 88) rfl))) (Or.inr (hw _ (List.mem_of_getElem? (i := 110) rfl))) (by decide) (t := (.object "java/util/List")) (t' := .long) (by decide) (by decide)))).other W47 (Or.inr (slot_ne (Or.inr (hw _ (List.mem_of_getElem? (i := 88) rfl))) (Or.inl (hw _ (List.mem_of_getElem? (i := 112) rfl))) (by decide) (t := (.object "java/util/List")) (t' := (.object "com/example/pulsekeep/pulsekeep/core/Subscriber")) (by decide) (by decide)))).other W52 (Or.inr (slot_ne (Or.inr (hw _ (List.mem_of_getElem? (i := 88) rfl))) (Or.inl (hw _ (List.mem_of_getElem? (i := 114) rfl))) (by decide) (t := (.object "java/util/List")) (t' := (.object "com/example/pulsekeep/pulsekeep/core/SubscriptionSettings")) (by decide) (by decide))))
  have Y55 : Fld Z h52 o0 "com/example/pulsekeep/pulsekeep/core/Subscription" "valueBudget" "Lcom/example/pulsekeep/pulsekeep/core/MonitoredItem$ValueBudget;" (.ref b11) := (((((((Y17.other W22 (Or.inr (slot_ne (Or.inr (hw _ (List.mem_of_getElem? (i := 97) rfl))) (Or.inl (hw _ (List.mem_of_getElem? (i := 102) rfl))) (by decide) (t := (.object "com/example/pulsekeep/pulsekeep/core/MonitoredItem$ValueBudget")) (t' := (.object "java/lang/Runnable")) (by decide) (by decide)))).other W27 (Or.inr (slot_ne (Or.inr (hw _ (List.mem_of_getElem? (i := 97) rfl))) (Or.inl (hw _ (List.mem_of_getElem? (i := 104) rfl))) (by decide) (t := (.object "com/example/pulsekeep/pulsekeep/core/MonitoredItem$ValueBudget")) (t' := .long) (by decide) (by decide)))).other W32 (Or.inr (slot_ne (Or.inr (hw _ (List.mem_of_getElem? (i := 97) rfl))) (Or.inl (hw _ (List.mem_of_getElem? (i := 106) rfl))) (by decide) (t := (.object "com/example/pulsekeep/pulsekeep/core/MonitoredItem$ValueBudget")) (t' := .long) (by decide) (by decide)))).other W37 (Or.inr (slot_ne (Or.inr (hw _ (List.mem_of_getElem? (i := 97) rfl))) (Or.inl (hw _ (List.mem_of_getElem? (i := 108) rfl))) (by decide) (t := (.object "com/example/pulsekeep/pulsekeep/core/MonitoredItem$ValueBudget")) (t' := .int) (by decide) (by decide)))).other W42 (Or.inr (slot_ne (Or.inr (hw _ (List.mem_of_getElem? (i := 97) rfl))) (Or.inr (hw _ (List.mem_of_getElem? (i := 110) rfl))) (by decide) (t := (.object "com/example/pulsekeep/pulsekeep/core/MonitoredItem$ValueBudget")) (t' := .long) (by decide) (by decide)))).other W47 (Or.inr (slot_ne (Or.inr (hw _ (List.mem_of_getElem? (i := 97) rfl))) (Or.inl (hw _ (List.mem_of_getElem? (i := 112) rfl))) (by decide) (t := (.object "com/example/pulsekeep/pulsekeep/core/MonitoredItem$ValueBudget")) (t' := (.object "com/example/pulsekeep/pulsekeep/core/Subscriber")) (by decide) (by decide)))).other W52 (Or.inr (slot_ne (Or.inr (hw _ (List.mem_of_getElem? (i := 97) rfl))) (Or.inl (hw _ (List.mem_of_getElem? (i := 114) rfl))) (by decide) (t := (.object "com/example/pulsekeep/pulsekeep/core/MonitoredItem$ValueBudget")) (t' := (.object "com/example/pulsekeep/pulsekeep/core/SubscriptionSettings")) (by decide) (by decide))))
  have Y56 : Fld Z h52 o0 "com/example/pulsekeep/pulsekeep/core/Subscription" "nextItemId" "J" (.long (1 : Int64)) := (((((Y28.other W32 (Or.inr (slot_ne (Or.inl (hw _ (List.mem_of_getElem? (i := 104) rfl))) (Or.inl (hw _ (List.mem_of_getElem? (i := 106) rfl))) (by decide) (t := .long) (t' := .long) (by decide) (by decide)))).other W37 (Or.inr (slot_ne (Or.inl (hw _ (List.mem_of_getElem? (i := 104) rfl))) (Or.inl (hw _ (List.mem_of_getElem? (i := 108) rfl))) (by decide) (t := .long) (t' := .int) (by decide) (by decide)))).other W42 (Or.inr (slot_ne (Or.inl (hw _ (List.mem_of_getElem? (i := 104) rfl))) (Or.inr (hw _ (List.mem_of_getElem? (i := 110) rfl))) (by decide) (t := .long) (t' := .long) (by decide) (by decide)))).other W47 (Or.inr (slot_ne (Or.inl (hw _ (List.mem_of_getElem? (i := 104) rfl))) (Or.inl (hw _ (List.mem_of_getElem? (i := 112) rfl))) (by decide) (t := .long) (t' := (.object "com/example/pulsekeep/pulsekeep/core/Subscriber")) (by decide) (by decide)))).other W52 (Or.inr (slot_ne (Or.inl (hw _ (List.mem_of_getElem? (i := 104) rfl))) (Or.inl (hw _ (List.mem_of_getElem? (i := 114) rfl))) (by decide) (t := .long) (t' := (.object "com/example/pulsekeep/pulsekeep/core/SubscriptionSettings")) (by decide) (by decide))))
  have Y57 : Fld Z h52 o0 "com/example/pulsekeep/pulsekeep/core/Subscription" "nextSequenceNumber" "J" (.long (1 : Int64)) := ((((Y33.other W37 (Or.inr (slot_ne (Or.inl (hw _ (List.mem_of_getElem? (i := 106) rfl))) (Or.inl (hw _ (List.mem_of_getElem? (i := 108) rfl))) (by decide) (t := .long) (t' := .int) (by decide) (by decide)))).other W42 (Or.inr (slot_ne (Or.inl (hw _ (List.mem_of_getElem? (i := 106) rfl))) (Or.inr (hw _ (List.mem_of_getElem? (i := 110) rfl))) (by decide) (t := .long) (t' := .long) (by decide) (by decide)))).other W47 (Or.inr (slot_ne (Or.inl (hw _ (List.mem_of_getElem? (i := 106) rfl))) (Or.inl (hw _ (List.mem_of_getElem? (i := 112) rfl))) (by decide) (t := .long) (t' := (.object "com/example/pulsekeep/pulsekeep/core/Subscriber")) (by decide) (by decide)))).other W52 (Or.inr (slot_ne (Or.inl (hw _ (List.mem_of_getElem? (i := 106) rfl))) (Or.inl (hw _ (List.mem_of_getElem? (i := 114) rfl))) (by decide) (t := .long) (t' := (.object "com/example/pulsekeep/pulsekeep/core/SubscriptionSettings")) (by decide) (by decide))))
  have Y58 : Fld Z h52 o0 "com/example/pulsekeep/pulsekeep/core/Subscription" "nextPartAt" "I" (.int (-1 : Int32)) := (((Y38.other W42 (Or.inr (slot_ne (Or.inl (hw _ (List.mem_of_getElem? (i := 108) rfl))) (Or.inr (hw _ (List.mem_of_getElem? (i := 110) rfl))) (by decide) (t := .int) (t' := .long) (by decide) (by decide)))).other W47 (Or.inr (slot_ne (Or.inl (hw _ (List.mem_of_getElem? (i := 108) rfl))) (Or.inl (hw _ (List.mem_of_getElem? (i := 112) rfl))) (by decide) (t := .int) (t' := (.object "com/example/pulsekeep/pulsekeep/core/Subscriber")) (by decide) (by decide)))).other W52 (Or.inr (slot_ne (Or.inl (hw _ (List.mem_of_getElem? (i := 108) rfl))) (Or.inl (hw _ (List.mem_of_getElem? (i := 114) rfl))) (by decide) (t := .int) (t' := (.object "com/example/pulsekeep/pulsekeep/core/SubscriptionSettings")) (by decide) (by decide))))
  have Y59 : Fld Z h52 o0 "com/example/pulsekeep/pulsekeep/core/Subscription" "id" "J" (.long q1) := ((Y43.other W47 (Or.inr (slot_ne (Or.inr (hw _ (List.mem_of_getElem? (i := 110) rfl))) (Or.inl (hw _ (List.mem_of_getElem? (i := 112) rfl))) (by decide) (t := .long) (t' := (.object "com/example/pulsekeep/pulsekeep/core/Subscriber")) (by decide) (by decide)))).other W52 (Or.inr (slot_ne (Or.inr (hw _ (List.mem_of_getElem? (i := 110) rfl))) (Or.inl (hw _ (List.mem_of_getElem? (i := 114) rfl))) (by decide) (t := .long) (t' := (.object "com/example/pulsekeep/pulsekeep/core/SubscriptionSettings")) (by decide) (by decide))))
  have Y60 : Fld Z h52 o0 "com/example/pulsekeep/pulsekeep/core/Subscription" "owner" "Lcom/example/pulsekeep/pulsekeep/core/Subscriber;" (.ref o2) := (Y48.other W52 (Or.inr (slot_ne (Or.inl (hw _ (List.mem_of_getElem? (i := 112) rfl))) (Or.inl (hw _ (List.mem_of_getElem? (i := 114) rfl))) (by decide) (t := (.object "com/example/pulsekeep/pulsekeep/core/Subscriber")) (t' := (.object "com/example/pulsekeep/pulsekeep/core/SubscriptionSettings")) (by decide) (by decide))))
  have Y61 : Exa Z h52 b2 "java/util/ArrayList" := (((((((((((A2.keep K3).wr W9).ext E11).wr W16).wr W22).wr W27).wr W32).wr W37).wr W42).wr W47).wr W52)
  have Y62 : Fld Z h52 b2 "java/util/ArrayList" "size" "I" (.int (0 : Int32)) := (((((((((((KF3 _ _ _ _ _ F2_size (pallS (Or.inr (slot_ne (Or.inl (hw _ (List.mem_of_getElem? (i := 193) rfl))) (Or.inl (hw _ (List.mem_of_getElem? (i := 57) rfl))) (by decide) (t := .int) (t' := .int) (by decide) (by decide))) (pallS (Or.inr (slot_ne (Or.inl (hw _ (List.mem_of_getElem? (i := 193) rfl))) (Or.inl (hw _ (List.mem_of_getElem? (i := 60) rfl))) (by decide) (t := .int) (t' := (.array (.object "java/lang/Object"))) (by decide) (by decide))) pall0))).other W9 (Or.inl (by show @Ne Nat b2 o0; omega))).ext E11).other W16 (Or.inl (by show @Ne Nat b2 o0; omega))).other W22 (Or.inl (by show @Ne Nat b2 o0; omega))).other W27 (Or.inl (by show @Ne Nat b2 o0; omega))).other W32 (Or.inl (by show @Ne Nat b2 o0; omega))).other W37 (Or.inl (by show @Ne Nat b2 o0; omega))).other W42 (Or.inl (by show @Ne Nat b2 o0; omega))).other W47 (Or.inl (by show @Ne Nat b2 o0; omega))).other W52 (Or.inl (by show @Ne Nat b2 o0; omega)))
  have Y63 : Fld Z h52 b2 "java/util/AbstractList" "modCount" "I" (.int (0 : Int32)) := ((((((((((Y3_0.other W9 (Or.inl (by show @Ne Nat b2 o0; omega))).ext E11).other W16 (Or.inl (by show @Ne Nat b2 o0; omega))).other W22 (Or.inl (by show @Ne Nat b2 o0; omega))).other W27 (Or.inl (by show @Ne Nat b2 o0; omega))).other W32 (Or.inl (by show @Ne Nat b2 o0; omega))).other W37 (Or.inl (by show @Ne Nat b2 o0; omega))).other W42 (Or.inl (by show @Ne Nat b2 o0; omega))).other W47 (Or.inl (by show @Ne Nat b2 o0; omega))).other W52 (Or.inl (by show @Ne Nat b2 o0; omega)))
  have Y64 : Fld Z h52 b2 "java/util/ArrayList" "elementData" "[Ljava/lang/Object;" (.ref z4) := ((((((((((Y3_1.other W9 (Or.inl (by show @Ne Nat b2 o0; omega))).ext E11).other W16 (Or.inl (by show @Ne Nat b2 o0; omega))).other W22 (Or.inl (by show @Ne Nat b2 o0; omega))).other W27 (Or.inl (by show @Ne Nat b2 o0; omega))).other W32 (Or.inl (by show @Ne Nat b2 o0; omega))).other W37 (Or.inl (by show @Ne Nat b2 o0; omega))).other W42 (Or.inl (by show @Ne Nat b2 o0; omega))).other W47 (Or.inl (by show @Ne Nat b2 o0; omega))).other W52 (Or.inl (by show @Ne Nat b2 o0; omega)))
  have Y65 : Exa Z h52 b11 "com/example/pulsekeep/pulsekeep/core/MonitoredItem$ValueBudget" := ((((((((A11.wr W16).wr W22).wr W27).wr W32).wr W37).wr W42).wr W47).wr W52)
  exact Go.ret0 X52 hx hlk hrt (hb hby d9_66) (by decide) (by decide) (by rw [e52]; exact ⟨b2, b11, rfl, N52, (((((((((((((Keep.refl h0 [o0]).ext E2).trans K3 (allS (Or.inr (by omega)) all0)).wr W9 (Or.inl (List.mem_of_getElem? (i := 0) rfl))).ext E11).wr W16 (Or.inl (List.mem_of_getElem? (i := 0) rfl))).wr W22 (Or.inl (List.mem_of_getElem? (i := 0) rfl))).wr W27 (Or.inl (List.mem_of_getElem? (i := 0) rfl))).wr W32 (Or.inl (List.mem_of_getElem? (i := 0) rfl))).wr W37 (Or.inl (List.mem_of_getElem? (i := 0) rfl))).wr W42 (Or.inl (List.mem_of_getElem? (i := 0) rfl))).wr W47 (Or.inl (List.mem_of_getElem? (i := 0) rfl))).wr W52 (Or.inl (List.mem_of_getElem? (i := 0) rfl))), (((((((((((((KF.refl Z h0 [(o0, Jvm.RoadKit.slotOf Z "com/example/pulsekeep/pulsekeep/core/Subscription" "items" "Ljava/util/List;"), (o0, Jvm.RoadKit.slotOf Z "com/example/pulsekeep/pulsekeep/core/Subscription" "valueBudget" "Lcom/example/pulsekeep/pulsekeep/core/MonitoredItem$ValueBudget;"), (o0, Jvm.RoadKit.slotOf Z "com/example/pulsekeep/pulsekeep/core/Subscription" "stopPacing" "Ljava/lang/Runnable;"), (o0, Jvm.RoadKit.slotOf Z "com/example/pulsekeep/pulsekeep/core/Subscription" "nextItemId" "J"), (o0, Jvm.RoadKit.slotOf Z "com/example/pulsekeep/pulsekeep/core/Subscription" "nextSequenceNumber" "J"), (o0, Jvm.RoadKit.slotOf Z "com/example/pulsekeep/pulsekeep/core/Subscription" "nextPartAt" "I"), (o0, Jvm.RoadKit.slotOf Z "com/example/pulsekeep/pulsekeep/core/Subscription" "id" "J"), (o0, Jvm.RoadKit.slotOf Z "com/example/pulsekeep/pulsekeep/core/Subscription" "owner" "Lcom/example/pulsekeep/pulsekeep/core/Subscriber;"), (o0, Jvm.RoadKit.slotOf Z "com/example/pulsekeep/pulsekeep/core/Subscription" "settings" "Lcom/example/pulsekeep/pulsekeep/core/SubscriptionSettings;")]).ext E2).trans KF3 (pallS (Or.inr (by show _ ≤ b2; omega)) (pallS (Or.inr (by show _ ≤ b2; omega)) pall0))).wr W9 (Or.inl (List.mem_of_getElem? (i := 0) rfl))).ext E11).wr W16 (Or.inl (List.mem_of_getElem? (i := 1) rfl))).wr W22 (Or.inl (List.mem_of_getElem? (i := 2) rfl))).wr W27 (Or.inl (List.mem_of_getElem? (i := 3) rfl))).wr W32 (Or.inl (List.mem_of_getElem? (i := 4) rfl))).wr W37 (Or.inl (List.mem_of_getElem? (i := 5) rfl))).wr W42 (Or.inl (List.mem_of_getElem? (i := 6) rfl))).wr W47 (Or.inl (List.mem_of_getElem? (i := 7) rfl))).wr W52 (Or.inl (List.mem_of_getElem? (i := 8) rfl))), by omega, by omega, by omega, by omega, by omega, Y54, Y55, Y56, Y57, Y58, Y59, Y60, Y53, Y61, Y62, Y63, Y64, Y65⟩)
/-! SubscriptionSettings.publishingEnabled (13) -/
theorem d13_0 : decode prog_47_method_12_code 0 = .ok (.aload_n 0, 1) := by decide +kernel
theorem d13_1 : decode prog_47_method_12_code 1 = .ok (.getfield 23, 3) := by decide +kernel
theorem d13_4 : decode prog_47_method_12_code 4 = .ok (.ireturn, 1) := by decide +kernel
theorem pn_13 : plainName "com/example/pulsekeep/pulsekeep/core/SubscriptionSettings" = true := by first | (simp [plainName, overriddenIn]; done) | decide +kernel
theorem ef_13 (m : MethodId) (o0 : Addr) : entryFrame m #[(.ref o0)] 1 = (mkF m 0 #[.val (.ref o0)] []) := by first | (simp [entryFrame, mkF, argsToLocals, Value.category]; done) | rfl
def Q13 (Z : State) (o0 : Addr) (w1 : Int32) (h0 : Heap) (n0 : Nat) (v : Option Value) (h : Heap) (L : List Loc) : Prop := v = some (.int (w1 &&& 1)) ∧ Fr n0 L ∧ h = h0
set_option maxRecDepth 65536 in
set_option maxHeartbeats 40000000 in
theorem rm13 (l : Launch) (Z : State) (a0 : Array Value) (hw : ∀ d ∈ tables_1, d.before a0 Z = true) (ws : List Jvm.Cond) (o0 : Addr) (w1 : Int32) (h0 : Heap) (n0 : Nat) (Z0 : n0 ≤ h0.size) (F_publishingEnabled_o0 : Fld Z h0 o0 "com/example/pulsekeep/pulsekeep/core/SubscriptionSettings" "publishingEnabled" "Z" (.int w1)) :
    MetFree l (⟨"com/example/pulsekeep/pulsekeep/core/SubscriptionSettings", "publishingEnabled", "()Z"⟩ : MethodName) (head1 (Jvm.Cond.code (⟨"com/example/pulsekeep/pulsekeep/core/SubscriptionSettings", "publishingEnabled", "()Z"⟩ : MethodName) prog_47_method_12_code 1 (some .boolean) :: ws) ({ frames := 0, cells := 0, slots := 0, locals := 0 } : Room)) (fun a U => a = #[(.ref o0)] ∧ Z.Warmed39 U.vm ∧ U.heap = h0) (fun _ _ _ _ _ => True) (fun _ U o U' => ∃ v L, o = .returned v ∧ Q13 Z o0 w1 h0 n0 v U'.heap L ∧ FrameEnd U o U' L ({ frames := 0, cells := 0, slots := 0, locals := 0 } : Room).cells ({ frames := 0, cells := 0, slots := 0, locals := 0 } : Room).slots) := by
  refine MetFree.of_bodySF (plainFor_of_name pn_13) hisR ?_
  intro p e s m args below meth c s₁ Bd hml0 hP hK
  obtain ⟨rfl, hZ, hh⟩ := hP
  have hx := Bd.exec
  have hby := Bd.bytes
  have hml : c.maxLocals = 1 := hml0
  have hown : s.vm.findClass "com/example/pulsekeep/pulsekeep/core/SubscriptionSettings" = some m.cls := findClass_of_methodNamed Bd.named
  have hnm := (name_of_methodNamed Bd.named Bd.method).1
  have hrt := Bd.returns
  have hlk := Bd.notSynchronized
  have X0 : Stand p l e ({ frames := 0, cells := 0, slots := 0, locals := 0 } : Room) s m #[(.ref o0)] below meth c s₁ [] 0 0 := Stand.of_body Bd
  have e0 : s₁.heap = h0 := by rw [← hh, Bd.state]; rfl
  have N0 := Fr.nil n0
  have lt_F_publishingEnabled_o0 : LT.lt (α := Nat) o0 h0.size := F_publishingEnabled_o0.lt
  show Go p e below s 0 0 (Q13 Z o0 w1 h0 n0) (s₁.setTop (entryFrame m #[(.ref o0)] 1))
  rw [ef_13 m o0]
  refine Go.pre (st' := s₁.setTop (mkF m 1 #[.val (.ref o0)] [(.ref o0)])) (fun target kt => ?_) ?_
  · show Steps p.tables e below (s₁.setTop (mkF m 0 #[.val (.ref o0)] [])) _
    refine XS.aloadN X0.here hx rfl (hb hby d13_0) rfl rfl ?_
    exact kt
  obtain ⟨T2, X2, e2, st2⟩ := getF X0 hx hZ hown (host := "") (Or.inl (hw _ (List.mem_of_getElem? (i := 23) rfl))) Via.refl e0 F_publishingEnabled_o0 (g := (mkF m 1 #[.val (.ref o0)] [(.ref o0)])) rfl rfl (hb hby d13_1)
  refine Go.pre st2 ?_
  show Go p e below s _ _ _ (T2.setTop (mkF m 4 #[.val (.ref o0)] [(.int w1)]))
  exact Go.retN X2 hx hlk hrt (z' := (w1 &&& 1)) (by simp) (hb hby d13_4) rfl (by decide) (by decide) (by rw [e2]; exact ⟨rfl, N0, rfl⟩)
/-! SubscriptionSettings.lifetimeCount (14) -/
theorem d14_0 : decode prog_47_method_9_code 0 = .ok (.aload_n 0, 1) := by decide +kernel
theorem d14_1 : decode prog_47_method_9_code 1 = .ok (.getfield 13, 3) := by decide +kernel
theorem d14_4 : decode prog_47_method_9_code 4 = .ok (.lreturn, 1) := by decide +kernel
theorem pn_14 : plainName "com/example/pulsekeep/pulsekeep/core/SubscriptionSettings" = true := by first | (simp [plainName, overriddenIn]; done) | decide +kernel
theorem ef_14 (m : MethodId) (o0 : Addr) : entryFrame m #[(.ref o0)] 1 = (mkF m 0 #[.val (.ref o0)] []) := by first | (simp [entryFrame, mkF, argsToLocals, Value.category]; done) | rfl
def Q14 (Z : State) (o0 : Addr) (w1 : Int64) (h0 : Heap) (n0 : Nat) (v : Option Value) (h : Heap) (L : List Loc) : Prop := v = some (.long w1) ∧ Fr n0 L ∧ h = h0
set_option maxRecDepth 65536 in
set_option maxHeartbeats 40000000 in
theorem rm14 (l : Launch) (Z : State) (a0 : Array Value) (hw : ∀ d ∈ tables_1, d.before a0 Z = true) (ws : List Jvm.Cond) (o0 : Addr) (w1 : Int64) (h0 : Heap) (n0 : Nat) (Z0 : n0 ≤ h0.size) (F_lifetimeCount_o0 : Fld Z h0 o0 "com/example/pulsekeep/pulsekeep/core/SubscriptionSettings" "lifetimeCount" "J" (.long w1)) :
    MetFree l (⟨"com/example/pulsekeep/pulsekeep/core/SubscriptionSettings", "lifetimeCount", "()J"⟩ : MethodName) (head1 (Jvm.Cond.code (⟨"com/example/pulsekeep/pulsekeep/core/SubscriptionSettings", "lifetimeCount", "()J"⟩ : MethodName) prog_47_method_9_code 1 (some .long) :: ws) ({ frames := 0, cells := 0, slots := 0, locals := 0 } : Room)) (fun a U => a = #[(.ref o0)] ∧ Z.Warmed39 U.vm ∧ U.heap = h0) (fun _ _ _ _ _ => True) (fun _ U o U' => ∃ v L, o = .returned v ∧ Q14 Z o0 w1 h0 n0 v U'.heap L ∧ FrameEnd U o U' L ({ frames := 0, cells := 0, slots := 0, locals := 0 } : Room).cells ({ frames := 0, cells := 0, slots := 0, locals := 0 } : Room).slots) := by
  refine MetFree.of_bodySF (plainFor_of_name pn_14) hisR ?_
  intro p e s m args below meth c s₁ Bd hml0 hP hK
  obtain ⟨rfl, hZ, hh⟩ := hP
  have hx := Bd.exec
  have hby := Bd.bytes
  have hml : c.maxLocals = 1 := hml0
  have hown : s.vm.findClass "com/example/pulsekeep/pulsekeep/core/SubscriptionSettings" = some m.cls := findClass_of_methodNamed Bd.named
  have hnm := (name_of_methodNamed Bd.named Bd.method).1
  have hrt := Bd.returns
  have hlk := Bd.notSynchronized
  have X0 : Stand p l e ({ frames := 0, cells := 0, slots := 0, locals := 0 } : Room) s m #[(.ref o0)] below meth c s₁ [] 0 0 := Stand.of_body Bd
  have e0 : s₁.heap = h0 := by rw [← hh, Bd.state]; rfl
  have N0 := Fr.nil n0
  have lt_F_lifetimeCount_o0 : LT.lt (α := Nat) o0 h0.size := F_lifetimeCount_o0.lt
  show Go p e below s 0 0 (Q14 Z o0 w1 h0 n0) (s₁.setTop (entryFrame m #[(.ref o0)] 1))
  rw [ef_14 m o0]
  refine Go.pre (st' := s₁.setTop (mkF m 1 #[.val (.ref o0)] [(.ref o0)])) (fun target kt => ?_) ?_
  · show Steps p.tables e below (s₁.setTop (mkF m 0 #[.val (.ref o0)] [])) _
    refine XS.aloadN X0.here hx rfl (hb hby d14_0) rfl rfl ?_
    exact kt
  obtain ⟨T2, X2, e2, st2⟩ := getF X0 hx hZ hown (host := "") (Or.inl (hw _ (List.mem_of_getElem? (i := 17) rfl))) Via.refl e0 F_lifetimeCount_o0 (g := (mkF m 1 #[.val (.ref o0)] [(.ref o0)])) rfl rfl (hb hby d14_1)
  refine Go.pre st2 ?_
  show Go p e below s _ _ _ (T2.setTop (mkF m 4 #[.val (.ref o0)] [(.long w1)]))
  exact Go.retV X2 hx hlk hrt rfl (Or.inr (Or.inl ⟨rfl, rfl, _, rfl⟩)) (hb hby d14_4) (by decide) (by decide) (by rw [e2]; exact ⟨rfl, N0, rfl⟩)
/-! Subscription.hasMessageDue (16) -/
theorem d16_0 : decode prog_45_method_30_code 0 = .ok (.aload_n 0, 1) := by decide +kernel
theorem d16_1 : decode prog_45_method_30_code 1 = .ok (.getfield 164, 3) := by decide +kernel
theorem d16_4 : decode prog_45_method_30_code 4 = .ok (.ireturn, 1) := by decide +kernel
theorem pn_16 : plainName "com/example/pulsekeep/pulsekeep/core/Subscription" = true := by first | (simp [plainName, overriddenIn]; done) | decide +kernel
theorem ef_16 (m : MethodId) (o0 : Addr) : entryFrame m #[(.ref o0)] 1 = (mkF m 0 #[.val (.ref o0)] []) := by first | (simp [entryFrame, mkF, argsToLocals, Value.category]; done) | rfl
def Q16 (Z : State) (o0 : Addr) (w1 : Int32) (h0 : Heap) (n0 : Nat) (v : Option Value) (h : Heap) (L : List Loc) : Prop := v = some (.int (w1 &&& 1)) ∧ Fr n0 L ∧ h = h0
set_option maxRecDepth 65536 in
set_option maxHeartbeats 40000000 in
theorem rm16 (l : Launch) (Z : State) (a0 : Array Value) (hw : ∀ d ∈ tables_1, d.before a0 Z = true) (ws : List Jvm.Cond) (o0 : Addr) (w1 : Int32) (h0 : Heap) (n0 : Nat) (Z0 : n0 ≤ h0.size) (F_messageDue_o0 : Fld Z h0 o0 "com/example/pulsekeep/pulsekeep/core/Subscription" "messageDue" "Z" (.int w1)) :
    MetFree l (⟨"com/example/pulsekeep/pulsekeep/core/Subscription", "hasMessageDue", "()Z"⟩ : MethodName) (head1 (Jvm.Cond.code (⟨"com/example/pulsekeep/pulsekeep/core/Subscription", "hasMessageDue", "()Z"⟩ : MethodName) prog_45_method_30_code 1 (some .boolean) :: ws) ({ frames := 0, cells := 0, slots := 0, locals := 0 } : Room)) (fun a U => a = #[(.ref o0)] ∧ Z.Warmed39 U.vm ∧ U.heap = h0) (fun _ _ _ _ _ => True) (fun _ U o U' => ∃ v L, o = .returned v ∧ Q16 Z o0 w1 h0 n0 v U'.heap L ∧ FrameEnd U o U' L ({ frames := 0, cells := 0, slots := 0, locals := 0 } : Room).cells ({ frames := 0, cells := 0, slots := 0, locals := 0 } : Room).slots) := by
  refine MetFree.of_bodySF (plainFor_of_name pn_16) hisR ?_
  intro p e s m args below meth c s₁ Bd hml0 hP hK
  obtain ⟨rfl, hZ, hh⟩ := hP
  have hx := Bd.exec
  have hby := Bd.bytes
  have hml : c.maxLocals = 1 := hml0
  have hown : s.vm.findClass "com/example/pulsekeep/pulsekeep/core/Subscription" = some m.cls := findClass_of_methodNamed Bd.named
  have hnm := (name_of_methodNamed Bd.named Bd.method).1
  have hrt := Bd.returns
  have hlk := Bd.notSynchronized
  have X0 : Stand p l e ({ frames := 0, cells := 0, slots := 0, locals := 0 } : Room) s m #[(.ref o0)] below meth c s₁ [] 0 0 := Stand.of_body Bd
  have e0 : s₁.heap = h0 := by rw [← hh, Bd.state]; rfl
  have N0 := Fr.nil n0
  have lt_F_messageDue_o0 : LT.lt (α := Nat) o0 h0.size := F_messageDue_o0.lt
  show Go p e below s 0 0 (Q16 Z o0 w1 h0 n0) (s₁.setTop (entryFrame m #[(.ref o0)] 1))
  rw [ef_16 m o0]
  refine Go.pre (st' := s₁.setTop (mkF m 1 #[.val (.ref o0)] [(.ref o0)])) (fun target kt => ?_) ?_
  · show Steps p.tables e below (s₁.setTop (mkF m 0 #[.val (.ref o0)] [])) _
    refine XS.aloadN X0.here hx rfl (hb hby d16_0) rfl rfl ?_
    exact kt
  obtain ⟨T2, X2, e2, st2⟩ := getF X0 hx hZ hown (host := "") (Or.inl (hw _ (List.mem_of_getElem? (i := 138) rfl))) Via.refl e0 F_messageDue_o0 (g := (mkF m 1 #[.val (.ref o0)] [(.ref o0)])) rfl rfl (hb hby d16_1)
  refine Go.pre st2 ?_
  show Go p e below s _ _ _ (T2.setTop (mkF m 4 #[.val (.ref o0)] [(.int w1)]))
  exact Go.retN X2 hx hlk hrt (z' := (w1 &&& 1)) (by simp) (hb hby d16_4) rfl (by decide) (by decide) (by rw [e2]; exact ⟨rfl, N0, rfl⟩)
/-! Subscription.startAgain (15) -/
theorem d15_0 : decode prog_45_method_25_code 0 = .ok (.aload_n 0, 1) := by decide +kernel
theorem d15_1 : decode prog_45_method_25_code 1 = .ok (.iconst 0, 1) := by decide +kernel
theorem d15_2 : decode prog_45_method_25_code 2 = .ok (.putfield 160, 3) := by decide +kernel
theorem d15_5 : decode prog_45_method_25_code 5 = .ok (.aload_n 0, 1) := by decide +kernel
theorem d15_6 : decode prog_45_method_25_code 6 = .ok (.iconst 0, 1) := by decide +kernel
theorem d15_7 : decode prog_45_method_25_code 7 = .ok (.putfield 164, 3) := by decide +kernel
theorem d15_10 : decode prog_45_method_25_code 10 = .ok (.aload_n 0, 1) := by decide +kernel
theorem d15_11 : decode prog_45_method_25_code 11 = .ok (.lconst 0, 1) := by decide +kernel
theorem d15_12 : decode prog_45_method_25_code 12 = .ok (.putfield 167, 3) := by decide +kernel
theorem d15_15 : decode prog_45_method_25_code 15 = .ok (.aload_n 0, 1) := by decide +kernel
theorem d15_16 : decode prog_45_method_25_code 16 = .ok (.lconst 0, 1) := by decide +kernel
theorem d15_17 : decode prog_45_method_25_code 17 = .ok (.putfield 170, 3) := by decide +kernel
theorem d15_20 : decode prog_45_method_25_code 20 = .ok (.return_, 1) := by decide +kernel
theorem pn_15 : plainName "com/example/pulsekeep/pulsekeep/core/Subscription" = true := by first | (simp [plainName, overriddenIn]; done) | decide +kernel
theorem ef_15 (m : MethodId) (o0 : Addr) : entryFrame m #[(.ref o0)] 1 = (mkF m 0 #[.val (.ref o0)] []) := by first | (simp [entryFrame, mkF, argsToLocals, Value.category]; done) | rfl
def Q15 (Z : State) (o0 : Addr) (u1 : Value) (u4 : Value) (u9 : Value) (u14 : Value) (h0 : Heap) (n0 : Nat) (v : Option Value) (h : Heap) (L : List Loc) : Prop := v = none ∧ Fr n0 L ∧ Keep h0 h [o0] ∧ KF Z h0 h [(o0, Jvm.RoadKit.slotOf Z "com/example/pulsekeep/pulsekeep/core/Subscription" "messageSent" "Z"), (o0, Jvm.RoadKit.slotOf Z "com/example/pulsekeep/pulsekeep/core/Subscription" "messageDue" "Z"), (o0, Jvm.RoadKit.slotOf Z "com/example/pulsekeep/pulsekeep/core/Subscription" "emptyCycles" "J"), (o0, Jvm.RoadKit.slotOf Z "com/example/pulsekeep/pulsekeep/core/Subscription" "cyclesWithoutRequest" "J")] ∧ Fld Z h o0 "com/example/pulsekeep/pulsekeep/core/Subscription" "messageSent" "Z" (.int (0 : Int32)) ∧ Fld Z h o0 "com/example/pulsekeep/pulsekeep/core/Subscription" "messageDue" "Z" (.int (0 : Int32)) ∧ Fld Z h o0 "com/example/pulsekeep/pulsekeep/core/Subscription" "emptyCycles" "J" (.long (0 : Int64)) ∧ Fld Z h o0 "com/example/pulsekeep/pulsekeep/core/Subscription" "cyclesWithoutRequest" "J" (.long (0 : Int64))
set_option maxRecDepth 65536 in
set_option maxHeartbeats 40000000 in
theorem rm15 (l : Launch) (Z : State) (a0 : Array Value) (hw : ∀ d ∈ tables_1, d.before a0 Z = true) (ws : List Jvm.Cond) (o0 : Addr) (u1 : Value) (u4 : Value) (u9 : Value) (u14 : Value) (h0 : Heap) (n0 : Nat) (Z0 : n0 ≤ h0.size) (F_messageSent_o0 : Fld Z h0 o0 "com/example/pulsekeep/pulsekeep/core/Subscription" "messageSent" "Z" u1) (E_o0 : Exa Z h0 o0 "com/example/pulsekeep/pulsekeep/core/Subscription") (g_o0 : n0 ≤ o0) (F_messageDue_o0 : Fld Z h0 o0 "com/example/pulsekeep/pulsekeep/core/Subscription" "messageDue" "Z" u4) (F_emptyCycles_o0 : Fld Z h0 o0 "com/example/pulsekeep/pulsekeep/core/Subscription" "emptyCycles" "J" u9) (F_cyclesWithoutRequest_o0 : Fld Z h0 o0 "com/example/pulsekeep/pulsekeep/core/Subscription" "cyclesWithoutRequest" "J" u14) :
    MetFree l (⟨"com/example/pulsekeep/pulsekeep/core/Subscription", "startAgain", "()V"⟩ : MethodName) (head1 (Jvm.Cond.code (⟨"com/example/pulsekeep/pulsekeep/core/Subscription", "startAgain", "()V"⟩ : MethodName) prog_45_method_25_code 1 none :: ws) ({ frames := 0, cells := 0, slots := 0, locals := 0 } : Room)) (fun a U => a = #[(.ref o0)] ∧ Z.Warmed39 U.vm ∧ U.heap = h0) (fun _ _ _ _ _ => True) (fun _ U o U' => ∃ v L, o = .returned v ∧ Q15 Z o0 u1 u4 u9 u14 h0 n0 v U'.heap L ∧ FrameEnd U o U' L ({ frames := 0, cells := 0, slots := 0, locals := 0 } : Room).cells ({ frames := 0, cells := 0, slots := 0, locals := 0 } : Room).slots) := by
  refine MetFree.of_bodySF (plainFor_of_name pn_15) hisR ?_
  intro p e s m args below meth c s₁ Bd hml0 hP hK
  obtain ⟨rfl, hZ, hh⟩ := hP
  have hx := Bd.exec
  have hby := Bd.bytes
  have hml : c.maxLocals = 1 := hml0
  have hown : s.vm.findClass "com/example/pulsekeep/pulsekeep/core/Subscription" = some m.cls := findClass_of_methodNamed Bd.named
  have hnm := (name_of_methodNamed Bd.named Bd.method).1
  have hrt := Bd.returns
  have hlk := Bd.notSynchronized
  have X0 : Stand p l e ({ frames := 0, cells := 0, slots := 0, locals := 0 } : Room) s m #[(.ref o0)] below meth c s₁ [] 0 0 := Stand.of_body Bd
  have e0 : s₁.heap = h0 := by rw [← hh, Bd.state]; rfl
  have N0 := Fr.nil n0
  have lt_F_messageSent_o0 : LT.lt (α := Nat) o0 h0.size := F_messageSent_o0.lt
  have lt_E_o0 : LT.lt (α := Nat) o0 h0.size := E_o0.lt
  have lt_F_messageDue_o0 : LT.lt (α := Nat) o0 h0.size := F_messageDue_o0.lt
  have lt_F_emptyCycles_o0 : LT.lt (α := Nat) o0 h0.size := F_emptyCycles_o0.lt
  have lt_F_cyclesWithoutRequest_o0 : LT.lt (α := Nat) o0 h0.size := F_cyclesWithoutRequest_o0.lt
  show Go p e below s 0 0 (Q15 Z o0 u1 u4 u9 u14 h0 n0) (s₁.setTop (entryFrame m #[(.ref o0)] 1))
  rw [ef_15 m o0]
  refine Go.pre (st' := s₁.setTop (mkF m 2 #[.val (.ref o0)] [(.int (0 : Int32)), (.ref o0)])) (fun target kt => ?_) ?_
  · show Steps p.tables e below (s₁.setTop (mkF m 0 #[.val (.ref o0)] [])) _
    refine XS.aloadN X0.here hx rfl (hb hby d15_0) rfl rfl ?_
    show Steps p.tables e below (s₁.setTop (mkF m 1 #[.val (.ref o0)] [(.ref o0)])) _
    refine XS.iconst X0.here hx rfl (hb hby d15_1) ?_
    exact kt
  obtain ⟨T2, h2, X2, e2, W2, st2⟩ := putFN X0 hx hZ hown (hw _ (List.mem_of_getElem? (i := 129) rfl)) Via.refl e0 F_messageSent_o0 E_o0 (Or.inl (hw _ (List.mem_of_getElem? (i := 130) rfl))) (hw _ (List.mem_of_getElem? (i := 28) rfl)) (ty := .boolean) (v' := (.int (0 : Int32))) (by decide) rfl rfl (g := (mkF m 2 #[.val (.ref o0)] [(.int (0 : Int32)), (.ref o0)])) rfl rfl (hb hby d15_2)
  have sz2 : h0.size ≤ h2.size := (Keep.of_wr W2).1
  have Y3 : Fld Z h2 o0 "com/example/pulsekeep/pulsekeep/core/Subscription" "messageSent" "Z" (.int (0 : Int32)) := F_messageSent_o0.same W2
  have N2 := Fr.snoc X2 N0 (by omega)
  refine Go.pre st2 ?_
  show Go p e below s _ _ _ (T2.setTop (mkF m 5 #[.val (.ref o0)] []))
  refine Go.pre (st' := T2.setTop (mkF m 7 #[.val (.ref o0)] [(.int (0 : Int32)), (.ref o0)])) (fun target kt => ?_) ?_
  · show Steps p.tables e below (T2.setTop (mkF m 5 #[.val (.ref o0)] [])) _
    refine XS.aloadN X2.here hx rfl (hb hby d15_5) rfl rfl ?_
    show Steps p.tables e below (T2.setTop (mkF m 6 #[.val (.ref o0)] [(.ref o0)])) _
    refine XS.iconst X2.here hx rfl (hb hby d15_6) ?_
    exact kt
  have Y5 : Fld Z h2 o0 "com/example/pulsekeep/pulsekeep/core/Subscription" "messageDue" "Z" u4 := (F_messageDue_o0.other W2 (Or.inr (slot_ne (Or.inl (hw _ (List.mem_of_getElem? (i := 139) rfl))) (Or.inl (hw _ (List.mem_of_getElem? (i := 130) rfl))) (by decide) (t := .boolean) (t' := .boolean) (by decide) (by decide))))
  have Y6 : Exa Z h2 o0 "com/example/pulsekeep/pulsekeep/core/Subscription" := (E_o0.wr W2)
  obtain ⟨T7, h7, X7, e7, W7, st7⟩ := putFN X2 hx hZ hown (hw _ (List.mem_of_getElem? (i := 138) rfl)) Via.refl e2 Y5 Y6 (Or.inl (hw _ (List.mem_of_getElem? (i := 139) rfl))) (hw _ (List.mem_of_getElem? (i := 28) rfl)) (ty := .boolean) (v' := (.int (0 : Int32))) (by decide) rfl rfl (g := (mkF m 7 #[.val (.ref o0)] [(.int (0 : Int32)), (.ref o0)])) rfl rfl (hb hby d15_7)
  have sz7 : h2.size ≤ h7.size := (Keep.of_wr W7).1
  have Y8 : Fld Z h7 o0 "com/example/pulsekeep/pulsekeep/core/Subscription" "messageDue" "Z" (.int (0 : Int32)) := Y5.same W7
  have N7 := Fr.snoc X7 N2 (by omega)
  refine Go.pre st7 ?_
  show Go p e below s _ _ _ (T7.setTop (mkF m 10 #[.val (.ref o0)] []))
  refine Go.pre (st' := T7.setTop (mkF m 12 #[.val (.ref o0)] [(.long (0 : Int64)), (.ref o0)])) (fun target kt => ?_) ?_
  · show Steps p.tables e below (T7.setTop (mkF m 10 #[.val (.ref o0)] [])) _
    refine XS.aloadN X7.here hx rfl (hb hby d15_10) rfl rfl ?_
    show Steps p.tables e below (T7.setTop (mkF m 11 #[.val (.ref o0)] [(.ref o0)])) _
    refine XS.lconst X7.here hx rfl (hb hby d15_11) ?_
    exact kt
  have Y10 : Fld Z h7 o0 "com/example/pulsekeep/pulsekeep/core/Subscription" "emptyCycles" "J" u9 := ((F_emptyCycles_o0.other W2 (Or.inr (slot_ne (Or.inl (hw _ (List.mem_of_getElem? (i := 149) rfl))) (Or.inl (hw _ (List.mem_of_getElem? (i := 130) rfl))) (by decide) (t := .long) (t' := .boolean) (by decide) (by decide)))).other W7 (Or.inr (slot_ne (Or.inl (hw _ (List.mem_of_getElem? (i := 149) rfl))) (Or.inl (hw _ (List.mem_of_getElem? (i := 139) rfl))) (by decide) (t := .long) (t' := .boolean) (by decide) (by decide))))
  have Y11 : Exa Z h7 o0 "com/example/pulsekeep/pulsekeep/core/Subscription" := (Y6.wr W7)
  obtain ⟨T12, h12, X12, e12, W12, st12⟩ := putF X7 hx hZ hown (host := "") (Or.inl (hw _ (List.mem_of_getElem? (i := 148) rfl))) Via.refl e7 Y10 Y11 (Or.inl (hw _ (List.mem_of_getElem? (i := 149) rfl))) (hw _ (List.mem_of_getElem? (i := 28) rfl)) (ty := .long) (by decide) rfl rfl (g := (mkF m 12 #[.val (.ref o0)] [(.long (0 : Int64)), (.ref o0)])) rfl rfl (hb hby d15_12)
  have sz12 : h7.size ≤ h12.size := (Keep.of_wr W12).1
  have Y13 : Fld Z h12 o0 "com/example/pulsekeep/pulsekeep/core/Subscription" "emptyCycles" "J" (.long (0 : Int64)) := Y10.same W12
  have N12 := Fr.snoc X12 N7 (by omega)
  refine Go.pre st12 ?_
  show Go p e below s _ _ _ (T12.setTop (mkF m 15 #[.val (.ref o0)] []))
  refine Go.pre (st' := T12.setTop (mkF m 17 #[.val (.ref o0)] [(.long (0 : Int64)), (.ref o0)])) (fun target kt => ?_) ?_
  · show Steps p.tables e below (T12.setTop (mkF m 15 #[.val (.ref o0)] [])) _
    refine XS.aloadN X12.here hx rfl (hb hby d15_15) rfl rfl ?_
    show Steps p.tables e below (T12.setTop (mkF m 16 #[.val (.ref o0)] [(.ref o0)])) _
    refine XS.lconst X12.here hx rfl (hb hby d15_16) ?_
    exact kt
  have Y15 : Fld Z h12 o0 "com/example/pulsekeep/pulsekeep/core/Subscription" "cyclesWithoutRequest" "J" u14 := (((F_cyclesWithoutRequest_o0.other W2 (Or.inr (slot_ne (Or.inl (hw _ (List.mem_of_getElem? (i := 132) rfl))) (Or.inl (hw _ (List.mem_of_getElem? (i := 130) rfl))) (by decide) (t := .long) (t' := .boolean) (by decide) (by decide)))).other W7 (Or.inr (slot_ne (Or.inl (hw _ (List.mem_of_getElem? (i := 132) rfl))) (Or.inl (hw _ (List.mem_of_getElem? (i := 139) rfl))) (by decide) (t := .long) (t' := .boolean) (by decide) (by decide)))).other W12 (Or.inr (slot_ne (Or.inl (hw _ (List.mem_of_getElem? (i := 132) rfl))) (Or.inl (hw _ (List.mem_of_getElem? (i := 149) rfl))) (by decide) (t := .long) (t' := .long) (by decide) (by decide))))
  have Y16 : Exa Z h12 o0 "com/example/pulsekeep/pulsekeep/core/Subscription" := (Y11.wr W12)
  obtain ⟨T17, h17, X17, e17, W17, st17⟩ := putF X12 hx hZ hown (host := "") (Or.inl (hw _ (List.mem_of_getElem? (i := 131) rfl))) Via.refl e12 Y15 Y16 (Or.inl (hw _ (List.mem_of_getElem? (i := 132) rfl))) (hw _ (List.mem_of_getElem? (i := 28) rfl)) (ty := .long) (by decide) rfl rfl (g := (mkF m 17 #[.val (.ref o0)] [(.long (0 : Int64)), (.ref o0)])) rfl rfl (hb hby d15_17)
  have sz17 : h12.size ≤ h17.size := (Keep.of_wr W17).1
  have Y18 : Fld Z h17 o0 "com/example/pulsekeep/pulsekeep/core/Subscription" "cyclesWithoutRequest" "J" (.long (0 : Int64)) := Y15.same W17
  have N17 := Fr.snoc X17 N12 (by omega)
  refine Go.pre st17 ?_
  show Go p e below s _ _ _ (T17.setTop (mkF m 20 #[.val (.ref o0)] []))
  have Y19 : Fld Z h17 o0 "com/example/pulsekeep/pulsekeep/core/Subscription" "messageSent" "Z" (.int (0 : Int32)) := (((Y3.other W7 (Or.inr (slot_ne (Or.inl (hw _ (List.mem_of_getElem? (i := 130) rfl))) (Or.inl (hw _ (List.mem_of_getElem? (i := 139) rfl))) (by decide) (t := .boolean) (t' := .boolean) (by decide) (by decide)))).other W12 (Or.inr (slot_ne (Or.inl (hw _ (List.mem_of_getElem? (i := 130) rfl))) (Or.inl (hw _ (List.mem_of_getElem? (i := 149) rfl))) (by decide) (t := .boolean) (t' := .long) (by decide) (by decide)))).other W17 (Or.inr (slot_ne (Or.inl (hw _ (List.mem_of_getElem? (i := 130) rfl))) (Or.inl (hw _ (List.mem_of_getElem? (i := 132) rfl))) (by decide) (t := .boolean) (t' := .long) (by decide) (by decide))))
  have Y20 : Fld Z h17 o0 "com/example/pulsekeep/pulsekeep/core/Subscription" "messageDue" "Z" (.int (0 : Int32)) := ((Y8.other W12 (Or.inr (slot_ne (Or.inl (hw _ (List.mem_of_getElem? (i := 139) rfl))) (Or.inl (hw _ (List.mem_of_getElem? (i := 149) rfl))) (by decide) (t := .boolean) (t' := .long) (by decide) (by decide)))).other W17 (Or.inr (slot_ne (Or.inl (hw _ (List.mem_of_getElem? (i := 139) rfl))) (Or.inl (hw _ (List.mem_of_getElem? (i := 132) rfl))) (by decide) (t := .boolean) (t' := .long) (by decide) (by decide))))
  have Y21 : Fld Z h17 o0 "com/example/pulsekeep/pulsekeep/core/Subscription" "emptyCycles" "J" (.long (0 : Int64)) := (Y13.other W17 (Or.inr (slot_ne (Or.inl (hw _ (List.mem_of_getElem? (i := 149) rfl))) (Or.inl (hw _ (List.mem_of_getElem? (i := 132) rfl))) (by decide) (t := .long) (t' := .long) (by decide) (by decide))))
  exact Go.ret0 X17 hx hlk hrt (hb hby d15_20) (by decide) (by decide) (by rw [e17]; exact ⟨rfl, N17, (((((Keep.refl h0 [o0]).wr W2 (Or.inl (List.mem_of_getElem? (i := 0) rfl))).wr W7 (Or.inl (List.mem_of_getElem? (i := 0) rfl))).wr W12 (Or.inl (List.mem_of_getElem? (i := 0) rfl))).wr W17 (Or.inl (List.mem_of_getElem? (i := 0) rfl))), (((((KF.refl Z h0 [(o0, Jvm.RoadKit.slotOf Z "com/example/pulsekeep/pulsekeep/core/Subscription" "messageSent" "Z"), (o0, Jvm.RoadKit.slotOf Z "com/example/pulsekeep/pulsekeep/core/Subscription" "messageDue" "Z"), (o0, Jvm.RoadKit.slotOf Z "com/example/pulsekeep/pulsekeep/core/Subscription" "emptyCycles" "J"), (o0, Jvm.RoadKit.slotOf Z "com/example/pulsekeep/pulsekeep/core/Subscription" "cyclesWithoutRequest" "J")]).wr W2 (Or.inl (List.mem_of_getElem? (i := 0) rfl))).wr W7 (Or.inl (List.mem_of_getElem? (i := 1) rfl))).wr W12 (Or.inl (List.mem_of_getElem? (i := 2) rfl))).wr W17 (Or.inl (List.mem_of_getElem? (i := 3) rfl))), Y19, Y20, Y21, Y18⟩)
/-! ArrayList$Itr.<init> (18) -/
theorem d18_0 : decode jdk_49_method_1_code 0 = .ok (.aload_n 0, 1) := by decide +kernel
theorem d18_1 : decode jdk_49_method_1_code 1 = .ok (.aload_n 1, 1) := by decide +kernel
theorem d18_2 : decode jdk_49_method_1_code 2 = .ok (.putfield 1, 3) := by decide +kernel
theorem d18_5 : decode jdk_49_method_1_code 5 = .ok (.aload_n 0, 1) := by decide +kernel
theorem d18_6 : decode jdk_49_method_1_code 6 = .ok (.invokespecial 7, 3) := by decide +kernel
theorem d18_9 : decode jdk_49_method_1_code 9 = .ok (.aload_n 0, 1) := by decide +kernel
theorem d18_10 : decode jdk_49_method_1_code 10 = .ok (.iconst (-1), 1) := by decide +kernel
theorem d18_11 : decode jdk_49_method_1_code 11 = .ok (.putfield 13, 3) := by decide +kernel
theorem d18_14 : decode jdk_49_method_1_code 14 = .ok (.aload_n 0, 1) := by decide +kernel
theorem d18_15 : decode jdk_49_method_1_code 15 = .ok (.aload_n 0, 1) := by decide +kernel
theorem d18_16 : decode jdk_49_method_1_code 16 = .ok (.getfield 1, 3) := by decide +kernel
theorem d18_19 : decode jdk_49_method_1_code 19 = .ok (.getfield 17, 3) := by decide +kernel
theorem d18_22 : decode jdk_49_method_1_code 22 = .ok (.putfield 22, 3) := by decide +kernel
theorem d18_25 : decode jdk_49_method_1_code 25 = .ok (.return_, 1) := by decide +kernel
theorem pn_18 : plainName "java/util/ArrayList$Itr" = true := by first | (simp [plainName, overriddenIn]; done) | decide +kernel
theorem ef_18 (m : MethodId) (o0 : Addr) (o1 : Addr) : entryFrame m #[(.ref o0), (.ref o1)] 2 = (mkF m 0 #[.val (.ref o0), .val (.ref o1)] []) := by first | (simp [entryFrame, mkF, argsToLocals, Value.category]; done) | rfl
def Q18 (Z : State) (o0 : Addr) (o1 : Addr) (u1 : Value) (u5 : Value) (w12 : Int32) (u15 : Value) (h0 : Heap) (n0 : Nat) (v : Option Value) (h : Heap) (L : List Loc) : Prop := v = none ∧ Fr n0 L ∧ Keep h0 h [o0] ∧ KF Z h0 h [(o0, Jvm.RoadKit.slotOf Z "java/util/ArrayList$Itr" "this$0" "Ljava/util/ArrayList;"), (o0, Jvm.RoadKit.slotOf Z "java/util/ArrayList$Itr" "lastRet" "I"), (o0, Jvm.RoadKit.slotOf Z "java/util/ArrayList$Itr" "expectedModCount" "I")] ∧ Fld Z h o0 "java/util/ArrayList$Itr" "this$0" "Ljava/util/ArrayList;" (.ref o1) ∧ Fld Z h o0 "java/util/ArrayList$Itr" "lastRet" "I" (.int (-1 : Int32)) ∧ Fld Z h o0 "java/util/ArrayList$Itr" "expectedModCount" "I" (.int w12)
set_option maxRecDepth 65536 in
set_option maxHeartbeats 40000000 in
theorem rm18 (l : Launch) (Z : State) (a0 : Array Value) (hw : ∀ d ∈ tables_1, d.before a0 Z = true) (ws : List Jvm.Cond) (o0 : Addr) (o1 : Addr) (u1 : Value) (u5 : Value) (w12 : Int32) (u15 : Value) (h0 : Heap) (n0 : Nat) (Z0 : n0 ≤ h0.size) (E_o1 : Exa Z h0 o1 "java/util/ArrayList") (F_this_0_o0 : Fld Z h0 o0 "java/util/ArrayList$Itr" "this$0" "Ljava/util/ArrayList;" u1) (E_o0 : Exa Z h0 o0 "java/util/ArrayList$Itr") (g_o0 : n0 ≤ o0) (F_lastRet_o0 : Fld Z h0 o0 "java/util/ArrayList$Itr" "lastRet" "I" u5) (F_modCount_o1 : Fld Z h0 o1 "java/util/AbstractList" "modCount" "I" (.int w12)) (F_expectedModCount_o0 : Fld Z h0 o0 "java/util/ArrayList$Itr" "expectedModCount" "I" u15) :
    MetFree l (⟨"java/util/ArrayList$Itr", "<init>", "(Ljava/util/ArrayList;)V"⟩ : MethodName) (head1 (Jvm.Cond.code (⟨"java/util/ArrayList$Itr", "<init>", "(Ljava/util/ArrayList;)V"⟩ : MethodName) jdk_49_method_1_code 2 none :: ws) ({ frames := 1, cells := 0, slots := 0, locals := 12 } : Room)) (fun a U => a = #[(.ref o0), (.ref o1)] ∧ Z.Warmed39 U.vm ∧ U.heap = h0) (fun _ _ _ _ _ => True) (fun _ U o U' => ∃ v L, o = .returned v ∧ Q18 Z o0 o1 u1 u5 w12 u15 h0 n0 v U'.heap L ∧ FrameEnd U o U' L ({ frames := 1, cells := 0, slots := 0, locals := 12 } : Room).cells ({ frames := 1, cells := 0, slots := 0, locals := 12 } : Room).slots) := by
  refine MetFree.of_bodySF (plainFor_of_name pn_18) hisR ?_
  intro p e s m args below meth c s₁ Bd hml0 hP hK
  obtain ⟨rfl, hZ, hh⟩ := hP
  have hx := Bd.exec
  have hby := Bd.bytes
  have hml : c.maxLocals = 2 := hml0
  have hown : s.vm.findClass "java/util/ArrayList$Itr" = some m.cls := findClass_of_methodNamed Bd.named
  have hnm := (name_of_methodNamed Bd.named Bd.method).1
  have hrt := Bd.returns
  have hlk := Bd.notSynchronized
  have X0 : Stand p l e ({ frames := 1, cells := 0, slots := 0, locals := 12 } : Room) s m #[(.ref o0), (.ref o1)] below meth c s₁ [] 0 0 := Stand.of_body Bd
  have e0 : s₁.heap = h0 := by rw [← hh, Bd.state]; rfl
  have N0 := Fr.nil n0
  have lt_E_o1 : LT.lt (α := Nat) o1 h0.size := E_o1.lt
  have lt_F_this_0_o0 : LT.lt (α := Nat) o0 h0.size := F_this_0_o0.lt
  have lt_E_o0 : LT.lt (α := Nat) o0 h0.size := E_o0.lt
  have lt_F_lastRet_o0 : LT.lt (α := Nat) o0 h0.size := F_lastRet_o0.lt
  have lt_F_modCount_o1 : LT.lt (α := Nat) o1 h0.size := F_modCount_o1.lt
  have lt_F_expectedModCount_o0 : LT.lt (α := Nat) o0 h0.size := F_expectedModCount_o0.lt
  show Go p e below s 0 0 (Q18 Z o0 o1 u1 u5 w12 u15 h0 n0) (s₁.setTop (entryFrame m #[(.ref o0), (.ref o1)] 2))
  rw [ef_18 m o0 o1]
  refine Go.pre (st' := s₁.setTop (mkF m 2 #[.val (.ref o0), .val (.ref o1)] [(.ref o1), (.ref o0)])) (fun target kt => ?_) ?_
  · show Steps p.tables e below (s₁.setTop (mkF m 0 #[.val (.ref o0), .val (.ref o1)] [])) _
    refine XS.aloadN X0.here hx rfl (hb hby d18_0) rfl rfl ?_
    show Steps p.tables e below (s₁.setTop (mkF m 1 #[.val (.ref o0), .val (.ref o1)] [(.ref o0)])) _
    refine XS.aloadN X0.here hx rfl (hb hby d18_1) rfl rfl ?_
    exact kt
  obtain ⟨T2, h2, X2, e2, W2, st2⟩ := putF X0 hx hZ hown (host := "") (Or.inl (hw _ (List.mem_of_getElem? (i := 172) rfl))) Via.refl e0 F_this_0_o0 E_o0 (Or.inr ⟨(hw _ (List.mem_of_getElem? (i := 173) rfl)), rfl, hnm⟩) (hw _ (List.mem_of_getElem? (i := 166) rfl)) (ty := (.object "java/util/ArrayList")) (by decide) rfl rfl (g := (mkF m 2 #[.val (.ref o0), .val (.ref o1)] [(.ref o1), (.ref o0)])) rfl rfl (hb hby d18_2)
  have sz2 : h0.size ≤ h2.size := (Keep.of_wr W2).1
  have Y3 : Fld Z h2 o0 "java/util/ArrayList$Itr" "this$0" "Ljava/util/ArrayList;" (.ref o1) := F_this_0_o0.same W2
  have N2 := Fr.snoc X2 N0 (by omega)
  refine Go.pre st2 ?_
  show Go p e below s _ _ _ (T2.setTop (mkF m 5 #[.val (.ref o0), .val (.ref o1)] []))
  refine Go.pre (st' := T2.setTop (mkF m 6 #[.val (.ref o0), .val (.ref o1)] [(.ref o0)])) (fun target kt => ?_) ?_
  · show Steps p.tables e below (T2.setTop (mkF m 5 #[.val (.ref o0), .val (.ref o1)] [])) _
    refine XS.aloadN X2.here hx rfl (hb hby d18_5) rfl rfl ?_
    exact kt
  obtain ⟨T4, X4, e4, st4⟩ := initO X2 hx hZ hown (hw _ (List.mem_of_getElem? (i := 174) rfl)) (hw _ (List.mem_of_getElem? (i := 13) rfl)) (hw _ (List.mem_of_getElem? (i := 14) rfl)) e2 (g := (mkF m 6 #[.val (.ref o0), .val (.ref o1)] [(.ref o0)])) rfl (by rw [hml]; rfl) rfl (hb hby d18_6) (by decide) (W := 0) (by show 2 * 0 + _ ≤ _; exact Nat.le_of_eq rfl) (by decide)
  refine Go.pre st4 ?_
  show Go p e below s _ _ _ (T4.setTop (mkF m 9 #[.val (.ref o0), .val (.ref o1)] []))
  refine Go.pre (st' := T4.setTop (mkF m 11 #[.val (.ref o0), .val (.ref o1)] [(.int (-1 : Int32)), (.ref o0)])) (fun target kt => ?_) ?_
  · show Steps p.tables e below (T4.setTop (mkF m 9 #[.val (.ref o0), .val (.ref o1)] [])) _
    refine XS.aloadN X4.here hx rfl (hb hby d18_9) rfl rfl ?_
    show Steps p.tables e below (T4.setTop (mkF m 10 #[.val (.ref o0), .val (.ref o1)] [(.ref o0)])) _
    refine XS.iconst X4.here hx rfl (hb hby d18_10) ?_
    exact kt
  have Y6 : Fld Z h2 o0 "java/util/ArrayList$Itr" "lastRet" "I" u5 := (F_lastRet_o0.other W2 (Or.inr (slot_ne (Or.inl (hw _ (List.mem_of_getElem? (i := 176) rfl))) (Or.inr (hw _ (List.mem_of_getElem? (i := 173) rfl))) (by decide) (t := .int) (t' := (.object "java/util/ArrayList")) (by decide) (by decide))))
  have Y7 : Exa Z h2 o0 "java/util/ArrayList$Itr" := (E_o0.wr W2)
  obtain ⟨T8, h8, X8, e8, W8, st8⟩ := putF X4 hx hZ hown (host := "") (Or.inl (hw _ (List.mem_of_getElem? (i := 175) rfl))) Via.refl e4 Y6 Y7 (Or.inl (hw _ (List.mem_of_getElem? (i := 176) rfl))) (hw _ (List.mem_of_getElem? (i := 166) rfl)) (ty := .int) (by decide) rfl rfl (g := (mkF m 11 #[.val (.ref o0), .val (.ref o1)] [(.int (-1 : Int32)), (.ref o0)])) rfl rfl (hb hby d18_11)
  have sz8 : h2.size ≤ h8.size := (Keep.of_wr W8).1
  have Y9 : Fld Z h8 o0 "java/util/ArrayList$Itr" "lastRet" "I" (.int (-1 : Int32)) := Y6.same W8
  have N8 := Fr.snoc X8 N2 (by omega)
  refine Go.pre st8 ?_
  show Go p e below s _ _ _ (T8.setTop (mkF m 14 #[.val (.ref o0), .val (.ref o1)] []))
  refine Go.pre (st' := T8.setTop (mkF m 16 #[.val (.ref o0), .val (.ref o1)] [(.ref o0), (.ref o0)])) (fun target kt => ?_) ?_
  · show Steps p.tables e below (T8.setTop (mkF m 14 #[.val (.ref o0), .val (.ref o1)] [])) _
    refine XS.aloadN X8.here hx rfl (hb hby d18_14) rfl rfl ?_
    show Steps p.tables e below (T8.setTop (mkF m 15 #[.val (.ref o0), .val (.ref o1)] [(.ref o0)])) _
    refine XS.aloadN X8.here hx rfl (hb hby d18_15) rfl rfl ?_
    exact kt
  have Y10 : Fld Z h8 o0 "java/util/ArrayList$Itr" "this$0" "Ljava/util/ArrayList;" (.ref o1) := (Y3.other W8 (Or.inr (slot_ne (Or.inr (hw _ (List.mem_of_getElem? (i := 173) rfl))) (Or.inl (hw _ (List.mem_of_getElem? (i := 176) rfl))) (by decide) (t := (.object "java/util/ArrayList")) (t' := .int) (by decide) (by decide))))
  obtain ⟨T11, X11, e11, st11⟩ := getF X8 hx hZ hown (host := "") (Or.inl (hw _ (List.mem_of_getElem? (i := 172) rfl))) Via.refl e8 Y10 (g := (mkF m 16 #[.val (.ref o0), .val (.ref o1)] [(.ref o0), (.ref o0)])) rfl rfl (hb hby d18_16)
  refine Go.pre st11 ?_
  show Go p e below s _ _ _ (T11.setTop (mkF m 19 #[.val (.ref o0), .val (.ref o1)] [(.ref o1), (.ref o0)]))
  have Y13 : Fld Z h8 o1 "java/util/AbstractList" "modCount" "I" (.int w12) := ((F_modCount_o1.other W2 (Or.inl (ne_exa E_o1 E_o0 (by decide)))).other W8 (Or.inl (ne_exa E_o1 E_o0 (by decide))))
  obtain ⟨T14, X14, e14, st14⟩ := getF X11 hx hZ hown (host := "") (Or.inl (hw _ (List.mem_of_getElem? (i := 177) rfl))) (Via.of (hw _ (List.mem_of_getElem? (i := 178) rfl))) e11 Y13 (g := (mkF m 19 #[.val (.ref o0), .val (.ref o1)] [(.ref o1), (.ref o0)])) rfl rfl (hb hby d18_19)
  refine Go.pre st14 ?_
  show Go p e below s _ _ _ (T14.setTop (mkF m 22 #[.val (.ref o0), .val (.ref o1)] [(.int w12), (.ref o0)]))
  have Y16 : Fld Z h8 o0 "java/util/ArrayList$Itr" "expectedModCount" "I" u15 := ((F_expectedModCount_o0.other W2 (Or.inr (slot_ne (Or.inl (hw _ (List.mem_of_getElem? (i := 180) rfl))) (Or.inr (hw _ (List.mem_of_getElem? (i := 173) rfl))) (by decide) (t := .int) (t' := (.object "java/util/ArrayList")) (by decide) (by decide)))).other W8 (Or.inr (slot_ne (Or.inl (hw _ (List.mem_of_getElem? (i := 180) rfl))) (Or.inl (hw _ (List.mem_of_getElem? (i := 176) rfl))) (by decide) (t := .int) (t' := .int) (by decide) (by decide))))
  have Y17 : Exa Z h8 o0 "java/util/ArrayList$Itr" := (Y7.wr W8)
  obtain ⟨T18, h18, X18, e18, W18, st18⟩ := putF X14 hx hZ hown (host := "") (Or.inl (hw _ (List.mem_of_getElem? (i := 179) rfl))) Via.refl e14 Y16 Y17 (Or.inl (hw _ (List.mem_of_getElem? (i := 180) rfl))) (hw _ (List.mem_of_getElem? (i := 166) rfl)) (ty := .int) (by decide) rfl rfl (g := (mkF m 22 #[.val (.ref o0), .val (.ref o1)] [(.int w12), (.ref o0)])) rfl rfl (hb hby d18_22)
  have sz18 : h8.size ≤ h18.size := (Keep.of_wr W18).1
  have Y19 : Fld Z h18 o0 "java/util/ArrayList$Itr" "expectedModCount" "I" (.int w12) := Y16.same W18
  have N18 := Fr.snoc X18 N8 (by omega)
  refine Go.pre st18 ?_
  show Go p e below s _ _ _ (T18.setTop (mkF m 25 #[.val (.ref o0), .val (.ref o1)] []))
  have Y20 : Fld Z h18 o0 "java/util/ArrayList$Itr" "this$0" "Ljava/util/ArrayList;" (.ref o1) := (Y10.other W18 (Or.inr (slot_ne (Or.inr (hw _ (List.mem_of_getElem? (i := 173) rfl))) (Or.inl (hw _ (List.mem_of_getElem? (i := 180) rfl))) (by decide) (t := (.object "java/util/ArrayList")) (t' := .int) (by decide) (by decide))))
  have Y21 : Fld Z h18 o0 "java/util/ArrayList$Itr" "lastRet" "I" (.int (-1 : Int32)) := (Y9.other W18 (Or.inr (slot_ne (Or.inl (hw _ (List.mem_of_getElem? (i := 176) rfl))) (Or.inl (hw _ (List.mem_of_getElem? (i := 180) rfl))) (by decide) (t := .int) (t' := .int) (by decide) (by decide))))
  exact Go.ret0 X18 hx hlk hrt (hb hby d18_25) (by decide) (by decide) (by rw [e18]; exact ⟨rfl, N18, ((((Keep.refl h0 [o0]).wr W2 (Or.inl (List.mem_of_getElem? (i := 0) rfl))).wr W8 (Or.inl (List.mem_of_getElem? (i := 0) rfl))).wr W18 (Or.inl (List.mem_of_getElem? (i := 0) rfl))), ((((KF.refl Z h0 [(o0, Jvm.RoadKit.slotOf Z "java/util/ArrayList$Itr" "this$0" "Ljava/util/ArrayList;"), (o0, Jvm.RoadKit.slotOf Z "java/util/ArrayList$Itr" "lastRet" "I"), (o0, Jvm.RoadKit.slotOf Z "java/util/ArrayList$Itr" "expectedModCount" "I")]).wr W2 (Or.inl (List.mem_of_getElem? (i := 0) rfl))).wr W8 (Or.inl (List.mem_of_getElem? (i := 1) rfl))).wr W18 (Or.inl (List.mem_of_getElem? (i := 2) rfl))), Y20, Y21, Y19⟩)
/-! ArrayList.iterator (17) -/
theorem d17_0 : decode jdk_38_method_55_code 0 = .ok (.new 267, 3) := by decide +kernel
theorem d17_3 : decode jdk_38_method_55_code 3 = .ok (.dup, 1) := by decide +kernel
theorem d17_4 : decode jdk_38_method_55_code 4 = .ok (.aload_n 0, 1) := by decide +kernel
theorem d17_5 : decode jdk_38_method_55_code 5 = .ok (.invokespecial 269, 3) := by decide +kernel
theorem d17_8 : decode jdk_38_method_55_code 8 = .ok (.areturn, 1) := by decide +kernel
theorem pn_17 : plainName "java/util/ArrayList" = true := by first | (simp [plainName, overriddenIn]; done) | decide +kernel
theorem pd17_0 : parseMethodDescriptor "(Ljava/util/ArrayList;)V" = some ⟨[(.object "java/util/ArrayList")], none⟩ := by decide +kernel
theorem ef_17 (m : MethodId) (o0 : Addr) : entryFrame m #[(.ref o0)] 1 = (mkF m 0 #[.val (.ref o0)] []) := by first | (simp [entryFrame, mkF, argsToLocals, Value.category]; done) | rfl
def Q17 (Z : State) (o0 : Addr) (w4 : Int32) (h0 : Heap) (n0 : Nat) (v : Option Value) (h : Heap) (L : List Loc) : Prop := ∃ b1 : Addr, v = some (.ref b1) ∧ Fr n0 L ∧ Keep h0 h [] ∧ KF Z h0 h [] ∧ LE.le (α := Nat) h0.size b1 ∧ LT.lt (α := Nat) b1 h.size ∧ Exa Z h b1 "java/util/ArrayList$Itr" ∧ Fld Z h b1 "java/util/ArrayList$Itr" "cursor" "I" (.int (0 : Int32)) ∧ Fld Z h b1 "java/util/ArrayList$Itr" "this$0" "Ljava/util/ArrayList;" (.ref o0) ∧ Fld Z h b1 "java/util/ArrayList$Itr" "lastRet" "I" (.int (-1 : Int32)) ∧ Fld Z h b1 "java/util/ArrayList$Itr" "expectedModCount" "I" (.int w4)
set_option maxRecDepth 65536 in
set_option maxHeartbeats 40000000 in
theorem rm17 (l : Launch) (Z : State) (a0 : Array Value) (hw : ∀ d ∈ tables_1, d.before a0 Z = true) (ws : List Jvm.Cond) (o0 : Addr) (w4 : Int32) (h0 : Heap) (n0 : Nat) (Z0 : n0 ≤ h0.size) (E_o0 : Exa Z h0 o0 "java/util/ArrayList") (F_modCount_o0 : Fld Z h0 o0 "java/util/AbstractList" "modCount" "I" (.int w4)) :
    MetFree l (⟨"java/util/ArrayList", "iterator", "()Ljava/util/Iterator;"⟩ : MethodName) (head1 (Jvm.Cond.code (⟨"java/util/ArrayList", "iterator", "()Ljava/util/Iterator;"⟩ : MethodName) jdk_38_method_55_code 1 (some (.object "java/util/Iterator")) :: ws) ({ frames := 2, cells := 1, slots := 4, locals := 26 } : Room)) (fun a U => a = #[(.ref o0)] ∧ Z.Warmed39 U.vm ∧ U.heap = h0) (fun _ _ _ _ _ => True) (fun _ U o U' => ∃ v L, o = .returned v ∧ Q17 Z o0 w4 h0 n0 v U'.heap L ∧ FrameEnd U o U' L ({ frames := 2, cells := 1, slots := 4, locals := 26 } : Room).cells ({ frames := 2, cells := 1, slots := 4, locals := 26 } : Room).slots) := by
  refine MetFree.of_bodySF (plainFor_of_name pn_17) hisR ?_
  intro p e s m args below meth c s₁ Bd hml0 hP hK
  obtain ⟨rfl, hZ, hh⟩ := hP
  have hx := Bd.exec
  have hby := Bd.bytes
  have hml : c.maxLocals = 1 := hml0
  have hown : s.vm.findClass "java/util/ArrayList" = some m.cls := findClass_of_methodNamed Bd.named
  have hnm := (name_of_methodNamed Bd.named Bd.method).1
  have hrt := Bd.returns
  have hlk := Bd.notSynchronized
  have X0 : Stand p l e ({ frames := 2, cells := 1, slots := 4, locals := 26 } : Room) s m #[(.ref o0)] below meth c s₁ [] 0 0 := Stand.of_body Bd
  have e0 : s₁.heap = h0 := by rw [← hh, Bd.state]; rfl
  have N0 := Fr.nil n0
  have lt_E_o0 : LT.lt (α := Nat) o0 h0.size := E_o0.lt
  have lt_F_modCount_o0 : LT.lt (α := Nat) o0 h0.size := F_modCount_o0.lt
  show Go p e below s 1 4 (Q17 Z o0 w4 h0 n0) (s₁.setTop (entryFrame m #[(.ref o0)] 1))
  rw [ef_17 m o0]
  obtain ⟨T1, h1, X1, e1, E1, A1, D1, -, st1⟩ := newO X0 hx hZ hown (hw _ (List.mem_of_getElem? (i := 165) rfl)) (hw _ (List.mem_of_getElem? (i := 166) rfl)) (hw _ (List.mem_of_getElem? (i := 167) rfl)) e0 (g := (mkF m 0 #[.val (.ref o0)] [])) rfl (hb hby d17_0) (by decide) (by decide)
  obtain ⟨b1, g1⟩ : ∃ z, z = h0.size := ⟨_, rfl⟩
  rw [← g1] at A1 D1 st1
  have sz1 : h0.size ≤ h1.size := E1.1
  have lt1 : b1 < h1.size := A1.lt
  have F1_this_0 : Fld Z h1 b1 "java/util/ArrayList$Itr" "this$0" "Ljava/util/ArrayList;" .null := D1 (Or.inr (hw _ (List.mem_of_getElem? (i := 173) rfl))) (ty := (.object "java/util/ArrayList")) (by decide)
  have F1_lastRet : Fld Z h1 b1 "java/util/ArrayList$Itr" "lastRet" "I" (.int (0 : Int32)) := D1 (Or.inl (hw _ (List.mem_of_getElem? (i := 176) rfl))) (ty := .int) (by decide)
  have F1_expectedModCount : Fld Z h1 b1 "java/util/ArrayList$Itr" "expectedModCount" "I" (.int (0 : Int32)) := D1 (Or.inl (hw _ (List.mem_of_getElem? (i := 180) rfl))) (ty := .int) (by decide)
  have F1_cursor : Fld Z h1 b1 "java/util/ArrayList$Itr" "cursor" "I" (.int (0 : Int32)) := D1 (Or.inl (hw _ (List.mem_of_getElem? (i := 191) rfl))) (ty := .int) (by decide)
  refine Go.pre st1 ?_
  show Go p e below s _ _ _ (T1.setTop (mkF m 3 #[.val (.ref o0)] [(.ref b1)]))
  refine Go.pre (st' := T1.setTop (mkF m 5 #[.val (.ref o0)] [(.ref o0), (.ref b1), (.ref b1)])) (fun target kt => ?_) ?_
  · show Steps p.tables e below (T1.setTop (mkF m 3 #[.val (.ref o0)] [(.ref b1)])) _
    refine XS.dup X1.here hx rfl (hb hby d17_3) rfl rfl ?_
    show Steps p.tables e below (T1.setTop (mkF m 4 #[.val (.ref o0)] [(.ref b1), (.ref b1)])) _
    refine XS.aloadN X1.here hx rfl (hb hby d17_4) rfl rfl ?_
    exact kt
  have Y3 : Exa Z h1 o0 "java/util/ArrayList" := (E_o0.ext E1)
  have Y5 : Fld Z h1 o0 "java/util/AbstractList" "modCount" "I" (.int w4) := (F_modCount_o0.ext E1)
  obtain ⟨_, _, ⟨T2, L2, k2, n2⟩, -, X2, ⟨Lc2, hQ2, l2, y2, z2⟩, st2⟩ := X1.specialBack hx (y := (⟨"java/util/ArrayList$Itr", "<init>", "(Ljava/util/ArrayList;)V"⟩ : MethodName)) rfl hown (mvT hZ (hw _ (List.mem_of_getElem? (i := 168) rfl))) (mvT hZ (hw _ (List.mem_of_getElem? (i := 169) rfl))) (mvT hZ (hw _ (List.mem_of_getElem? (i := 171) rfl))) (by decide) (backOf (W := 1) (rm18 l Z a0 hw [] b1 o0 .null (.int (0 : Int32)) w4 (.int (0 : Int32)) h1 n0 (by omega) Y3 F1_this_0 A1 (by omega) F1_lastRet Y5 F1_expectedModCount) hZ (hw _ (List.mem_of_getElem? (i := 171) rfl)) (hw _ (List.mem_of_getElem? (i := 167) rfl)) (by decide) (by decide)) (g := (mkF m 5 #[.val (.ref o0)] [(.ref o0), (.ref b1), (.ref b1)])) rfl (by rw [hml]; rfl) (Steps.refl _) (a := b1) (argsL := [(.ref o0)]) (rest := [(.ref b1)]) (lenOf pd17_0 rfl) rfl (by show 2 * 0 + _ ≤ _; exact Nat.le_of_eq rfl) (hb hby d17_5) (fun vm₁ hvm => ⟨rfl, e1, (by decide : 1 + 0 ≤ _), (by decide : 4 + 0 ≤ _)⟩)
  dsimp only [Pt.U, Pt.locs, Pt.cells, Pt.slots] at X2 l2 y2 z2 st2 hQ2
  subst l2 y2 z2
  obtain ⟨rfl, N2q, K2, KF2, Y2_0, Y2_1, Y2_2⟩ := hQ2
  have sz2 : h1.size ≤ T2.heap.size := K2.1
  have N2 := Fr.app N0 N2q
  refine Go.trans st2 ?_
  show Go p e below s _ _ _ (T2.setTop (mkF m 8 #[.val (.ref o0)] [(.ref b1)]))
  have Y6 : Exa Z T2.heap b1 "java/util/ArrayList$Itr" := (A1.keep K2)
  have Y7 : Fld Z T2.heap b1 "java/util/ArrayList$Itr" "cursor" "I" (.int (0 : Int32)) := (KF2 _ _ _ _ _ F1_cursor (pallS (Or.inr (slot_ne (Or.inl (hw _ (List.mem_of_getElem? (i := 191) rfl))) (Or.inr (hw _ (List.mem_of_getElem? (i := 173) rfl))) (by decide) (t := .int) (t' := (.object "java/util/ArrayList")) (by decide) (by decide))) (pallS (Or.inr (slot_ne (Or.inl (hw _ (List.mem_of_getElem? (i := 191) rfl))) (Or.inl (hw _ (List.mem_of_getElem? (i := 176) rfl))) (by decide) (t := .int) (t' := .int) (by decide) (by decide))) (pallS (Or.inr (slot_ne (Or.inl (hw _ (List.mem_of_getElem? (i := 191) rfl))) (Or.inl (hw _ (List.mem_of_getElem? (i := 180) rfl))) (by decide) (t := .int) (t' := .int) (by decide) (by decide))) pall0))))
  exact Go.retV X2 hx hlk hrt rfl (Or.inr (Or.inr (Or.inr (Or.inr ⟨rfl, rfl, rfl⟩)))) (hb hby d17_8) (by decide) (by decide) (by exact ⟨b1, rfl, N2, (((Keep.refl h0 []).ext E1).trans K2 (allS (Or.inr (by omega)) all0)), (((KF.refl Z h0 []).ext E1).trans KF2 (pallS (Or.inr (by show _ ≤ b1; omega)) (pallS (Or.inr (by show _ ≤ b1; omega)) (pallS (Or.inr (by show _ ≤ b1; omega)) pall0)))), by omega, by omega, Y6, Y7, Y2_0, Y2_1, Y2_2⟩)
/-! ArrayList$Itr.hasNext (19) -/
theorem d19_0 : decode jdk_49_method_2_code 0 = .ok (.aload_n 0, 1) := by decide +kernel
theorem d19_1 : decode jdk_49_method_2_code 1 = .ok (.getfield 25, 3) := by decide +kernel
theorem d19_4 : decode jdk_49_method_2_code 4 = .ok (.aload_n 0, 1) := by decide +kernel
theorem d19_5 : decode jdk_49_method_2_code 5 = .ok (.getfield 1, 3) := by decide +kernel
theorem d19_8 : decode jdk_49_method_2_code 8 = .ok (.getfield 28, 3) := by decide +kernel
theorem d19_11 : decode jdk_49_method_2_code 11 = .ok (.if_icmp .eq 7, 3) := by decide +kernel
theorem d19_18 : decode jdk_49_method_2_code 18 = .ok (.iconst 0, 1) := by decide +kernel
theorem d19_19 : decode jdk_49_method_2_code 19 = .ok (.ireturn, 1) := by decide +kernel
theorem pn_19 : plainName "java/util/ArrayList$Itr" = true := by first | (simp [plainName, overriddenIn]; done) | decide +kernel
theorem ef_19 (m : MethodId) (o0 : Addr) : entryFrame m #[(.ref o0)] 1 = (mkF m 0 #[.val (.ref o0)] []) := by first | (simp [entryFrame, mkF, argsToLocals, Value.category]; done) | rfl
def Q19 (Z : State) (o0 : Addr) (w1 : Int32) (w3 : Addr) (w5 : Int32) (h0 : Heap) (n0 : Nat) (v : Option Value) (h : Heap) (L : List Loc) : Prop := v = some (.int (0 : Int32)) ∧ Fr n0 L ∧ h = h0
set_option maxRecDepth 65536 in
set_option maxHeartbeats 40000000 in
theorem rm19 (l : Launch) (Z : State) (a0 : Array Value) (hw : ∀ d ∈ tables_1, d.before a0 Z = true) (ws : List Jvm.Cond) (o0 : Addr) (w1 : Int32) (w3 : Addr) (w5 : Int32) (h0 : Heap) (n0 : Nat) (Z0 : n0 ≤ h0.size) (F_cursor_o0 : Fld Z h0 o0 "java/util/ArrayList$Itr" "cursor" "I" (.int w1)) (F_this_0_o0 : Fld Z h0 o0 "java/util/ArrayList$Itr" "this$0" "Ljava/util/ArrayList;" (.ref w3)) (F_size_w3 : Fld Z h0 w3 "java/util/ArrayList" "size" "I" (.int w5)) (hc11 : w1 = w5) :
    MetFree l (⟨"java/util/ArrayList$Itr", "hasNext", "()Z"⟩ : MethodName) (head1 (Jvm.Cond.code (⟨"java/util/ArrayList$Itr", "hasNext", "()Z"⟩ : MethodName) jdk_49_method_2_code 1 (some .boolean) :: ws) ({ frames := 0, cells := 0, slots := 0, locals := 0 } : Room)) (fun a U => a = #[(.ref o0)] ∧ Z.Warmed39 U.vm ∧ U.heap = h0) (fun _ _ _ _ _ => True) (fun _ U o U' => ∃ v L, o = .returned v ∧ Q19 Z o0 w1 w3 w5 h0 n0 v U'.heap L ∧ FrameEnd U o U' L ({ frames := 0, cells := 0, slots := 0, locals := 0 } : Room).cells ({ frames := 0, cells := 0, slots := 0, locals := 0 } : Room).slots) := by
  refine MetFree.of_bodySF (plainFor_of_name pn_19) hisR ?_
  intro p e s m args below meth c s₁ Bd hml0 hP hK
  obtain ⟨rfl, hZ, hh⟩ := hP
  have hx := Bd.exec
  have hby := Bd.bytes
  have hml : c.maxLocals = 1 := hml0
  have hown : s.vm.findClass "java/util/ArrayList$Itr" = some m.cls := findClass_of_methodNamed Bd.named
  have hnm := (name_of_methodNamed Bd.named Bd.method).1
  have hrt := Bd.returns
  have hlk := Bd.notSynchronized
  have X0 : Stand p l e ({ frames := 0, cells := 0, slots := 0, locals := 0 } : Room) s m #[(.ref o0)] below meth c s₁ [] 0 0 := Stand.of_body Bd
  have e0 : s₁.heap = h0 := by rw [← hh, Bd.state]; rfl
  have N0 := Fr.nil n0
  have lt_F_cursor_o0 : LT.lt (α := Nat) o0 h0.size := F_cursor_o0.lt
  have lt_F_this_0_o0 : LT.lt (α := Nat) o0 h0.size := F_this_0_o0.lt
  have lt_F_size_w3 : LT.lt (α := Nat) w3 h0.size := F_size_w3.lt
  show Go p e below s 0 0 (Q19 Z o0 w1 w3 w5 h0 n0) (s₁.setTop (entryFrame m #[(.ref o0)] 1))
  rw [ef_19 m o0]
  refine Go.pre (st' := s₁.setTop (mkF m 1 #[.val (.ref o0)] [(.ref o0)])) (fun target kt => ?_) ?_
  · show Steps p.tables e below (s₁.setTop (mkF m 0 #[.val (.ref o0)] [])) _
    refine XS.aloadN X0.here hx rfl (hb hby d19_0) rfl rfl ?_
    exact kt
  obtain ⟨T2, X2, e2, st2⟩ := getF X0 hx hZ hown (host := "") (Or.inl (hw _ (List.mem_of_getElem? (i := 190) rfl))) Via.refl e0 F_cursor_o0 (g := (mkF m 1 #[.val (.ref o0)] [(.ref o0)])) rfl rfl (hb hby d19_1)
  refine Go.pre st2 ?_
  show Go p e below s _ _ _ (T2.setTop (mkF m 4 #[.val (.ref o0)] [(.int w1)]))
  refine Go.pre (st' := T2.setTop (mkF m 5 #[.val (.ref o0)] [(.ref o0), (.int w1)])) (fun target kt => ?_) ?_
  · show Steps p.tables e below (T2.setTop (mkF m 4 #[.val (.ref o0)] [(.int w1)])) _
    refine XS.aloadN X2.here hx rfl (hb hby d19_4) rfl rfl ?_
    exact kt
  obtain ⟨T4, X4, e4, st4⟩ := getF X2 hx hZ hown (host := "") (Or.inl (hw _ (List.mem_of_getElem? (i := 172) rfl))) Via.refl e2 F_this_0_o0 (g := (mkF m 5 #[.val (.ref o0)] [(.ref o0), (.int w1)])) rfl rfl (hb hby d19_5)
  refine Go.pre st4 ?_
  show Go p e below s _ _ _ (T4.setTop (mkF m 8 #[.val (.ref o0)] [(.ref w3), (.int w1)]))
  obtain ⟨T6, X6, e6, st6⟩ := getF X4 hx hZ hown (Or.inr (hw _ (List.mem_of_getElem? (i := 192) rfl))) Via.refl e4 F_size_w3 (g := (mkF m 8 #[.val (.ref o0)] [(.ref w3), (.int w1)])) rfl rfl (hb hby d19_8)
  refine Go.pre st6 ?_
  show Go p e below s _ _ _ (T6.setTop (mkF m 11 #[.val (.ref o0)] [(.int w5), (.int w1)]))
  refine Go.pre (st' := T6.setTop (mkF m 19 #[.val (.ref o0)] [(.int (0 : Int32))])) (fun target kt => ?_) ?_
  · show Steps p.tables e below (T6.setTop (mkF m 11 #[.val (.ref o0)] [(.int w5), (.int w1)])) _
    refine XS.icmpYes X6.here hx rfl (pc0 := 11) (pc' := 18) rfl (hb hby d19_11) rfl (teq hc11).1 (by decide) (by decide) ?_
    show Steps p.tables e below (T6.setTop (mkF m 18 #[.val (.ref o0)] [])) _
    refine XS.iconst X6.here hx rfl (hb hby d19_18) ?_
    exact kt
  exact Go.retN X6 hx hlk hrt (z' := (0 : Int32)) (by simp) (hb hby d19_19) rfl (by decide) (by decide) (by rw [e6]; exact ⟨rfl, N0, rfl⟩)
/-! Subscription.hasNotifications (12) -/
theorem d12_0 : decode prog_45_method_34_code 0 = .ok (.aload_n 0, 1) := by decide +kernel
theorem d12_1 : decode prog_45_method_34_code 1 = .ok (.getfield 49, 3) := by decide +kernel
theorem d12_4 : decode prog_45_method_34_code 4 = .ok (.invokevirtual 197, 3) := by decide +kernel
theorem d12_7 : decode prog_45_method_34_code 7 = .ok (.ifCond .ne 5, 3) := by decide +kernel
theorem d12_10 : decode prog_45_method_34_code 10 = .ok (.iconst 0, 1) := by decide +kernel
theorem d12_11 : decode prog_45_method_34_code 11 = .ok (.ireturn, 1) := by decide +kernel
theorem d12_12 : decode prog_45_method_34_code 12 = .ok (.aload_n 0, 1) := by decide +kernel
theorem d12_13 : decode prog_45_method_34_code 13 = .ok (.getfield 10, 3) := by decide +kernel
theorem d12_16 : decode prog_45_method_34_code 16 = .ok (.invokeinterface 235 1, 5) := by decide +kernel
theorem d12_21 : decode prog_45_method_34_code 21 = .ok (.astore_n 1, 1) := by decide +kernel
theorem d12_22 : decode prog_45_method_34_code 22 = .ok (.aload_n 1, 1) := by decide +kernel
theorem d12_23 : decode prog_45_method_34_code 23 = .ok (.invokeinterface 239 1, 5) := by decide +kernel
theorem d12_28 : decode prog_45_method_34_code 28 = .ok (.ifCond .eq 25, 3) := by decide +kernel
theorem d12_53 : decode prog_45_method_34_code 53 = .ok (.iconst 0, 1) := by decide +kernel
theorem d12_54 : decode prog_45_method_34_code 54 = .ok (.ireturn, 1) := by decide +kernel
theorem pn_12 : plainName "com/example/pulsekeep/pulsekeep/core/Subscription" = true := by first | (simp [plainName, overriddenIn]; done) | decide +kernel
theorem pd12_0 : parseMethodDescriptor "()Z" = some ⟨[], some .boolean⟩ := by decide +kernel
theorem pd12_1 : parseMethodDescriptor "()Ljava/util/Iterator;" = some ⟨[], some (.object "java/util/Iterator")⟩ := by decide +kernel
theorem ef_12 (m : MethodId) (o0 : Addr) : entryFrame m #[(.ref o0)] 3 = (mkF m 0 #[.val (.ref o0), .unset, .unset] []) := by first | (simp [entryFrame, mkF, argsToLocals, Value.category]; done) | rfl
def Q12 (Z : State) (o0 : Addr) (se : Addr) (il : Addr) (en : Int32) (mc : Int32) (h0 : Heap) (n0 : Nat) (v : Option Value) (h : Heap) (L : List Loc) : Prop := v = some (.int (0 : Int32)) ∧ Fr n0 L ∧ Keep h0 h [] ∧ KF Z h0 h []
set_option maxRecDepth 65536 in
set_option maxHeartbeats 40000000 in
theorem rm12 (l : Launch) (Z : State) (a0 : Array Value) (hw : ∀ d ∈ tables_1, d.before a0 Z = true) (ws : List Jvm.Cond) (o0 : Addr) (se : Addr) (il : Addr) (en : Int32) (mc : Int32) (h0 : Heap) (n0 : Nat) (Z0 : n0 ≤ h0.size) (E_o : Exa Z h0 o0 "com/example/pulsekeep/pulsekeep/core/Subscription") (F_settings : Fld Z h0 o0 "com/example/pulsekeep/pulsekeep/core/Subscription" "settings" "Lcom/example/pulsekeep/pulsekeep/core/SubscriptionSettings;" (.ref se)) (F_items : Fld Z h0 o0 "com/example/pulsekeep/pulsekeep/core/Subscription" "items" "Ljava/util/List;" (.ref il)) (E_se : Exa Z h0 se "com/example/pulsekeep/pulsekeep/core/SubscriptionSettings") (F_en : Fld Z h0 se "com/example/pulsekeep/pulsekeep/core/SubscriptionSettings" "publishingEnabled" "Z" (.int en)) (E_il : Exa Z h0 il "java/util/ArrayList") (F_mc : Fld Z h0 il "java/util/AbstractList" "modCount" "I" (.int mc)) (F_size : Fld Z h0 il "java/util/ArrayList" "size" "I" (.int (0 : Int32))) :
    MetFree l (⟨"com/example/pulsekeep/pulsekeep/core/Subscription", "hasNotifications", "()Z"⟩ : MethodName) (head1 (Jvm.Cond.code (⟨"com/example/pulsekeep/pulsekeep/core/Subscription", "hasNotifications", "()Z"⟩ : MethodName) prog_45_method_34_code 3 (some .boolean) :: ws) ({ frames := 3, cells := 1, slots := 4, locals := 38 } : Room)) (fun a U => a = #[(.ref o0)] ∧ Z.Warmed39 U.vm ∧ U.heap = h0) (fun _ _ _ _ _ => True) (fun _ U o U' => ∃ v L, o = .returned v ∧ Q12 Z o0 se il en mc h0 n0 v U'.heap L ∧ FrameEnd U o U' L ({ frames := 3, cells := 1, slots := 4, locals := 38 } : Room).cells ({ frames := 3, cells := 1, slots := 4, locals := 38 } : Room).slots) := by
  refine MetFree.of_bodySF (plainFor_of_name pn_12) hisR ?_
  intro p e s m args below meth c s₁ Bd hml0 hP hK
  obtain ⟨rfl, hZ, hh⟩ := hP
  have hx := Bd.exec
  have hby := Bd.bytes
  have hml : c.maxLocals = 3 := hml0
  have hown : s.vm.findClass "com/example/pulsekeep/pulsekeep/core/Subscription" = some m.cls := findClass_of_methodNamed Bd.named
  have hnm := (name_of_methodNamed Bd.named Bd.method).1
  have hrt := Bd.returns
  have hlk := Bd.notSynchronized
  have X0 : Stand p l e ({ frames := 3, cells := 1, slots := 4, locals := 38 } : Room) s m #[(.ref o0)] below meth c s₁ [] 0 0 := Stand.of_body Bd
  have e0 : s₁.heap = h0 := by rw [← hh, Bd.state]; rfl
  have N0 := Fr.nil n0
  have lt_E_o : LT.lt (α := Nat) o0 h0.size := E_o.lt
  have lt_F_settings : LT.lt (α := Nat) o0 h0.size := F_settings.lt
  have lt_F_items : LT.lt (α := Nat) o0 h0.size := F_items.lt
  have lt_E_se : LT.lt (α := Nat) se h0.size := E_se.lt
  have lt_F_en : LT.lt (α := Nat) se h0.size := F_en.lt
  have lt_E_il : LT.lt (α := Nat) il h0.size := E_il.lt
  have lt_F_mc : LT.lt (α := Nat) il h0.size := F_mc.lt
  have lt_F_size : LT.lt (α := Nat) il h0.size := F_size.lt
  show Go p e below s 1 4 (Q12 Z o0 se il en mc h0 n0) (s₁.setTop (entryFrame m #[(.ref o0)] 3))
  rw [ef_12 m o0]
  refine Go.pre (st' := s₁.setTop (mkF m 1 #[.val (.ref o0), .unset, .unset] [(.ref o0)])) (fun target kt => ?_) ?_
  · show Steps p.tables e below (s₁.setTop (mkF m 0 #[.val (.ref o0), .unset, .unset] [])) _
    refine XS.aloadN X0.here hx rfl (hb hby d12_0) rfl rfl ?_
    exact kt
  obtain ⟨T1, X1, e1, st1⟩ := getF X0 hx hZ hown (host := "") (Or.inl (hw _ (List.mem_of_getElem? (i := 113) rfl))) Via.refl e0 F_settings (g := (mkF m 1 #[.val (.ref o0), .unset, .unset] [(.ref o0)])) rfl rfl (hb hby d12_1)
  refine Go.pre st1 ?_
  show Go p e below s _ _ _ (T1.setTop (mkF m 4 #[.val (.ref o0), .unset, .unset] [(.ref se)]))
  obtain ⟨cq2, kq2, q2a, q2b, q2c⟩ := isOf hZ e1 E_se
  obtain ⟨_, _, ⟨T2, L2, k2, n2⟩, -, X2, ⟨Lc2, hQ2, l2, y2, z2⟩, st2⟩ := X1.virtualBack hx (y := (⟨"com/example/pulsekeep/pulsekeep/core/SubscriptionSettings", "publishingEnabled", "()Z"⟩ : MethodName)) (z := (⟨"com/example/pulsekeep/pulsekeep/core/SubscriptionSettings", "publishingEnabled", "()Z"⟩ : MethodName)) hown (mvT hZ (hw _ (List.mem_of_getElem? (i := 124) rfl))) (mvT hZ (hw _ (List.mem_of_getElem? (i := 125) rfl))) (notFace_of_selects (args := #[]) (mvT hZ (hw _ (List.mem_of_getElem? (i := 127) rfl)))) (mvT hZ (hw _ (List.mem_of_getElem? (i := 127) rfl))) (mvT hZ (hw _ (List.mem_of_getElem? (i := 126) rfl))) (by decide) (backOf (W := 0) (rm13 l Z a0 hw [] se en h0 n0 (by omega) F_en) hZ (hw _ (List.mem_of_getElem? (i := 128) rfl)) (hw _ (List.mem_of_getElem? (i := 2) rfl)) (by decide) (by decide)) q2a q2c (g := (mkF m 4 #[.val (.ref o0), .unset, .unset] [(.ref se)])) rfl (by rw [hml]; rfl) (Steps.refl _) (argsL := []) (rest := []) (lenOf pd12_0 rfl) rfl (by show 2 * 0 + _ ≤ _; exact Nat.le_of_eq rfl) (hb hby d12_4) (fun vm₁ hvm => ⟨rfl, e1, (by decide : 0 + 0 ≤ _), (by decide : 0 + 0 ≤ _)⟩)
  dsimp only [Pt.U, Pt.locs, Pt.cells, Pt.slots] at X2 l2 y2 z2 st2 hQ2
  subst l2 y2 z2
  obtain ⟨rfl, N2q, e2⟩ := hQ2
  have N2 := Fr.app N0 N2q
  refine Go.trans st2 ?_
  show Go p e below s _ _ _ (T2.setTop (mkF m 7 #[.val (.ref o0), .unset, .unset] [(.int (en &&& 1))]))
  by_cases h7_3 : (en &&& 1) = (0 : Int32)
  · refine Go.pre (st' := T2.setTop (mkF m 10 #[.val (.ref o0), .unset, .unset] [])) (fun target kt => ?_) ?_
    · show Steps p.tables e below (T2.setTop (mkF m 7 #[.val (.ref o0), .unset, .unset] [(.int (en &&& 1))])) _
      refine XS.ifNo X2.here hx rfl (hb hby d12_7) rfl ((if0 _ _).trans (teq h7_3).2) ?_
      exact kt
    refine Go.pre (st' := T2.setTop (mkF m 11 #[.val (.ref o0), .unset, .unset] [(.int (0 : Int32))])) (fun target kt => ?_) ?_
    · show Steps p.tables e below (T2.setTop (mkF m 10 #[.val (.ref o0), .unset, .unset] [])) _
      refine XS.iconst X2.here hx rfl (hb hby d12_10) ?_
      exact kt
    exact Go.retN X2 hx hlk hrt (z' := (0 : Int32)) (by simp) (hb hby d12_11) rfl (by decide) (by decide) (by rw [e2]; exact ⟨rfl, N2, (Keep.refl h0 []), (KF.refl Z h0 [])⟩)
  · refine Go.pre (st' := T2.setTop (mkF m 12 #[.val (.ref o0), .unset, .unset] [])) (fun target kt => ?_) ?_
    · show Steps p.tables e below (T2.setTop (mkF m 7 #[.val (.ref o0), .unset, .unset] [(.int (en &&& 1))])) _
      refine XS.ifYes X2.here hx rfl (pc0 := 7) (pc' := 12) rfl (hb hby d12_7) rfl ((if0 _ _).trans (feq h7_3).2) (by decide) (by decide) ?_
      exact kt
    refine Go.pre (st' := T2.setTop (mkF m 13 #[.val (.ref o0), .unset, .unset] [(.ref o0)])) (fun target kt => ?_) ?_
    · show Steps p.tables e below (T2.setTop (mkF m 12 #[.val (.ref o0), .unset, .unset] [])) _
      refine XS.aloadN X2.here hx rfl (hb hby d12_12) rfl rfl ?_
      exact kt
    obtain ⟨T4, X4, e4, st4⟩ := getF X2 hx hZ hown (host := "") (Or.inl (hw _ (List.mem_of_getElem? (i := 87) rfl))) Via.refl e2 F_items (g := (mkF m 13 #[.val (.ref o0), .unset, .unset] [(.ref o0)])) rfl rfl (hb hby d12_13)
    refine Go.pre st4 ?_
    show Go p e below s _ _ _ (T4.setTop (mkF m 16 #[.val (.ref o0), .unset, .unset] [(.ref il)]))
    obtain ⟨cq5, kq5, q5a, q5b, q5c⟩ := isOf hZ e4 E_il
    obtain ⟨_, _, ⟨T5, L5, k5, n5⟩, -, X5, ⟨Lc5, hQ5, l5, y5, z5⟩, st5⟩ := X4.interfaceBack hx (xi := (⟨"java/util/List", "iterator", "()Ljava/util/Iterator;"⟩ : MethodName)) (y := (⟨"java/util/ArrayList", "iterator", "()Ljava/util/Iterator;"⟩ : MethodName)) hown (mvT hZ (hw _ (List.mem_of_getElem? (i := 156) rfl))) (mvT hZ (hw _ (List.mem_of_getElem? (i := 157) rfl))) (mvT hZ (hw _ (List.mem_of_getElem? (i := 158) rfl))) (mvT hZ (hw _ (List.mem_of_getElem? (i := 159) rfl))) (mvT hZ (hw _ (List.mem_of_getElem? (i := 160) rfl))) (mvT hZ (hw _ (List.mem_of_getElem? (i := 161) rfl))) (mvT hZ (hw _ (List.mem_of_getElem? (i := 162) rfl))) (mvT hZ (hw _ (List.mem_of_getElem? (i := 163) rfl))) (by decide) (backOf (W := 0) (rm17 l Z a0 hw [] il mc h0 n0 (by omega) E_il F_mc) hZ (hw _ (List.mem_of_getElem? (i := 164) rfl)) (hw _ (List.mem_of_getElem? (i := 39) rfl)) (by decide) (by decide)) q5a q5b q5c (g := (mkF m 16 #[.val (.ref o0), .unset, .unset] [(.ref il)])) rfl (by rw [hml]; rfl) (Steps.refl _) (argsL := []) (rest := []) (lenOf pd12_1 rfl) rfl (by show 2 * 0 + _ ≤ _; exact Nat.le_of_eq rfl) (hb hby d12_16) (fun vm₁ hvm => ⟨rfl, e4, (by decide : 0 + 1 ≤ _), (by decide : 0 + 4 ≤ _)⟩)
    dsimp only [Pt.U, Pt.locs, Pt.cells, Pt.slots] at X5 l5 y5 z5 st5 hQ5
    subst l5 y5 z5
    obtain ⟨b5_0, rfl, N5q, K5, KF5, gb5_0, ltb5_0, Y5_0, Y5_1, Y5_2, Y5_3, Y5_4⟩ := hQ5
    have sz5 : h0.size ≤ T5.heap.size := K5.1
    have N5 := Fr.app N2 N5q
    refine Go.trans st5 ?_
    show Go p e below s _ _ _ (T5.setTop (mkF m 21 #[.val (.ref o0), .unset, .unset] [(.ref b5_0)]))
    refine Go.pre (st' := T5.setTop (mkF m 23 #[.val (.ref o0), .val (.ref b5_0), .unset] [(.ref b5_0)])) (fun target kt => ?_) ?_
    · show Steps p.tables e below (T5.setTop (mkF m 21 #[.val (.ref o0), .unset, .unset] [(.ref b5_0)])) _
      refine XS.astoreN X5.here hx rfl (hb hby d12_21) rfl rfl (l' := #[.val (.ref o0), .val (.ref b5_0), .unset]) rfl ?_
      show Steps p.tables e below (T5.setTop (mkF m 22 #[.val (.ref o0), .val (.ref b5_0), .unset] [])) _
      refine XS.aloadN X5.here hx rfl (hb hby d12_22) rfl rfl ?_
      exact kt
    have Y7 : Fld Z T5.heap il "java/util/ArrayList" "size" "I" (.int (0 : Int32)) := (F_size.keep K5 nin0)
    obtain ⟨cq6, kq6, q6a, q6b, q6c⟩ := isOf hZ rfl Y5_0
    obtain ⟨_, _, ⟨T6, L6, k6, n6⟩, -, X6, ⟨Lc6, hQ6, l6, y6, z6⟩, st6⟩ := X5.interfaceBack hx (xi := (⟨"java/util/Iterator", "hasNext", "()Z"⟩ : MethodName)) (y := (⟨"java/util/ArrayList$Itr", "hasNext", "()Z"⟩ : MethodName)) hown (mvT hZ (hw _ (List.mem_of_getElem? (i := 181) rfl))) (mvT hZ (hw _ (List.mem_of_getElem? (i := 182) rfl))) (mvT hZ (hw _ (List.mem_of_getElem? (i := 183) rfl))) (mvT hZ (hw _ (List.mem_of_getElem? (i := 184) rfl))) (mvT hZ (hw _ (List.mem_of_getElem? (i := 185) rfl))) (mvT hZ (hw _ (List.mem_of_getElem? (i := 186) rfl))) (mvT hZ (hw _ (List.mem_of_getElem? (i := 187) rfl))) (mvT hZ (hw _ (List.mem_of_getElem? (i := 188) rfl))) (by decide) (backOf (W := 0) (rm19 l Z a0 hw [] b5_0 (0 : Int32) il (0 : Int32) T5.heap n0 (by omega) Y5_1 Y5_2 Y7 (by first | assumption | decide)) hZ (hw _ (List.mem_of_getElem? (i := 189) rfl)) (hw _ (List.mem_of_getElem? (i := 167) rfl)) (by decide) (by decide)) q6a q6b q6c (g := (mkF m 23 #[.val (.ref o0), .val (.ref b5_0), .unset] [(.ref b5_0)])) rfl (by rw [hml]; rfl) (Steps.refl _) (argsL := []) (rest := []) (lenOf pd12_0 rfl) rfl (by show 2 * 0 + _ ≤ _; exact Nat.le_of_eq rfl) (hb hby d12_23) (fun vm₁ hvm => ⟨rfl, rfl, (by decide : 1 + 0 ≤ _), (by decide : 4 + 0 ≤ _)⟩)
    dsimp only [Pt.U, Pt.locs, Pt.cells, Pt.slots] at X6 l6 y6 z6 st6 hQ6
    subst l6 y6 z6
    obtain ⟨rfl, N6q, e6⟩ := hQ6
    have N6 := Fr.app N5 N6q
    refine Go.trans st6 ?_
    show Go p e below s _ _ _ (T6.setTop (mkF m 28 #[.val (.ref o0), .val (.ref b5_0), .unset] [(.int (0 : Int32))]))
    refine Go.pre (st' := T6.setTop (mkF m 54 #[.val (.ref o0), .val (.ref b5_0), .unset] [(.int (0 : Int32))])) (fun target kt => ?_) ?_
    · show Steps p.tables e below (T6.setTop (mkF m 28 #[.val (.ref o0), .val (.ref b5_0), .unset] [(.int (0 : Int32))])) _
      refine XS.ifYes X6.here hx rfl (pc0 := 28) (pc' := 53) rfl (hb hby d12_28) rfl ((if0 _ _).trans (teq (by decide)).1) (by decide) (by decide) ?_
      show Steps p.tables e below (T6.setTop (mkF m 53 #[.val (.ref o0), .val (.ref b5_0), .unset] [])) _
      refine XS.iconst X6.here hx rfl (hb hby d12_53) ?_
      exact kt
    exact Go.retN X6 hx hlk hrt (z' := (0 : Int32)) (by simp) (hb hby d12_54) rfl (by decide) (by decide) (by rw [e6]; exact ⟨rfl, N6, ((Keep.refl h0 []).trans K5 all0), ((KF.refl Z h0 []).trans KF5 pall0)⟩)
/-! Subscription.endCycle (11) -/
theorem d11_0 : decode prog_45_method_26_code 0 = .ok (.aload_n 0, 1) := by decide +kernel
theorem d11_1 : decode prog_45_method_26_code 1 = .ok (.invokevirtual 173, 3) := by decide +kernel
theorem d11_4 : decode prog_45_method_26_code 4 = .ok (.ifCond .ne 10, 3) := by decide +kernel
theorem d11_7 : decode prog_45_method_26_code 7 = .ok (.aload_n 0, 1) := by decide +kernel
theorem d11_8 : decode prog_45_method_26_code 8 = .ok (.getfield 160, 3) := by decide +kernel
theorem d11_11 : decode prog_45_method_26_code 11 = .ok (.ifCond .ne 8, 3) := by decide +kernel
theorem d11_14 : decode prog_45_method_26_code 14 = .ok (.iconst 1, 1) := by decide +kernel
theorem d11_15 : decode prog_45_method_26_code 15 = .ok (.istore_n 2, 1) := by decide +kernel
theorem d11_16 : decode prog_45_method_26_code 16 = .ok (.goto 34, 3) := by decide +kernel
theorem d11_50 : decode prog_45_method_26_code 50 = .ok (.aload_n 0, 1) := by decide +kernel
theorem d11_51 : decode prog_45_method_26_code 51 = .ok (.iload_n 1, 1) := by decide +kernel
theorem d11_52 : decode prog_45_method_26_code 52 = .ok (.ifCond .eq 7, 3) := by decide +kernel
theorem d11_55 : decode prog_45_method_26_code 55 = .ok (.lconst 0, 1) := by decide +kernel
theorem d11_56 : decode prog_45_method_26_code 56 = .ok (.goto 9, 3) := by decide +kernel
theorem d11_59 : decode prog_45_method_26_code 59 = .ok (.aload_n 0, 1) := by decide +kernel
theorem d11_60 : decode prog_45_method_26_code 60 = .ok (.getfield 170, 3) := by decide +kernel
theorem d11_63 : decode prog_45_method_26_code 63 = .ok (.lconst 1, 1) := by decide +kernel
theorem d11_64 : decode prog_45_method_26_code 64 = .ok (.ladd, 1) := by decide +kernel
theorem d11_65 : decode prog_45_method_26_code 65 = .ok (.putfield 170, 3) := by decide +kernel
theorem d11_68 : decode prog_45_method_26_code 68 = .ok (.aload_n 0, 1) := by decide +kernel
theorem d11_69 : decode prog_45_method_26_code 69 = .ok (.getfield 170, 3) := by decide +kernel
theorem d11_72 : decode prog_45_method_26_code 72 = .ok (.aload_n 0, 1) := by decide +kernel
theorem d11_73 : decode prog_45_method_26_code 73 = .ok (.getfield 49, 3) := by decide +kernel
theorem d11_76 : decode prog_45_method_26_code 76 = .ok (.invokevirtual 179, 3) := by decide +kernel
theorem d11_79 : decode prog_45_method_26_code 79 = .ok (.lcmp, 1) := by decide +kernel
theorem d11_80 : decode prog_45_method_26_code 80 = .ok (.ifCond .lt 10, 3) := by decide +kernel
theorem d11_83 : decode prog_45_method_26_code 83 = .ok (.getstatic 182, 3) := by decide +kernel
theorem d11_86 : decode prog_45_method_26_code 86 = .ok (.astore_n 3, 1) := by decide +kernel
theorem d11_87 : decode prog_45_method_26_code 87 = .ok (.goto 23, 3) := by decide +kernel
theorem d11_90 : decode prog_45_method_26_code 90 = .ok (.iload_n 2, 1) := by decide +kernel
theorem d11_91 : decode prog_45_method_26_code 91 = .ok (.ifCond .eq 15, 3) := by decide +kernel
theorem d11_94 : decode prog_45_method_26_code 94 = .ok (.aload_n 0, 1) := by decide +kernel
theorem d11_95 : decode prog_45_method_26_code 95 = .ok (.iconst 1, 1) := by decide +kernel
theorem d11_96 : decode prog_45_method_26_code 96 = .ok (.putfield 164, 3) := by decide +kernel
theorem d11_99 : decode prog_45_method_26_code 99 = .ok (.getstatic 188, 3) := by decide +kernel
theorem d11_102 : decode prog_45_method_26_code 102 = .ok (.astore_n 3, 1) := by decide +kernel
theorem d11_103 : decode prog_45_method_26_code 103 = .ok (.goto 7, 3) := by decide +kernel
theorem d11_110 : decode prog_45_method_26_code 110 = .ok (.aload_n 3, 1) := by decide +kernel
theorem d11_111 : decode prog_45_method_26_code 111 = .ok (.areturn, 1) := by decide +kernel
theorem pn_11 : plainName "com/example/pulsekeep/pulsekeep/core/Subscription" = true := by first | (simp [plainName, overriddenIn]; done) | decide +kernel
theorem pd11_0 : parseMethodDescriptor "()Z" = some ⟨[], some .boolean⟩ := by decide +kernel
theorem pd11_1 : parseMethodDescriptor "()J" = some ⟨[], some .long⟩ := by decide +kernel
theorem ef_11 (m : MethodId) (o0 : Addr) (p1 : Int32) : entryFrame m #[(.ref o0), (.int p1)] 4 = (mkF m 0 #[.val (.ref o0), .val (.int p1), .unset, .unset] []) := by first | (simp [entryFrame, mkF, argsToLocals, Value.category]; done) | rfl
def Q11 (Z : State) (o0 : Addr) (p1 : Int32) (se : Addr) (il : Addr) (en : Int32) (mc : Int32) (life : Int64) (cy : Int64) (md : Int32) (zD : Addr) (zC : Addr) (h0 : Heap) (n0 : Nat) (v : Option Value) (h : Heap) (L : List Loc) : Prop := v = some (.ref (own_end life (own_nc p1 cy) zD zC)) ∧ Fr n0 L ∧ Keep h0 h [o0] ∧ KF Z h0 h [(o0, Jvm.RoadKit.slotOf Z "com/example/pulsekeep/pulsekeep/core/Subscription" "cyclesWithoutRequest" "J"), (o0, Jvm.RoadKit.slotOf Z "com/example/pulsekeep/pulsekeep/core/Subscription" "messageDue" "Z")] ∧ Fld Z h o0 "com/example/pulsekeep/pulsekeep/core/Subscription" "cyclesWithoutRequest" "J" (.long (own_nc p1 cy)) ∧ Fld Z h o0 "com/example/pulsekeep/pulsekeep/core/Subscription" "messageDue" "Z" (.int (own_due life (own_nc p1 cy) md))
set_option maxRecDepth 65536 in
set_option maxHeartbeats 40000000 in
theorem rm11 (l : Launch) (Z : State) (a0 : Array Value) (hw : ∀ d ∈ tables_1, d.before a0 Z = true) (ws : List Jvm.Cond) (o0 : Addr) (p1 : Int32) (se : Addr) (il : Addr) (en : Int32) (mc : Int32) (life : Int64) (cy : Int64) (md : Int32) (zD : Addr) (zC : Addr) (h0 : Heap) (n0 : Nat) (Z0 : n0 ≤ h0.size) (E_o : Exa Z h0 o0 "com/example/pulsekeep/pulsekeep/core/Subscription") (F_settings : Fld Z h0 o0 "com/example/pulsekeep/pulsekeep/core/Subscription" "settings" "Lcom/example/pulsekeep/pulsekeep/core/SubscriptionSettings;" (.ref se)) (F_items : Fld Z h0 o0 "com/example/pulsekeep/pulsekeep/core/Subscription" "items" "Ljava/util/List;" (.ref il)) (E_se : Exa Z h0 se "com/example/pulsekeep/pulsekeep/core/SubscriptionSettings") (F_en : Fld Z h0 se "com/example/pulsekeep/pulsekeep/core/SubscriptionSettings" "publishingEnabled" "Z" (.int en)) (E_il : Exa Z h0 il "java/util/ArrayList") (F_mc : Fld Z h0 il "java/util/AbstractList" "modCount" "I" (.int mc)) (F_size : Fld Z h0 il "java/util/ArrayList" "size" "I" (.int (0 : Int32))) (F_life : Fld Z h0 se "com/example/pulsekeep/pulsekeep/core/SubscriptionSettings" "lifetimeCount" "J" (.long life)) (F_sent : Fld Z h0 o0 "com/example/pulsekeep/pulsekeep/core/Subscription" "messageSent" "Z" (.int (0 : Int32))) (F_cy : Fld Z h0 o0 "com/example/pulsekeep/pulsekeep/core/Subscription" "cyclesWithoutRequest" "J" (.long cy)) (F_md : Fld Z h0 o0 "com/example/pulsekeep/pulsekeep/core/Subscription" "messageDue" "Z" (.int md)) (S_DUE : Sta Z Z.heap "com/example/pulsekeep/pulsekeep/core/Subscription$CycleEnd" "DUE" "Lcom/example/pulsekeep/pulsekeep/core/Subscription$CycleEnd;" (.ref zD)) (S_CLOSE : Sta Z Z.heap "com/example/pulsekeep/pulsekeep/core/Subscription$CycleEnd" "CLOSE" "Lcom/example/pulsekeep/pulsekeep/core/Subscription$CycleEnd;" (.ref zC)) (Ol : Old Z n0 h0) (g_o0 : n0 ≤ o0) :
    MetFree l (⟨"com/example/pulsekeep/pulsekeep/core/Subscription", "endCycle", "(Z)Lcom/example/pulsekeep/pulsekeep/core/Subscription$CycleEnd;"⟩ : MethodName) (head1 (Jvm.Cond.code (⟨"com/example/pulsekeep/pulsekeep/core/Subscription", "endCycle", "(Z)Lcom/example/pulsekeep/pulsekeep/core/Subscription$CycleEnd;"⟩ : MethodName) prog_45_method_26_code 4 (some (.object "com/example/pulsekeep/pulsekeep/core/Subscription$CycleEnd")) :: ws) ({ frames := 4, cells := 1, slots := 4, locals := 52 } : Room)) (fun a U => a = #[(.ref o0), (.int p1)] ∧ Z.Warmed39 U.vm ∧ U.heap = h0) (fun _ _ _ _ _ => True) (fun _ U o U' => ∃ v L, o = .returned v ∧ Q11 Z o0 p1 se il en mc life cy md zD zC h0 n0 v U'.heap L ∧ FrameEnd U o U' L ({ frames := 4, cells := 1, slots := 4, locals := 52 } : Room).cells ({ frames := 4, cells := 1, slots := 4, locals := 52 } : Room).slots) := by
  refine MetFree.of_bodySF (plainFor_of_name pn_11) hisR ?_
  intro p e s m args below meth c s₁ Bd hml0 hP hK
  obtain ⟨rfl, hZ, hh⟩ := hP
  have hx := Bd.exec
  have hby := Bd.bytes
  have hml : c.maxLocals = 4 := hml0
  have hown : s.vm.findClass "com/example/pulsekeep/pulsekeep/core/Subscription" = some m.cls := findClass_of_methodNamed Bd.named
  have hnm := (name_of_methodNamed Bd.named Bd.method).1
  have hrt := Bd.returns
  have hlk := Bd.notSynchronized
  have X0 : Stand p l e ({ frames := 4, cells := 1, slots := 4, locals := 52 } : Room) s m #[(.ref o0), (.int p1)] below meth c s₁ [] 0 0 := Stand.of_body Bd
  have e0 : s₁.heap = h0 := by rw [← hh, Bd.state]; rfl
  have N0 := Fr.nil n0
  have lt_E_o : LT.lt (α := Nat) o0 h0.size := E_o.lt
  have lt_F_settings : LT.lt (α := Nat) o0 h0.size := F_settings.lt
  have lt_F_items : LT.lt (α := Nat) o0 h0.size := F_items.lt
  have lt_E_se : LT.lt (α := Nat) se h0.size := E_se.lt
  have lt_F_en : LT.lt (α := Nat) se h0.size := F_en.lt
  have lt_E_il : LT.lt (α := Nat) il h0.size := E_il.lt
  have lt_F_mc : LT.lt (α := Nat) il h0.size := F_mc.lt
  have lt_F_size : LT.lt (α := Nat) il h0.size := F_size.lt
  have lt_F_life : LT.lt (α := Nat) se h0.size := F_life.lt
  have lt_F_sent : LT.lt (α := Nat) o0 h0.size := F_sent.lt
  have lt_F_cy : LT.lt (α := Nat) o0 h0.size := F_cy.lt
  have lt_F_md : LT.lt (α := Nat) o0 h0.size := F_md.lt
  show Go p e below s 1 4 (Q11 Z o0 p1 se il en mc life cy md zD zC h0 n0) (s₁.setTop (entryFrame m #[(.ref o0), (.int p1)] 4))
  rw [ef_11 m o0 p1]
  refine Go.pre (st' := s₁.setTop (mkF m 1 #[.val (.ref o0), .val (.int p1), .unset, .unset] [(.ref o0)])) (fun target kt => ?_) ?_
  · show Steps p.tables e below (s₁.setTop (mkF m 0 #[.val (.ref o0), .val (.int p1), .unset, .unset] [])) _
    refine XS.aloadN X0.here hx rfl (hb hby d11_0) rfl rfl ?_
    exact kt
  obtain ⟨cq1, q1, q1'⟩ := E_o.cell
  obtain ⟨_, _, ⟨T1, L1, k1, n1⟩, -, X1, ⟨Lc1, hQ1, l1, y1, z1⟩, st1⟩ := X0.privateBack hx (y := (⟨"com/example/pulsekeep/pulsekeep/core/Subscription", "hasNotifications", "()Z"⟩ : MethodName)) hown (mvT hZ (hw _ (List.mem_of_getElem? (i := 120) rfl))) (mvT hZ (hw _ (List.mem_of_getElem? (i := 121) rfl))) (mvT hZ (selects_private (y := (⟨"com/example/pulsekeep/pulsekeep/core/Subscription", "hasNotifications", "()Z"⟩ : MethodName)) (hw _ (List.mem_of_getElem? (i := 28) rfl)) (hw _ (List.mem_of_getElem? (i := 122) rfl)) (hw _ (List.mem_of_getElem? (i := 121) rfl)))) (Cond.privateMethod_at (mvP hZ (hw _ (List.mem_of_getElem? (i := 122) rfl)) (args := #[]))) (mvT hZ (hw _ (List.mem_of_getElem? (i := 123) rfl))) (by decide) (backOf (W := 0) (rm12 l Z a0 hw [] o0 se il en mc h0 n0 (by omega) E_o F_settings F_items E_se F_en E_il F_mc F_size) hZ (hw _ (List.mem_of_getElem? (i := 123) rfl)) (hw _ (List.mem_of_getElem? (i := 29) rfl)) (by decide) (by decide)) (g := (mkF m 1 #[.val (.ref o0), .val (.int p1), .unset, .unset] [(.ref o0)])) rfl (by rw [hml]; rfl) (Steps.refl _) (a := o0) (by rw [e0]; exact q1) q1' (argsL := []) (rest := []) (lenOf pd11_0 rfl) rfl (by show 2 * 0 + _ ≤ _; exact Nat.le_of_eq rfl) (hb hby d11_1) (fun vm₁ hvm => ⟨rfl, e0, (by decide : 0 + 1 ≤ _), (by decide : 0 + 4 ≤ _)⟩)
  dsimp only [Pt.U, Pt.locs, Pt.cells, Pt.slots] at X1 l1 y1 z1 st1 hQ1
  subst l1 y1 z1
  obtain ⟨rfl, N1q, K1, KF1⟩ := hQ1
  have sz1 : h0.size ≤ T1.heap.size := K1.1
  have N1 := Fr.app N0 N1q
  refine Go.trans st1 ?_
  show Go p e below s _ _ _ (T1.setTop (mkF m 4 #[.val (.ref o0), .val (.int p1), .unset, .unset] [(.int (0 : Int32))]))
  refine Go.pre (st' := T1.setTop (mkF m 8 #[.val (.ref o0), .val (.int p1), .unset, .unset] [(.ref o0)])) (fun target kt => ?_) ?_
  · show Steps p.tables e below (T1.setTop (mkF m 4 #[.val (.ref o0), .val (.int p1), .unset, .unset] [(.int (0 : Int32))])) _
    refine XS.ifNo X1.here hx rfl (hb hby d11_4) rfl ((if0 _ _).trans (teq (by decide)).2) ?_
    show Steps p.tables e below (T1.setTop (mkF m 7 #[.val (.ref o0), .val (.int p1), .unset, .unset] [])) _
    refine XS.aloadN X1.here hx rfl (hb hby d11_7) rfl rfl ?_
    exact kt
  have Y2 : Fld Z T1.heap o0 "com/example/pulsekeep/pulsekeep/core/Subscription" "messageSent" "Z" (.int (0 : Int32)) := (F_sent.keep K1 nin0)
  obtain ⟨T3, X3, e3, st3⟩ := getF X1 hx hZ hown (host := "") (Or.inl (hw _ (List.mem_of_getElem? (i := 129) rfl))) Via.refl rfl Y2 (g := (mkF m 8 #[.val (.ref o0), .val (.int p1), .unset, .unset] [(.ref o0)])) rfl rfl (hb hby d11_8)
  refine Go.pre st3 ?_
  show Go p e below s _ _ _ (T3.setTop (mkF m 11 #[.val (.ref o0), .val (.int p1), .unset, .unset] [(.int (0 : Int32))]))
  refine Go.pre (st' := T3.setTop (mkF m 52 #[.val (.ref o0), .val (.int p1), .val (.int (1 : Int32)), .unset] [(.int p1), (.ref o0)])) (fun target kt => ?_) ?_
  · show Steps p.tables e below (T3.setTop (mkF m 11 #[.val (.ref o0), .val (.int p1), .unset, .unset] [(.int (0 : Int32))])) _
    refine XS.ifNo X3.here hx rfl (hb hby d11_11) rfl ((if0 _ _).trans (teq (by decide)).2) ?_
    show Steps p.tables e below (T3.setTop (mkF m 14 #[.val (.ref o0), .val (.int p1), .unset, .unset] [])) _
    refine XS.iconst X3.here hx rfl (hb hby d11_14) ?_
    show Steps p.tables e below (T3.setTop (mkF m 15 #[.val (.ref o0), .val (.int p1), .unset, .unset] [(.int (1 : Int32))])) _
    refine XS.istoreN X3.here hx rfl (hb hby d11_15) rfl (l' := #[.val (.ref o0), .val (.int p1), .val (.int (1 : Int32)), .unset]) rfl ?_
    show Steps p.tables e below (T3.setTop (mkF m 16 #[.val (.ref o0), .val (.int p1), .val (.int (1 : Int32)), .unset] [])) _
    refine XS.goto X3.here hx rfl (pc0 := 16) (pc' := 50) rfl (hb hby d11_16) (by decide) (by decide) ?_
    show Steps p.tables e below (T3.setTop (mkF m 50 #[.val (.ref o0), .val (.int p1), .val (.int (1 : Int32)), .unset] [])) _
    refine XS.aloadN X3.here hx rfl (hb hby d11_50) rfl rfl ?_
    show Steps p.tables e below (T3.setTop (mkF m 51 #[.val (.ref o0), .val (.int p1), .val (.int (1 : Int32)), .unset] [(.ref o0)])) _
    refine XS.iloadN X3.here hx rfl (hb hby d11_51) rfl ?_
    exact kt
  by_cases h52_4 : p1 = (0 : Int32)
  · refine Go.pre (st' := T3.setTop (mkF m 59 #[.val (.ref o0), .val (.int p1), .val (.int (1 : Int32)), .unset] [(.ref o0)])) (fun target kt => ?_) ?_
    · show Steps p.tables e below (T3.setTop (mkF m 52 #[.val (.ref o0), .val (.int p1), .val (.int (1 : Int32)), .unset] [(.int p1), (.ref o0)])) _
      refine XS.ifYes X3.here hx rfl (pc0 := 52) (pc' := 59) rfl (hb hby d11_52) rfl ((if0 _ _).trans (teq h52_4).1) (by decide) (by decide) ?_
      exact kt
    refine Go.pre (st' := T3.setTop (mkF m 60 #[.val (.ref o0), .val (.int p1), .val (.int (1 : Int32)), .unset] [(.ref o0), (.ref o0)])) (fun target kt => ?_) ?_
    · show Steps p.tables e below (T3.setTop (mkF m 59 #[.val (.ref o0), .val (.int p1), .val (.int (1 : Int32)), .unset] [(.ref o0)])) _
      refine XS.aloadN X3.here hx rfl (hb hby d11_59) rfl rfl ?_
      exact kt
    have Y5 : Fld Z T1.heap o0 "com/example/pulsekeep/pulsekeep/core/Subscription" "cyclesWithoutRequest" "J" (.long cy) := (F_cy.keep K1 nin0)
    obtain ⟨T6, X6, e6, st6⟩ := getF X3 hx hZ hown (host := "") (Or.inl (hw _ (List.mem_of_getElem? (i := 131) rfl))) Via.refl e3 Y5 (g := (mkF m 60 #[.val (.ref o0), .val (.int p1), .val (.int (1 : Int32)), .unset] [(.ref o0), (.ref o0)])) rfl rfl (hb hby d11_60)
    refine Go.pre st6 ?_
    show Go p e below s _ _ _ (T6.setTop (mkF m 63 #[.val (.ref o0), .val (.int p1), .val (.int (1 : Int32)), .unset] [(.long cy), (.ref o0)]))
    refine Go.pre (st' := T6.setTop (mkF m 65 #[.val (.ref o0), .val (.int p1), .val (.int (1 : Int32)), .unset] [(.long (cy + (1 : Int64))), (.ref o0)])) (fun target kt => ?_) ?_
    · show Steps p.tables e below (T6.setTop (mkF m 63 #[.val (.ref o0), .val (.int p1), .val (.int (1 : Int32)), .unset] [(.long cy), (.ref o0)])) _
      refine XS.lconst X6.here hx rfl (hb hby d11_63) ?_
      show Steps p.tables e below (T6.setTop (mkF m 64 #[.val (.ref o0), .val (.int p1), .val (.int (1 : Int32)), .unset] [(.long (1 : Int64)), (.long cy), (.ref o0)])) _
      refine XS.ladd X6.here hx rfl (hb hby d11_64) rfl ?_
      exact kt
    have Y7 : Exa Z T1.heap o0 "com/example/pulsekeep/pulsekeep/core/Subscription" := (E_o.keep K1)
    obtain ⟨T8, h8, X8, e8, W8, st8⟩ := putF X6 hx hZ hown (host := "") (Or.inl (hw _ (List.mem_of_getElem? (i := 131) rfl))) Via.refl e6 Y5 Y7 (Or.inl (hw _ (List.mem_of_getElem? (i := 132) rfl))) (hw _ (List.mem_of_getElem? (i := 28) rfl)) (ty := .long) (by decide) rfl rfl (g := (mkF m 65 #[.val (.ref o0), .val (.int p1), .val (.int (1 : Int32)), .unset] [(.long (cy + (1 : Int64))), (.ref o0)])) rfl rfl (hb hby d11_65)
    have sz8 : T1.heap.size ≤ h8.size := (Keep.of_wr W8).1
    have Y9 : Fld Z h8 o0 "com/example/pulsekeep/pulsekeep/core/Subscription" "cyclesWithoutRequest" "J" (.long (cy + (1 : Int64))) := Y5.same W8
    have N8 := Fr.snoc X8 N1 (by omega)
    refine Go.pre st8 ?_
    show Go p e below s _ _ _ (T8.setTop (mkF m 68 #[.val (.ref o0), .val (.int p1), .val (.int (1 : Int32)), .unset] []))
    refine Go.pre (st' := T8.setTop (mkF m 69 #[.val (.ref o0), .val (.int p1), .val (.int (1 : Int32)), .unset] [(.ref o0)])) (fun target kt => ?_) ?_
    · show Steps p.tables e below (T8.setTop (mkF m 68 #[.val (.ref o0), .val (.int p1), .val (.int (1 : Int32)), .unset] [])) _
      refine XS.aloadN X8.here hx rfl (hb hby d11_68) rfl rfl ?_
      exact kt
    obtain ⟨T10, X10, e10, st10⟩ := getF X8 hx hZ hown (host := "") (Or.inl (hw _ (List.mem_of_getElem? (i := 131) rfl))) Via.refl e8 Y9 (g := (mkF m 69 #[.val (.ref o0), .val (.int p1), .val (.int (1 : Int32)), .unset] [(.ref o0)])) rfl rfl (hb hby d11_69)
    refine Go.pre st10 ?_
    show Go p e below s _ _ _ (T10.setTop (mkF m 72 #[.val (.ref o0), .val (.int p1), .val (.int (1 : Int32)), .unset] [(.long (cy + (1 : Int64)))]))
    refine Go.pre (st' := T10.setTop (mkF m 73 #[.val (.ref o0), .val (.int p1), .val (.int (1 : Int32)), .unset] [(.ref o0), (.long (cy + (1 : Int64)))])) (fun target kt => ?_) ?_
    · show Steps p.tables e below (T10.setTop (mkF m 72 #[.val (.ref o0), .val (.int p1), .val (.int (1 : Int32)), .unset] [(.long (cy + (1 : Int64)))])) _
      refine XS.aloadN X10.here hx rfl (hb hby d11_72) rfl rfl ?_
      exact kt
    have Y11 : Fld Z h8 o0 "com/example/pulsekeep/pulsekeep/core/Subscription" "settings" "Lcom/example/pulsekeep/pulsekeep/core/SubscriptionSettings;" (.ref se) := ((F_settings.keep K1 nin0).other W8 (Or.inr (slot_ne (Or.inl (hw _ (List.mem_of_getElem? (i := 114) rfl))) (Or.inl (hw _ (List.mem_of_getElem? (i := 132) rfl))) (by decide) (t := (.object "com/example/pulsekeep/pulsekeep/core/SubscriptionSettings")) (t' := .long) (by decide) (by decide))))
    obtain ⟨T12, X12, e12, st12⟩ := getF X10 hx hZ hown (host := "") (Or.inl (hw _ (List.mem_of_getElem? (i := 113) rfl))) Via.refl e10 Y11 (g := (mkF m 73 #[.val (.ref o0), .val (.int p1), .val (.int (1 : Int32)), .unset] [(.ref o0), (.long (cy + (1 : Int64)))])) rfl rfl (hb hby d11_73)
    refine Go.pre st12 ?_
    show Go p e below s _ _ _ (T12.setTop (mkF m 76 #[.val (.ref o0), .val (.int p1), .val (.int (1 : Int32)), .unset] [(.ref se), (.long (cy + (1 : Int64)))]))
    have Y14 : Fld Z h8 se "com/example/pulsekeep/pulsekeep/core/SubscriptionSettings" "lifetimeCount" "J" (.long life) := ((F_life.keep K1 nin0).other W8 (Or.inl (ne_exa E_se E_o (by decide))))
    have Y15 : Exa Z h8 se "com/example/pulsekeep/pulsekeep/core/SubscriptionSettings" := ((E_se.keep K1).wr W8)
    obtain ⟨cq13, kq13, q13a, q13b, q13c⟩ := isOf hZ e12 Y15
    obtain ⟨_, _, ⟨T13, L13, k13, n13⟩, -, X13, ⟨Lc13, hQ13, l13, y13, z13⟩, st13⟩ := X12.virtualBack hx (y := (⟨"com/example/pulsekeep/pulsekeep/core/SubscriptionSettings", "lifetimeCount", "()J"⟩ : MethodName)) (z := (⟨"com/example/pulsekeep/pulsekeep/core/SubscriptionSettings", "lifetimeCount", "()J"⟩ : MethodName)) hown (mvT hZ (hw _ (List.mem_of_getElem? (i := 133) rfl))) (mvT hZ (hw _ (List.mem_of_getElem? (i := 134) rfl))) (notFace_of_selects (args := #[]) (mvT hZ (hw _ (List.mem_of_getElem? (i := 136) rfl)))) (mvT hZ (hw _ (List.mem_of_getElem? (i := 136) rfl))) (mvT hZ (hw _ (List.mem_of_getElem? (i := 135) rfl))) (by decide) (backOf (W := 2) (rm14 l Z a0 hw [] se life h8 n0 (by omega) Y14) hZ (hw _ (List.mem_of_getElem? (i := 137) rfl)) (hw _ (List.mem_of_getElem? (i := 2) rfl)) (by decide) (by decide)) q13a q13c (g := (mkF m 76 #[.val (.ref o0), .val (.int p1), .val (.int (1 : Int32)), .unset] [(.ref se), (.long (cy + (1 : Int64)))])) rfl (by rw [hml]; rfl) (Steps.refl _) (argsL := []) (rest := [(.long (cy + (1 : Int64)))]) (lenOf pd11_1 rfl) rfl (by show 2 * 0 + _ ≤ _; exact Nat.le_of_eq rfl) (hb hby d11_76) (fun vm₁ hvm => ⟨rfl, e12, (by decide : 1 + 0 ≤ _), (by decide : 4 + 0 ≤ _)⟩)
    dsimp only [Pt.U, Pt.locs, Pt.cells, Pt.slots] at X13 l13 y13 z13 st13 hQ13
    subst l13 y13 z13
    obtain ⟨rfl, N13q, e13⟩ := hQ13
    have N13 := Fr.app N8 N13q
    refine Go.trans st13 ?_
    show Go p e below s _ _ _ (T13.setTop (mkF m 79 #[.val (.ref o0), .val (.int p1), .val (.int (1 : Int32)), .unset] [(.long life), (.long (cy + (1 : Int64)))]))
    refine Go.pre (st' := T13.setTop (mkF m 80 #[.val (.ref o0), .val (.int p1), .val (.int (1 : Int32)), .unset] [(.int (lcmpW (cy + (1 : Int64)) life))])) (fun target kt => ?_) ?_
    · show Steps p.tables e below (T13.setTop (mkF m 79 #[.val (.ref o0), .val (.int p1), .val (.int (1 : Int32)), .unset] [(.long life), (.long (cy + (1 : Int64)))])) _
      refine XS.lcmp X13.here hx rfl (hb hby d11_79) rfl ?_
      exact kt
    by_cases h80_16 : (cy + (1 : Int64)) < life
    · refine Go.pre (st' := T13.setTop (mkF m 90 #[.val (.ref o0), .val (.int p1), .val (.int (1 : Int32)), .unset] [])) (fun target kt => ?_) ?_
      · show Steps p.tables e below (T13.setTop (mkF m 80 #[.val (.ref o0), .val (.int p1), .val (.int (1 : Int32)), .unset] [(.int (lcmpW (cy + (1 : Int64)) life))])) _
        refine XS.ifYes X13.here hx rfl (pc0 := 80) (pc' := 90) rfl (hb hby d11_80) rfl ((if0 _ _).trans (tlt ((lw_lt _ _).mpr h80_16)).1) (by decide) (by decide) ?_
        exact kt
      refine Go.pre (st' := T13.setTop (mkF m 96 #[.val (.ref o0), .val (.int p1), .val (.int (1 : Int32)), .unset] [(.int (1 : Int32)), (.ref o0)])) (fun target kt => ?_) ?_
      · show Steps p.tables e below (T13.setTop (mkF m 90 #[.val (.ref o0), .val (.int p1), .val (.int (1 : Int32)), .unset] [])) _
        refine XS.iloadN X13.here hx rfl (hb hby d11_90) rfl ?_
        show Steps p.tables e below (T13.setTop (mkF m 91 #[.val (.ref o0), .val (.int p1), .val (.int (1 : Int32)), .unset] [(.int (1 : Int32))])) _
        refine XS.ifNo X13.here hx rfl (hb hby d11_91) rfl ((if0 _ _).trans (feq (by decide)).1) ?_
        show Steps p.tables e below (T13.setTop (mkF m 94 #[.val (.ref o0), .val (.int p1), .val (.int (1 : Int32)), .unset] [])) _
        refine XS.aloadN X13.here hx rfl (hb hby d11_94) rfl rfl ?_
        show Steps p.tables e below (T13.setTop (mkF m 95 #[.val (.ref o0), .val (.int p1), .val (.int (1 : Int32)), .unset] [(.ref o0)])) _
        refine XS.iconst X13.here hx rfl (hb hby d11_95) ?_
        exact kt
      have Y17 : Fld Z h8 o0 "com/example/pulsekeep/pulsekeep/core/Subscription" "messageDue" "Z" (.int md) := ((F_md.keep K1 nin0).other W8 (Or.inr (slot_ne (Or.inl (hw _ (List.mem_of_getElem? (i := 139) rfl))) (Or.inl (hw _ (List.mem_of_getElem? (i := 132) rfl))) (by decide) (t := .boolean) (t' := .long) (by decide) (by decide))))
      have Y18 : Exa Z h8 o0 "com/example/pulsekeep/pulsekeep/core/Subscription" := (Y7.wr W8)
      obtain ⟨T19, h19, X19, e19, W19, st19⟩ := putFN X13 hx hZ hown (hw _ (List.mem_of_getElem? (i := 138) rfl)) Via.refl e13 Y17 Y18 (Or.inl (hw _ (List.mem_of_getElem? (i := 139) rfl))) (hw _ (List.mem_of_getElem? (i := 28) rfl)) (ty := .boolean) (v' := (.int (1 : Int32))) (by decide) rfl rfl (g := (mkF m 96 #[.val (.ref o0), .val (.int p1), .val (.int (1 : Int32)), .unset] [(.int (1 : Int32)), (.ref o0)])) rfl rfl (hb hby d11_96)
      have sz19 : h8.size ≤ h19.size := (Keep.of_wr W19).1
      have Y20 : Fld Z h19 o0 "com/example/pulsekeep/pulsekeep/core/Subscription" "messageDue" "Z" (.int (1 : Int32)) := Y17.same W19
      have N19 := Fr.snoc X19 N13 (by omega)
      refine Go.pre st19 ?_
      show Go p e below s _ _ _ (T19.setTop (mkF m 99 #[.val (.ref o0), .val (.int p1), .val (.int (1 : Int32)), .unset] []))
      have Y21 : Old Z n0 h19 := (((Ol.keep K1 all0).wr W8 (by omega)).wr W19 (by omega))
      obtain ⟨T22, X22, e22, st22⟩ := getS2 X19 hx hZ hown (host := "") (Or.inl (hw _ (List.mem_of_getElem? (i := 140) rfl))) Via.refl e19 (S_DUE.ext Y21.2) (g := (mkF m 99 #[.val (.ref o0), .val (.int p1), .val (.int (1 : Int32)), .unset] [])) rfl (hb hby d11_99)
      refine Go.pre st22 ?_
      show Go p e below s _ _ _ (T22.setTop (mkF m 102 #[.val (.ref o0), .val (.int p1), .val (.int (1 : Int32)), .unset] [(.ref zD)]))
      refine Go.pre (st' := T22.setTop (mkF m 111 #[.val (.ref o0), .val (.int p1), .val (.int (1 : Int32)), .val (.ref zD)] [(.ref zD)])) (fun target kt => ?_) ?_
      · show Steps p.tables e below (T22.setTop (mkF m 102 #[.val (.ref o0), .val (.int p1), .val (.int (1 : Int32)), .unset] [(.ref zD)])) _
        refine XS.astoreN X22.here hx rfl (hb hby d11_102) rfl rfl (l' := #[.val (.ref o0), .val (.int p1), .val (.int (1 : Int32)), .val (.ref zD)]) rfl ?_
        show Steps p.tables e below (T22.setTop (mkF m 103 #[.val (.ref o0), .val (.int p1), .val (.int (1 : Int32)), .val (.ref zD)] [])) _
        refine XS.goto X22.here hx rfl (pc0 := 103) (pc' := 110) rfl (hb hby d11_103) (by decide) (by decide) ?_
        show Steps p.tables e below (T22.setTop (mkF m 110 #[.val (.ref o0), .val (.int p1), .val (.int (1 : Int32)), .val (.ref zD)] [])) _
        refine XS.aloadN X22.here hx rfl (hb hby d11_110) rfl rfl ?_
        exact kt
      have Y23 : Fld Z h19 o0 "com/example/pulsekeep/pulsekeep/core/Subscription" "cyclesWithoutRequest" "J" (.long (cy + (1 : Int64))) := (Y9.other W19 (Or.inr (slot_ne (Or.inl (hw _ (List.mem_of_getElem? (i := 132) rfl))) (Or.inl (hw _ (List.mem_of_getElem? (i := 139) rfl))) (by decide) (t := .long) (t' := .boolean) (by decide) (by decide))))
      exact Go.retV X22 hx hlk hrt rfl (Or.inr (Or.inr (Or.inr (Or.inr ⟨rfl, rfl, rfl⟩)))) (hb hby d11_111) (by decide) (by decide) (by rw [e22]; exact ⟨by rw [own_end, own_nc, if_pos h52_4, if_pos h80_16], N19, ((((Keep.refl h0 [o0]).trans K1 all0).wr W8 (Or.inl (List.mem_of_getElem? (i := 0) rfl))).wr W19 (Or.inl (List.mem_of_getElem? (i := 0) rfl))), ((((KF.refl Z h0 [(o0, Jvm.RoadKit.slotOf Z "com/example/pulsekeep/pulsekeep/core/Subscription" "cyclesWithoutRequest" "J"), (o0, Jvm.RoadKit.slotOf Z "com/example/pulsekeep/pulsekeep/core/Subscription" "messageDue" "Z")]).trans KF1 pall0).wr W8 (Or.inl (List.mem_of_getElem? (i := 0) rfl))).wr W19 (Or.inl (List.mem_of_getElem? (i := 1) rfl))), by rw [own_nc, if_pos h52_4]; exact Y23, by rw [own_due, own_nc, if_pos h52_4, if_pos h80_16]; exact Y20⟩)
    · refine Go.pre (st' := T13.setTop (mkF m 83 #[.val (.ref o0), .val (.int p1), .val (.int (1 : Int32)), .unset] [])) (fun target kt => ?_) ?_
      · show Steps p.tables e below (T13.setTop (mkF m 80 #[.val (.ref o0), .val (.int p1), .val (.int (1 : Int32)), .unset] [(.int (lcmpW (cy + (1 : Int64)) life))])) _
        refine XS.ifNo X13.here hx rfl (hb hby d11_80) rfl ((if0 _ _).trans (flt (fun q => h80_16 ((lw_lt _ _).mp q))).1) ?_
        exact kt
      have Y24 : Old Z n0 h8 := ((Ol.keep K1 all0).wr W8 (by omega))
      obtain ⟨T25, X25, e25, st25⟩ := getS2 X13 hx hZ hown (host := "") (Or.inl (hw _ (List.mem_of_getElem? (i := 196) rfl))) Via.refl e13 (S_CLOSE.ext Y24.2) (g := (mkF m 83 #[.val (.ref o0), .val (.int p1), .val (.int (1 : Int32)), .unset] [])) rfl (hb hby d11_83)
      refine Go.pre st25 ?_
      show Go p e below s _ _ _ (T25.setTop (mkF m 86 #[.val (.ref o0), .val (.int p1), .val (.int (1 : Int32)), .unset] [(.ref zC)]))
      refine Go.pre (st' := T25.setTop (mkF m 111 #[.val (.ref o0), .val (.int p1), .val (.int (1 : Int32)), .val (.ref zC)] [(.ref zC)])) (fun target kt => ?_) ?_
      · show Steps p.tables e below (T25.setTop (mkF m 86 #[.val (.ref o0), .val (.int p1), .val (.int (1 : Int32)), .unset] [(.ref zC)])) _
        refine XS.astoreN X25.here hx rfl (hb hby d11_86) rfl rfl (l' := #[.val (.ref o0), .val (.int p1), .val (.int (1 : Int32)), .val (.ref zC)]) rfl ?_
        show Steps p.tables e below (T25.setTop (mkF m 87 #[.val (.ref o0), .val (.int p1), .val (.int (1 : Int32)), .val (.ref zC)] [])) _
        refine XS.goto X25.here hx rfl (pc0 := 87) (pc' := 110) rfl (hb hby d11_87) (by decide) (by decide) ?_
        show Steps p.tables e below (T25.setTop (mkF m 110 #[.val (.ref o0), .val (.int p1), .val (.int (1 : Int32)), .val (.ref zC)] [])) _
        refine XS.aloadN X25.here hx rfl (hb hby d11_110) rfl rfl ?_
        exact kt
      have Y26 : Fld Z h8 o0 "com/example/pulsekeep/pulsekeep/core/Subscription" "messageDue" "Z" (.int md) := ((F_md.keep K1 nin0).other W8 (Or.inr (slot_ne (Or.inl (hw _ (List.mem_of_getElem? (i := 139) rfl))) (Or.inl (hw _ (List.mem_of_getElem? (i := 132) rfl))) (by decide) (t := .boolean) (t' := .long) (by decide) (by decide))))
      exact Go.retV X25 hx hlk hrt rfl (Or.inr (Or.inr (Or.inr (Or.inr ⟨rfl, rfl, rfl⟩)))) (hb hby d11_111) (by decide) (by decide) (by rw [e25]; exact ⟨by rw [own_end, own_nc, if_pos h52_4, if_neg h80_16], N13, (((Keep.refl h0 [o0]).trans K1 all0).wr W8 (Or.inl (List.mem_of_getElem? (i := 0) rfl))), (((KF.refl Z h0 [(o0, Jvm.RoadKit.slotOf Z "com/example/pulsekeep/pulsekeep/core/Subscription" "cyclesWithoutRequest" "J"), (o0, Jvm.RoadKit.slotOf Z "com/example/pulsekeep/pulsekeep/core/Subscription" "messageDue" "Z")]).trans KF1 pall0).wr W8 (Or.inl (List.mem_of_getElem? (i := 0) rfl))), by rw [own_nc, if_pos h52_4]; exact Y9, by rw [own_due, own_nc, if_pos h52_4, if_neg h80_16]; exact Y26⟩)
  · refine Go.pre (st' := T3.setTop (mkF m 55 #[.val (.ref o0), .val (.int p1), .val (.int (1 : Int32)), .unset] [(.ref o0)])) (fun target kt => ?_) ?_
    · show Steps p.tables e below (T3.setTop (mkF m 52 #[.val (.ref o0), .val (.int p1), .val (.int (1 : Int32)), .unset] [(.int p1), (.ref o0)])) _
      refine XS.ifNo X3.here hx rfl (hb hby d11_52) rfl ((if0 _ _).trans (feq h52_4).1) ?_
      exact kt
    refine Go.pre (st' := T3.setTop (mkF m 65 #[.val (.ref o0), .val (.int p1), .val (.int (1 : Int32)), .unset] [(.long (0 : Int64)), (.ref o0)])) (fun target kt => ?_) ?_
    · show Steps p.tables e below (T3.setTop (mkF m 55 #[.val (.ref o0), .val (.int p1), .val (.int (1 : Int32)), .unset] [(.ref o0)])) _
      refine XS.lconst X3.here hx rfl (hb hby d11_55) ?_
      show Steps p.tables e below (T3.setTop (mkF m 56 #[.val (.ref o0), .val (.int p1), .val (.int (1 : Int32)), .unset] [(.long (0 : Int64)), (.ref o0)])) _
      refine XS.goto X3.here hx rfl (pc0 := 56) (pc' := 65) rfl (hb hby d11_56) (by decide) (by decide) ?_
      exact kt
    have Y27 : Fld Z T1.heap o0 "com/example/pulsekeep/pulsekeep/core/Subscription" "cyclesWithoutRequest" "J" (.long cy) := (F_cy.keep K1 nin0)
    have Y28 : Exa Z T1.heap o0 "com/example/pulsekeep/pulsekeep/core/Subscription" := (E_o.keep K1)
    obtain ⟨T29, h29, X29, e29, W29, st29⟩ := putF X3 hx hZ hown (host := "") (Or.inl (hw _ (List.mem_of_getElem? (i := 131) rfl))) Via.refl e3 Y27 Y28 (Or.inl (hw _ (List.mem_of_getElem? (i := 132) rfl))) (hw _ (List.mem_of_getElem? (i := 28) rfl)) (ty := .long) (by decide) rfl rfl (g := (mkF m 65 #[.val (.ref o0), .val (.int p1), .val (.int (1 : Int32)), .unset] [(.long (0 : Int64)), (.ref o0)])) rfl rfl (hb hby d11_65)
    have sz29 : T1.heap.size ≤ h29.size := (Keep.of_wr W29).1
    have Y30 : Fld Z h29 o0 "com/example/pulsekeep/pulsekeep/core/Subscription" "cyclesWithoutRequest" "J" (.long (0 : Int64)) := Y27.same W29
    have N29 := Fr.snoc X29 N1 (by omega)
    refine Go.pre st29 ?_
    show Go p e below s _ _ _ (T29.setTop (mkF m 68 #[.val (.ref o0), .val (.int p1), .val (.int (1 : Int32)), .unset] []))
    refine Go.pre (st' := T29.setTop (mkF m 69 #[.val (.ref o0), .val (.int p1), .val (.int (1 : Int32)), .unset] [(.ref o0)])) (fun target kt => ?_) ?_
    · show Steps p.tables e below (T29.setTop (mkF m 68 #[.val (.ref o0), .val (.int p1), .val (.int (1 : Int32)), .unset] [])) _
      refine XS.aloadN X29.here hx rfl (hb hby d11_68) rfl rfl ?_
      exact kt
    obtain ⟨T31, X31, e31, st31⟩ := getF X29 hx hZ hown (host := "") (Or.inl (hw _ (List.mem_of_getElem? (i := 131) rfl))) Via.refl e29 Y30 (g := (mkF m 69 #[.val (.ref o0), .val (.int p1), .val (.int (1 : Int32)), .unset] [(.ref o0)])) rfl rfl (hb hby d11_69)
    refine Go.pre st31 ?_
    show Go p e below s _ _ _ (T31.setTop (mkF m 72 #[.val (.ref o0), .val (.int p1), .val (.int (1 : Int32)), .unset] [(.long (0 : Int64))]))
    refine Go.pre (st' := T31.setTop (mkF m 73 #[.val (.ref o0), .val (.int p1), .val (.int (1 : Int32)), .unset] [(.ref o0), (.long (0 : Int64))])) (fun target kt => ?_) ?_
    · show Steps p.tables e below (T31.setTop (mkF m 72 #[.val (.ref o0), .val (.int p1), .val (.int (1 : Int32)), .unset] [(.long (0 : Int64))])) _
      refine XS.aloadN X31.here hx rfl (hb hby d11_72) rfl rfl ?_
      exact kt
    have Y32 : Fld Z h29 o0 "com/example/pulsekeep/pulsekeep/core/Subscription" "settings" "Lcom/example/pulsekeep/pulsekeep/core/SubscriptionSettings;" (.ref se) := ((F_settings.keep K1 nin0).other W29 (Or.inr (slot_ne (Or.inl (hw _ (List.mem_of_getElem? (i := 114) rfl))) (Or.inl (hw _ (List.mem_of_getElem? (i := 132) rfl))) (by decide) (t := (.object "com/example/pulsekeep/pulsekeep/core/SubscriptionSettings")) (t' := .long) (by decide) (by decide))))
    obtain ⟨T33, X33, e33, st33⟩ := getF X31 hx hZ hown (host := "") (Or.inl (hw _ (List.mem_of_getElem? (i := 113) rfl))) Via.refl e31 Y32 (g := (mkF m 73 #[.val (.ref o0), .val (.int p1), .val (.int (1 : Int32)), .unset] [(.ref o0), (.long (0 : Int64))])) rfl rfl (hb hby d11_73)
    refine Go.pre st33 ?_
    show Go p e below s _ _ _ (T33.setTop (mkF m 76 #[.val (.ref o0), .val (.int p1), .val (.int (1 : Int32)), .unset] [(.ref se), (.long (0 : Int64))]))
    have Y35 : Fld Z h29 se "com/example/pulsekeep/pulsekeep/core/SubscriptionSettings" "lifetimeCount" "J" (.long life) := ((F_life.keep K1 nin0).other W29 (Or.inl (ne_exa E_se E_o (by decide))))
    have Y36 : Exa Z h29 se "com/example/pulsekeep/pulsekeep/core/SubscriptionSettings" := ((E_se.keep K1).wr W29)
    obtain ⟨cq34, kq34, q34a, q34b, q34c⟩ := isOf hZ e33 Y36
    obtain ⟨_, _, ⟨T34, L34, k34, n34⟩, -, X34, ⟨Lc34, hQ34, l34, y34, z34⟩, st34⟩ := X33.virtualBack hx (y := (⟨"com/example/pulsekeep/pulsekeep/core/SubscriptionSettings", "lifetimeCount", "()J"⟩ : MethodName)) (z := (⟨"com/example/pulsekeep/pulsekeep/core/SubscriptionSettings", "lifetimeCount", "()J"⟩ : MethodName)) hown (mvT hZ (hw _ (List.mem_of_getElem? (i := 133) rfl))) (mvT hZ (hw _ (List.mem_of_getElem? (i := 134) rfl))) (notFace_of_selects (args := #[]) (mvT hZ (hw _ (List.mem_of_getElem? (i := 136) rfl)))) (mvT hZ (hw _ (List.mem_of_getElem? (i := 136) rfl))) (mvT hZ (hw _ (List.mem_of_getElem? (i := 135) rfl))) (by decide) (backOf (W := 2) (rm14 l Z a0 hw [] se life h29 n0 (by omega) Y35) hZ (hw _ (List.mem_of_getElem? (i := 137) rfl)) (hw _ (List.mem_of_getElem? (i := 2) rfl)) (by decide) (by decide)) q34a q34c (g := (mkF m 76 #[.val (.ref o0), .val (.int p1), .val (.int (1 : Int32)), .unset] [(.ref se), (.long (0 : Int64))])) rfl (by rw [hml]; rfl) (Steps.refl _) (argsL := []) (rest := [(.long (0 : Int64))]) (lenOf pd11_1 rfl) rfl (by show 2 * 0 + _ ≤ _; exact Nat.le_of_eq rfl) (hb hby d11_76) (fun vm₁ hvm => ⟨rfl, e33, (by decide : 1 + 0 ≤ _), (by decide : 4 + 0 ≤ _)⟩)
    dsimp only [Pt.U, Pt.locs, Pt.cells, Pt.slots] at X34 l34 y34 z34 st34 hQ34
    subst l34 y34 z34
    obtain ⟨rfl, N34q, e34⟩ := hQ34
    have N34 := Fr.app N29 N34q
    refine Go.trans st34 ?_
    show Go p e below s _ _ _ (T34.setTop (mkF m 79 #[.val (.ref o0), .val (.int p1), .val (.int (1 : Int32)), .unset] [(.long life), (.long (0 : Int64))]))
    refine Go.pre (st' := T34.setTop (mkF m 80 #[.val (.ref o0), .val (.int p1), .val (.int (1 : Int32)), .unset] [(.int (lcmpW (0 : Int64) life))])) (fun target kt => ?_) ?_
    · show Steps p.tables e below (T34.setTop (mkF m 79 #[.val (.ref o0), .val (.int p1), .val (.int (1 : Int32)), .unset] [(.long life), (.long (0 : Int64))])) _
      refine XS.lcmp X34.here hx rfl (hb hby d11_79) rfl ?_
      exact kt
    by_cases h80_37 : (0 : Int64) < life
    · refine Go.pre (st' := T34.setTop (mkF m 90 #[.val (.ref o0), .val (.int p1), .val (.int (1 : Int32)), .unset] [])) (fun target kt => ?_) ?_
      · show Steps p.tables e below (T34.setTop (mkF m 80 #[.val (.ref o0), .val (.int p1), .val (.int (1 : Int32)), .unset] [(.int (lcmpW (0 : Int64) life))])) _
        refine XS.ifYes X34.here hx rfl (pc0 := 80) (pc' := 90) rfl (hb hby d11_80) rfl ((if0 _ _).trans (tlt ((lw_lt _ _).mpr h80_37)).1) (by decide) (by decide) ?_
        exact kt
      refine Go.pre (st' := T34.setTop (mkF m 96 #[.val (.ref o0), .val (.int p1), .val (.int (1 : Int32)), .unset] [(.int (1 : Int32)), (.ref o0)])) (fun target kt => ?_) ?_
      · show Steps p.tables e below (T34.setTop (mkF m 90 #[.val (.ref o0), .val (.int p1), .val (.int (1 : Int32)), .unset] [])) _
        refine XS.iloadN X34.here hx rfl (hb hby d11_90) rfl ?_
        show Steps p.tables e below (T34.setTop (mkF m 91 #[.val (.ref o0), .val (.int p1), .val (.int (1 : Int32)), .unset] [(.int (1 : Int32))])) _
        refine XS.ifNo X34.here hx rfl (hb hby d11_91) rfl ((if0 _ _).trans (feq (by decide)).1) ?_
        show Steps p.tables e below (T34.setTop (mkF m 94 #[.val (.ref o0), .val (.int p1), .val (.int (1 : Int32)), .unset] [])) _
        refine XS.aloadN X34.here hx rfl (hb hby d11_94) rfl rfl ?_
        show Steps p.tables e below (T34.setTop (mkF m 95 #[.val (.ref o0), .val (.int p1), .val (.int (1 : Int32)), .unset] [(.ref o0)])) _
        refine XS.iconst X34.here hx rfl (hb hby d11_95) ?_
        exact kt
      have Y38 : Fld Z h29 o0 "com/example/pulsekeep/pulsekeep/core/Subscription" "messageDue" "Z" (.int md) := ((F_md.keep K1 nin0).other W29 (Or.inr (slot_ne (Or.inl (hw _ (List.mem_of_getElem? (i := 139) rfl))) (Or.inl (hw _ (List.mem_of_getElem? (i := 132) rfl))) (by decide) (t := .boolean) (t' := .long) (by decide) (by decide))))
      have Y39 : Exa Z h29 o0 "com/example/pulsekeep/pulsekeep/core/Subscription" := (Y28.wr W29)
      obtain ⟨T40, h40, X40, e40, W40, st40⟩ := putFN X34 hx hZ hown (hw _ (List.mem_of_getElem? (i := 138) rfl)) Via.refl e34 Y38 Y39 (Or.inl (hw _ (List.mem_of_getElem? (i := 139) rfl))) (hw _ (List.mem_of_getElem? (i := 28) rfl)) (ty := .boolean) (v' := (.int (1 : Int32))) (by decide) rfl rfl (g := (mkF m 96 #[.val (.ref o0), .val (.int p1), .val (.int (1 : Int32)), .unset] [(.int (1 : Int32)), (.ref o0)])) rfl rfl (hb hby d11_96)
      have sz40 : h29.size ≤ h40.size := (Keep.of_wr W40).1
      have Y41 : Fld Z h40 o0 "com/example/pulsekeep/pulsekeep/core/Subscription" "messageDue" "Z" (.int (1 : Int32)) := Y38.same W40
      have N40 := Fr.snoc X40 N34 (by omega)
      refine Go.pre st40 ?_
      show Go p e below s _ _ _ (T40.setTop (mkF m 99 #[.val (.ref o0), .val (.int p1), .val (.int (1 : Int32)), .unset] []))
      have Y42 : Old Z n0 h40 := (((Ol.keep K1 all0).wr W29 (by omega)).wr W40 (by omega))
      obtain ⟨T43, X43, e43, st43⟩ := getS2 X40 hx hZ hown (host := "") (Or.inl (hw _ (List.mem_of_getElem? (i := 140) rfl))) Via.refl e40 (S_DUE.ext Y42.2) (g := (mkF m 99 #[.val (.ref o0), .val (.int p1), .val (.int (1 : Int32)), .unset] [])) rfl (hb hby d11_99)
      refine Go.pre st43 ?_
      show Go p e below s _ _ _ (T43.setTop (mkF m 102 #[.val (.ref o0), .val (.int p1), .val (.int (1 : Int32)), .unset] [(.ref zD)]))
      refine Go.pre (st' := T43.setTop (mkF m 111 #[.val (.ref o0), .val (.int p1), .val (.int (1 : Int32)), .val (.ref zD)] [(.ref zD)])) (fun target kt => ?_) ?_
      · show Steps p.tables e below (T43.setTop (mkF m 102 #[.val (.ref o0), .val (.int p1), .val (.int (1 : Int32)), .unset] [(.ref zD)])) _
        refine XS.astoreN X43.here hx rfl (hb hby d11_102) rfl rfl (l' := #[.val (.ref o0), .val (.int p1), .val (.int (1 : Int32)), .val (.ref zD)]) rfl ?_
        show Steps p.tables e below (T43.setTop (mkF m 103 #[.val (.ref o0), .val (.int p1), .val (.int (1 : Int32)), .val (.ref zD)] [])) _
        refine XS.goto X43.here hx rfl (pc0 := 103) (pc' := 110) rfl (hb hby d11_103) (by decide) (by decide) ?_
        show Steps p.tables e below (T43.setTop (mkF m 110 #[.val (.ref o0), .val (.int p1), .val (.int (1 : Int32)), .val (.ref zD)] [])) _
        refine XS.aloadN X43.here hx rfl (hb hby d11_110) rfl rfl ?_
        exact kt
      have Y44 : Fld Z h40 o0 "com/example/pulsekeep/pulsekeep/core/Subscription" "cyclesWithoutRequest" "J" (.long (0 : Int64)) := (Y30.other W40 (Or.inr (slot_ne (Or.inl (hw _ (List.mem_of_getElem? (i := 132) rfl))) (Or.inl (hw _ (List.mem_of_getElem? (i := 139) rfl))) (by decide) (t := .long) (t' := .boolean) (by decide) (by decide))))
      exact Go.retV X43 hx hlk hrt rfl (Or.inr (Or.inr (Or.inr (Or.inr ⟨rfl, rfl, rfl⟩)))) (hb hby d11_111) (by decide) (by decide) (by rw [e43]; exact ⟨by rw [own_end, own_nc, if_neg h52_4, if_pos h80_37], N40, ((((Keep.refl h0 [o0]).trans K1 all0).wr W29 (Or.inl (List.mem_of_getElem? (i := 0) rfl))).wr W40 (Or.inl (List.mem_of_getElem? (i := 0) rfl))), ((((KF.refl Z h0 [(o0, Jvm.RoadKit.slotOf Z "com/example/pulsekeep/pulsekeep/core/Subscription" "cyclesWithoutRequest" "J"), (o0, Jvm.RoadKit.slotOf Z "com/example/pulsekeep/pulsekeep/core/Subscription" "messageDue" "Z")]).trans KF1 pall0).wr W29 (Or.inl (List.mem_of_getElem? (i := 0) rfl))).wr W40 (Or.inl (List.mem_of_getElem? (i := 1) rfl))), by rw [own_nc, if_neg h52_4]; exact Y44, by rw [own_due, own_nc, if_neg h52_4, if_pos h80_37]; exact Y41⟩)
    · refine Go.pre (st' := T34.setTop (mkF m 83 #[.val (.ref o0), .val (.int p1), .val (.int (1 : Int32)), .unset] [])) (fun target kt => ?_) ?_
      · show Steps p.tables e below (T34.setTop (mkF m 80 #[.val (.ref o0), .val (.int p1), .val (.int (1 : Int32)), .unset] [(.int (lcmpW (0 : Int64) life))])) _
        refine XS.ifNo X34.here hx rfl (hb hby d11_80) rfl ((if0 _ _).trans (flt (fun q => h80_37 ((lw_lt _ _).mp q))).1) ?_
        exact kt
      have Y45 : Old Z n0 h29 := ((Ol.keep K1 all0).wr W29 (by omega))
      obtain ⟨T46, X46, e46, st46⟩ := getS2 X34 hx hZ hown (host := "") (Or.inl (hw _ (List.mem_of_getElem? (i := 196) rfl))) Via.refl e34 (S_CLOSE.ext Y45.2) (g := (mkF m 83 #[.val (.ref o0), .val (.int p1), .val (.int (1 : Int32)), .unset] [])) rfl (hb hby d11_83)
      refine Go.pre st46 ?_
      show Go p e below s _ _ _ (T46.setTop (mkF m 86 #[.val (.ref o0), .val (.int p1), .val (.int (1 : Int32)), .unset] [(.ref zC)]))
      refine Go.pre (st' := T46.setTop (mkF m 111 #[.val (.ref o0), .val (.int p1), .val (.int (1 : Int32)), .val (.ref zC)] [(.ref zC)])) (fun target kt => ?_) ?_
      · show Steps p.tables e below (T46.setTop (mkF m 86 #[.val (.ref o0), .val (.int p1), .val (.int (1 : Int32)), .unset] [(.ref zC)])) _
        refine XS.astoreN X46.here hx rfl (hb hby d11_86) rfl rfl (l' := #[.val (.ref o0), .val (.int p1), .val (.int (1 : Int32)), .val (.ref zC)]) rfl ?_
        show Steps p.tables e below (T46.setTop (mkF m 87 #[.val (.ref o0), .val (.int p1), .val (.int (1 : Int32)), .val (.ref zC)] [])) _
        refine XS.goto X46.here hx rfl (pc0 := 87) (pc' := 110) rfl (hb hby d11_87) (by decide) (by decide) ?_
        show Steps p.tables e below (T46.setTop (mkF m 110 #[.val (.ref o0), .val (.int p1), .val (.int (1 : Int32)), .val (.ref zC)] [])) _
        refine XS.aloadN X46.here hx rfl (hb hby d11_110) rfl rfl ?_
        exact kt
      have Y47 : Fld Z h29 o0 "com/example/pulsekeep/pulsekeep/core/Subscription" "messageDue" "Z" (.int md) := ((F_md.keep K1 nin0).other W29 (Or.inr (slot_ne (Or.inl (hw _ (List.mem_of_getElem? (i := 139) rfl))) (Or.inl (hw _ (List.mem_of_getElem? (i := 132) rfl))) (by decide) (t := .boolean) (t' := .long) (by decide) (by decide))))
      exact Go.retV X46 hx hlk hrt rfl (Or.inr (Or.inr (Or.inr (Or.inr ⟨rfl, rfl, rfl⟩)))) (hb hby d11_111) (by decide) (by decide) (by rw [e46]; exact ⟨by rw [own_end, own_nc, if_neg h52_4, if_neg h80_37], N34, (((Keep.refl h0 [o0]).trans K1 all0).wr W29 (Or.inl (List.mem_of_getElem? (i := 0) rfl))), (((KF.refl Z h0 [(o0, Jvm.RoadKit.slotOf Z "com/example/pulsekeep/pulsekeep/core/Subscription" "cyclesWithoutRequest" "J"), (o0, Jvm.RoadKit.slotOf Z "com/example/pulsekeep/pulsekeep/core/Subscription" "messageDue" "Z")]).trans KF1 pall0).wr W29 (Or.inl (List.mem_of_getElem? (i := 0) rfl))), by rw [own_nc, if_neg h52_4]; exact Y30, by rw [own_due, own_nc, if_neg h52_4, if_neg h80_37]; exact Y47⟩)
theorem pd159_0 : parseMethodDescriptor "()V" = some ⟨[], none⟩ := by decide +kernel
theorem pd159_1 : parseMethodDescriptor "()Z" = some ⟨[], some .boolean⟩ := by decide +kernel
theorem pd159_2 : parseMethodDescriptor "(Z)Lcom/example/pulsekeep/pulsekeep/core/Subscription$CycleEnd;" = some ⟨[.boolean], some (.object "com/example/pulsekeep/pulsekeep/core/Subscription$CycleEnd")⟩ := by decide +kernel
set_option maxRecDepth 65536 in
set_option maxHeartbeats 40000000 in
theorem blk159 {p : Program} {l : Launch} {e : Env} {s : State} {m : MethodId} {args : Array Value} {below : List Frame} {meth : Method} {c : Code} {Z : State} {a0 : Array Value} {T : State} {locs : List Loc} {h0 : Heap} {n0 : Nat} (C : Ctx p s m meth c Z code 20 "com/example/pulsekeep/pulsekeep/core/SubscriptionStartAgainPinLaw" (some .boolean)) (hw : ∀ d ∈ tables_1, d.before a0 Z = true)
    (X0 : Stand p l e room_1 s m args below meth c T locs 15 112) (e0 : T.heap = h0) (N0 : Fr n0 locs) (q0 : Int64) (p1 : Int32) (p2 : Int32) (p3 : Int32) (p4 : Int32) (p8 : Int32) (ob : Addr) (kk : Int32) (ec : Int64) (zD : Addr) (zC : Addr) (se : Addr) (il : Addr) (en : Int32) (mc : Int32) (life : Int64) (cy : Int64) (md : Int32) (Z0 : n0 ≤ h0.size) (E_o : Exa Z h0 ob "com/example/pulsekeep/pulsekeep/core/Subscription") (F_settings : Fld Z h0 ob "com/example/pulsekeep/pulsekeep/core/Subscription" "settings" "Lcom/example/pulsekeep/pulsekeep/core/SubscriptionSettings;" (.ref se)) (F_items : Fld Z h0 ob "com/example/pulsekeep/pulsekeep/core/Subscription" "items" "Ljava/util/List;" (.ref il)) (E_se : Exa Z h0 se "com/example/pulsekeep/pulsekeep/core/SubscriptionSettings") (F_en : Fld Z h0 se "com/example/pulsekeep/pulsekeep/core/SubscriptionSettings" "publishingEnabled" "Z" (.int en)) (E_il : Exa Z h0 il "java/util/ArrayList") (F_mc : Fld Z h0 il "java/util/AbstractList" "modCount" "I" (.int mc)) (F_size : Fld Z h0 il "java/util/ArrayList" "size" "I" (.int (0 : Int32))) (F_life : Fld Z h0 se "com/example/pulsekeep/pulsekeep/core/SubscriptionSettings" "lifetimeCount" "J" (.long life)) (F_sent : Fld Z h0 ob "com/example/pulsekeep/pulsekeep/core/Subscription" "messageSent" "Z" (.int (0 : Int32))) (F_cy : Fld Z h0 ob "com/example/pulsekeep/pulsekeep/core/Subscription" "cyclesWithoutRequest" "J" (.long cy)) (F_md : Fld Z h0 ob "com/example/pulsekeep/pulsekeep/core/Subscription" "messageDue" "Z" (.int md)) (F_ec : Fld Z h0 ob "com/example/pulsekeep/pulsekeep/core/Subscription" "emptyCycles" "J" (.long ec)) (S_DUE : Sta Z Z.heap "com/example/pulsekeep/pulsekeep/core/Subscription$CycleEnd" "DUE" "Lcom/example/pulsekeep/pulsekeep/core/Subscription$CycleEnd;" (.ref zD)) (S_CLOSE : Sta Z Z.heap "com/example/pulsekeep/pulsekeep/core/Subscription$CycleEnd" "CLOSE" "Lcom/example/pulsekeep/pulsekeep/core/Subscription$CycleEnd;" (.ref zC)) (Ol : Old Z n0 h0) (g_ob : n0 ≤ ob) :
    Go p e below s 48 320 (fun v h L => v = some (.int 1) ∧ Fr n0 L) (T.setTop (mkF m 159 #[.val (.long q0), .second, .val (.int p1), .val (.int p2), .val (.int p3), .val (.int p4), .val (.long life), .second, .val (.int p8), .val (.ref se), .val (.ref ob), .val (.int kk), .unset, .unset, .unset, .unset, .unset, .unset, .unset, .unset] [])) := by
  obtain ⟨hx, hZ, hby, hml, hown, hrt, hlk⟩ := id C
  have lt_E_o : LT.lt (α := Nat) ob h0.size := E_o.lt
  have lt_F_settings : LT.lt (α := Nat) ob h0.size := F_settings.lt
  have lt_F_items : LT.lt (α := Nat) ob h0.size := F_items.lt
  have lt_E_se : LT.lt (α := Nat) se h0.size := E_se.lt
  have lt_F_en : LT.lt (α := Nat) se h0.size := F_en.lt
  have lt_E_il : LT.lt (α := Nat) il h0.size := E_il.lt
  have lt_F_mc : LT.lt (α := Nat) il h0.size := F_mc.lt
  have lt_F_size : LT.lt (α := Nat) il h0.size := F_size.lt
  have lt_F_life : LT.lt (α := Nat) se h0.size := F_life.lt
  have lt_F_sent : LT.lt (α := Nat) ob h0.size := F_sent.lt
  have lt_F_cy : LT.lt (α := Nat) ob h0.size := F_cy.lt
  have lt_F_md : LT.lt (α := Nat) ob h0.size := F_md.lt
  have lt_F_ec : LT.lt (α := Nat) ob h0.size := F_ec.lt
  refine Go.pre (st' := T.setTop (mkF m 161 #[.val (.long q0), .second, .val (.int p1), .val (.int p2), .val (.int p3), .val (.int p4), .val (.long life), .second, .val (.int p8), .val (.ref se), .val (.ref ob), .val (.int kk), .unset, .unset, .unset, .unset, .unset, .unset, .unset, .unset] [(.ref ob)])) (fun target kt => ?_) ?_
  · show Steps p.tables e below (T.setTop (mkF m 159 #[.val (.long q0), .second, .val (.int p1), .val (.int p2), .val (.int p3), .val (.int p4), .val (.long life), .second, .val (.int p8), .val (.ref se), .val (.ref ob), .val (.int kk), .unset, .unset, .unset, .unset, .unset, .unset, .unset, .unset] [])) _
    refine XS.aload X0.here hx rfl (hb hby at_159) rfl rfl ?_
    exact kt
  obtain ⟨cq1, kq1, q1a, q1b, q1c⟩ := isOf hZ e0 E_o
  obtain ⟨_, _, ⟨T1, L1, k1, n1⟩, -, X1, ⟨Lc1, hQ1, l1, y1, z1⟩, st1⟩ := X0.virtualBack hx (y := (⟨"com/example/pulsekeep/pulsekeep/core/Subscription", "startAgain", "()V"⟩ : MethodName)) (z := (⟨"com/example/pulsekeep/pulsekeep/core/Subscription", "startAgain", "()V"⟩ : MethodName)) hown (mvT hZ (hw _ (List.mem_of_getElem? (i := 143) rfl))) (mvT hZ (hw _ (List.mem_of_getElem? (i := 144) rfl))) (notFace_of_selects (args := #[]) (mvT hZ (hw _ (List.mem_of_getElem? (i := 146) rfl)))) (mvT hZ (hw _ (List.mem_of_getElem? (i := 146) rfl))) (mvT hZ (hw _ (List.mem_of_getElem? (i := 145) rfl))) (by decide) (backOf (W := 0) (rm15 l Z a0 hw [] ob (.int (0 : Int32)) (.int md) (.long ec) (.long cy) h0 n0 (by omega) F_sent E_o (by omega) F_md F_ec F_cy) hZ (hw _ (List.mem_of_getElem? (i := 147) rfl)) (hw _ (List.mem_of_getElem? (i := 29) rfl)) (by decide) (by decide)) q1a q1c (g := (mkF m 161 #[.val (.long q0), .second, .val (.int p1), .val (.int p2), .val (.int p3), .val (.int p4), .val (.long life), .second, .val (.int p8), .val (.ref se), .val (.ref ob), .val (.int kk), .unset, .unset, .unset, .unset, .unset, .unset, .unset, .unset] [(.ref ob)])) rfl (by rw [hml]; rfl) (Steps.refl _) (argsL := []) (rest := []) (lenOf pd159_0 rfl) rfl (by show 2 * 0 + _ ≤ _; exact Nat.le_of_eq rfl) (hb hby at_161) (fun vm₁ hvm => ⟨rfl, e0, (by decide : 15 + 0 ≤ _), (by decide : 112 + 0 ≤ _)⟩)
  dsimp only [Pt.U, Pt.locs, Pt.cells, Pt.slots] at X1 l1 y1 z1 st1 hQ1
  subst l1 y1 z1
  obtain ⟨rfl, N1q, K1, KF1, Y1_0, Y1_1, Y1_2, Y1_3⟩ := hQ1
  have sz1 : h0.size ≤ T1.heap.size := K1.1
  have N1 := Fr.app N0 N1q
  refine Go.trans st1 ?_
  show Go p e below s _ _ _ (T1.setTop (mkF m 164 #[.val (.long q0), .second, .val (.int p1), .val (.int p2), .val (.int p3), .val (.int p4), .val (.long life), .second, .val (.int p8), .val (.ref se), .val (.ref ob), .val (.int kk), .unset, .unset, .unset, .unset, .unset, .unset, .unset, .unset] []))
  refine Go.pre (st' := T1.setTop (mkF m 166 #[.val (.long q0), .second, .val (.int p1), .val (.int p2), .val (.int p3), .val (.int p4), .val (.long life), .second, .val (.int p8), .val (.ref se), .val (.ref ob), .val (.int kk), .unset, .unset, .unset, .unset, .unset, .unset, .unset, .unset] [(.ref ob)])) (fun target kt => ?_) ?_
  · show Steps p.tables e below (T1.setTop (mkF m 164 #[.val (.long q0), .second, .val (.int p1), .val (.int p2), .val (.int p3), .val (.int p4), .val (.long life), .second, .val (.int p8), .val (.ref se), .val (.ref ob), .val (.int kk), .unset, .unset, .unset, .unset, .unset, .unset, .unset, .unset] [])) _
    refine XS.aload X1.here hx rfl (hb hby at_164) rfl rfl ?_
    exact kt
  have Y3 : Exa Z T1.heap ob "com/example/pulsekeep/pulsekeep/core/Subscription" := (E_o.keep K1)
  obtain ⟨cq2, kq2, q2a, q2b, q2c⟩ := isOf hZ rfl Y3
  obtain ⟨_, _, ⟨T2, L2, k2, n2⟩, -, X2, ⟨Lc2, hQ2, l2, y2, z2⟩, st2⟩ := X1.virtualBack hx (y := (⟨"com/example/pulsekeep/pulsekeep/core/Subscription", "hasMessageDue", "()Z"⟩ : MethodName)) (z := (⟨"com/example/pulsekeep/pulsekeep/core/Subscription", "hasMessageDue", "()Z"⟩ : MethodName)) hown (mvT hZ (hw _ (List.mem_of_getElem? (i := 150) rfl))) (mvT hZ (hw _ (List.mem_of_getElem? (i := 151) rfl))) (notFace_of_selects (args := #[]) (mvT hZ (hw _ (List.mem_of_getElem? (i := 153) rfl)))) (mvT hZ (hw _ (List.mem_of_getElem? (i := 153) rfl))) (mvT hZ (hw _ (List.mem_of_getElem? (i := 152) rfl))) (by decide) (backOf (W := 0) (rm16 l Z a0 hw [] ob (0 : Int32) T1.heap n0 (by omega) Y1_1) hZ (hw _ (List.mem_of_getElem? (i := 154) rfl)) (hw _ (List.mem_of_getElem? (i := 29) rfl)) (by decide) (by decide)) q2a q2c (g := (mkF m 166 #[.val (.long q0), .second, .val (.int p1), .val (.int p2), .val (.int p3), .val (.int p4), .val (.long life), .second, .val (.int p8), .val (.ref se), .val (.ref ob), .val (.int kk), .unset, .unset, .unset, .unset, .unset, .unset, .unset, .unset] [(.ref ob)])) rfl (by rw [hml]; rfl) (Steps.refl _) (argsL := []) (rest := []) (lenOf pd159_1 rfl) rfl (by show 2 * 0 + _ ≤ _; exact Nat.le_of_eq rfl) (hb hby at_166) (fun vm₁ hvm => ⟨rfl, rfl, (by decide : 15 + 0 ≤ _), (by decide : 112 + 0 ≤ _)⟩)
  dsimp only [Pt.U, Pt.locs, Pt.cells, Pt.slots] at X2 l2 y2 z2 st2 hQ2
  subst l2 y2 z2
  obtain ⟨rfl, N2q, e2⟩ := hQ2
  have N2 := Fr.app N1 N2q
  refine Go.trans st2 ?_
  show Go p e below s _ _ _ (T2.setTop (mkF m 169 #[.val (.long q0), .second, .val (.int p1), .val (.int p2), .val (.int p3), .val (.int p4), .val (.long life), .second, .val (.int p8), .val (.ref se), .val (.ref ob), .val (.int kk), .unset, .unset, .unset, .unset, .unset, .unset, .unset, .unset] [(.int (0 : Int32))]))
  refine Go.pre (st' := T2.setTop (mkF m 178 #[.val (.long q0), .second, .val (.int p1), .val (.int p2), .val (.int p3), .val (.int p4), .val (.long life), .second, .val (.int p8), .val (.ref se), .val (.ref ob), .val (.int kk), .unset, .unset, .unset, .unset, .unset, .unset, .unset, .unset] [(.int (p3 &&& (1 : Int32)))])) (fun target kt => ?_) ?_
  · show Steps p.tables e below (T2.setTop (mkF m 169 #[.val (.long q0), .second, .val (.int p1), .val (.int p2), .val (.int p3), .val (.int p4), .val (.long life), .second, .val (.int p8), .val (.ref se), .val (.ref ob), .val (.int kk), .unset, .unset, .unset, .unset, .unset, .unset, .unset, .unset] [(.int (0 : Int32))])) _
    refine XS.ifYes X2.here hx rfl (pc0 := 169) (pc' := 174) rfl (hb hby at_169) rfl ((if0 _ _).trans (teq (by decide)).1) (by decide) (by decide) ?_
    show Steps p.tables e below (T2.setTop (mkF m 174 #[.val (.long q0), .second, .val (.int p1), .val (.int p2), .val (.int p3), .val (.int p4), .val (.long life), .second, .val (.int p8), .val (.ref se), .val (.ref ob), .val (.int kk), .unset, .unset, .unset, .unset, .unset, .unset, .unset, .unset] [])) _
    refine XS.iload X2.here hx rfl (hb hby at_174) rfl ?_
    show Steps p.tables e below (T2.setTop (mkF m 176 #[.val (.long q0), .second, .val (.int p1), .val (.int p2), .val (.int p3), .val (.int p4), .val (.long life), .second, .val (.int p8), .val (.ref se), .val (.ref ob), .val (.int kk), .unset, .unset, .unset, .unset, .unset, .unset, .unset, .unset] [(.int p3)])) _
    refine XS.iconst X2.here hx rfl (hb hby at_176) ?_
    show Steps p.tables e below (T2.setTop (mkF m 177 #[.val (.long q0), .second, .val (.int p1), .val (.int p2), .val (.int p3), .val (.int p4), .val (.long life), .second, .val (.int p8), .val (.ref se), .val (.ref ob), .val (.int kk), .unset, .unset, .unset, .unset, .unset, .unset, .unset, .unset] [(.int (1 : Int32)), (.int p3)])) _
    refine XS.iand X2.here hx rfl (hb hby at_177) rfl ?_
    exact kt
  by_cases h178_4 : (p3 &&& (1 : Int32)) = (0 : Int32)
  · refine Go.pre (st' := T2.setTop (mkF m 185 #[.val (.long q0), .second, .val (.int p1), .val (.int p2), .val (.int p3), .val (.int p4), .val (.long life), .second, .val (.int p8), .val (.ref se), .val (.ref ob), .val (.int kk), .unset, .unset, .unset, .unset, .unset, .unset, .unset, .unset] [])) (fun target kt => ?_) ?_
    · show Steps p.tables e below (T2.setTop (mkF m 178 #[.val (.long q0), .second, .val (.int p1), .val (.int p2), .val (.int p3), .val (.int p4), .val (.long life), .second, .val (.int p8), .val (.ref se), .val (.ref ob), .val (.int kk), .unset, .unset, .unset, .unset, .unset, .unset, .unset, .unset] [(.int (p3 &&& (1 : Int32)))])) _
      refine XS.ifYes X2.here hx rfl (pc0 := 178) (pc' := 185) rfl (hb hby at_178) rfl ((if0 _ _).trans (teq h178_4).1) (by decide) (by decide) ?_
      exact kt
    refine Go.pre (st' := T2.setTop (mkF m 192 #[.val (.long q0), .second, .val (.int p1), .val (.int p2), .val (.int p3), .val (.int p4), .val (.long life), .second, .val (.int p8), .val (.ref se), .val (.ref ob), .val (.int kk), .val (.int (0 : Int32)), .unset, .unset, .unset, .unset, .unset, .unset, .unset] [(.int (p3 &&& (2 : Int32)))])) (fun target kt => ?_) ?_
    · show Steps p.tables e below (T2.setTop (mkF m 185 #[.val (.long q0), .second, .val (.int p1), .val (.int p2), .val (.int p3), .val (.int p4), .val (.long life), .second, .val (.int p8), .val (.ref se), .val (.ref ob), .val (.int kk), .unset, .unset, .unset, .unset, .unset, .unset, .unset, .unset] [])) _
      refine XS.iconst X2.here hx rfl (hb hby at_185) ?_
      show Steps p.tables e below (T2.setTop (mkF m 186 #[.val (.long q0), .second, .val (.int p1), .val (.int p2), .val (.int p3), .val (.int p4), .val (.long life), .second, .val (.int p8), .val (.ref se), .val (.ref ob), .val (.int kk), .unset, .unset, .unset, .unset, .unset, .unset, .unset, .unset] [(.int (0 : Int32))])) _
      refine XS.istore X2.here hx rfl (hb hby at_186) rfl (l' := #[.val (.long q0), .second, .val (.int p1), .val (.int p2), .val (.int p3), .val (.int p4), .val (.long life), .second, .val (.int p8), .val (.ref se), .val (.ref ob), .val (.int kk), .val (.int (0 : Int32)), .unset, .unset, .unset, .unset, .unset, .unset, .unset]) rfl ?_
      show Steps p.tables e below (T2.setTop (mkF m 188 #[.val (.long q0), .second, .val (.int p1), .val (.int p2), .val (.int p3), .val (.int p4), .val (.long life), .second, .val (.int p8), .val (.ref se), .val (.ref ob), .val (.int kk), .val (.int (0 : Int32)), .unset, .unset, .unset, .unset, .unset, .unset, .unset] [])) _
      refine XS.iload X2.here hx rfl (hb hby at_188) rfl ?_
      show Steps p.tables e below (T2.setTop (mkF m 190 #[.val (.long q0), .second, .val (.int p1), .val (.int p2), .val (.int p3), .val (.int p4), .val (.long life), .second, .val (.int p8), .val (.ref se), .val (.ref ob), .val (.int kk), .val (.int (0 : Int32)), .unset, .unset, .unset, .unset, .unset, .unset, .unset] [(.int p3)])) _
      refine XS.iconst X2.here hx rfl (hb hby at_190) ?_
      show Steps p.tables e below (T2.setTop (mkF m 191 #[.val (.long q0), .second, .val (.int p1), .val (.int p2), .val (.int p3), .val (.int p4), .val (.long life), .second, .val (.int p8), .val (.ref se), .val (.ref ob), .val (.int kk), .val (.int (0 : Int32)), .unset, .unset, .unset, .unset, .unset, .unset, .unset] [(.int (2 : Int32)), (.int p3)])) _
      refine XS.iand X2.here hx rfl (hb hby at_191) rfl ?_
      exact kt
    by_cases h192_5 : (p3 &&& (2 : Int32)) = (0 : Int32)
    · refine Go.pre (st' := T2.setTop (mkF m 199 #[.val (.long q0), .second, .val (.int p1), .val (.int p2), .val (.int p3), .val (.int p4), .val (.long life), .second, .val (.int p8), .val (.ref se), .val (.ref ob), .val (.int kk), .val (.int (0 : Int32)), .unset, .unset, .unset, .unset, .unset, .unset, .unset] [])) (fun target kt => ?_) ?_
      · show Steps p.tables e below (T2.setTop (mkF m 192 #[.val (.long q0), .second, .val (.int p1), .val (.int p2), .val (.int p3), .val (.int p4), .val (.long life), .second, .val (.int p8), .val (.ref se), .val (.ref ob), .val (.int kk), .val (.int (0 : Int32)), .unset, .unset, .unset, .unset, .unset, .unset, .unset] [(.int (p3 &&& (2 : Int32)))])) _
        refine XS.ifYes X2.here hx rfl (pc0 := 192) (pc' := 199) rfl (hb hby at_192) rfl ((if0 _ _).trans (teq h192_5).1) (by decide) (by decide) ?_
        exact kt
      refine Go.pre (st' := T2.setTop (mkF m 219 #[.val (.long q0), .second, .val (.int p1), .val (.int p2), .val (.int p3), .val (.int p4), .val (.long life), .second, .val (.int p8), .val (.ref se), .val (.ref ob), .val (.int kk), .val (.int (0 : Int32)), .val (.int (0 : Int32)), .val (.long (1 : Int64)), .second, .unset, .unset, .unset, .unset] [(.int (lcmpW (1 : Int64) life))])) (fun target kt => ?_) ?_
      · show Steps p.tables e below (T2.setTop (mkF m 199 #[.val (.long q0), .second, .val (.int p1), .val (.int p2), .val (.int p3), .val (.int p4), .val (.long life), .second, .val (.int p8), .val (.ref se), .val (.ref ob), .val (.int kk), .val (.int (0 : Int32)), .unset, .unset, .unset, .unset, .unset, .unset, .unset] [])) _
        refine XS.iconst X2.here hx rfl (hb hby at_199) ?_
        show Steps p.tables e below (T2.setTop (mkF m 200 #[.val (.long q0), .second, .val (.int p1), .val (.int p2), .val (.int p3), .val (.int p4), .val (.long life), .second, .val (.int p8), .val (.ref se), .val (.ref ob), .val (.int kk), .val (.int (0 : Int32)), .unset, .unset, .unset, .unset, .unset, .unset, .unset] [(.int (0 : Int32))])) _
        refine XS.istore X2.here hx rfl (hb hby at_200) rfl (l' := #[.val (.long q0), .second, .val (.int p1), .val (.int p2), .val (.int p3), .val (.int p4), .val (.long life), .second, .val (.int p8), .val (.ref se), .val (.ref ob), .val (.int kk), .val (.int (0 : Int32)), .val (.int (0 : Int32)), .unset, .unset, .unset, .unset, .unset, .unset]) rfl ?_
        show Steps p.tables e below (T2.setTop (mkF m 202 #[.val (.long q0), .second, .val (.int p1), .val (.int p2), .val (.int p3), .val (.int p4), .val (.long life), .second, .val (.int p8), .val (.ref se), .val (.ref ob), .val (.int kk), .val (.int (0 : Int32)), .val (.int (0 : Int32)), .unset, .unset, .unset, .unset, .unset, .unset] [])) _
        refine XS.iload X2.here hx rfl (hb hby at_202) rfl ?_
        show Steps p.tables e below (T2.setTop (mkF m 204 #[.val (.long q0), .second, .val (.int p1), .val (.int p2), .val (.int p3), .val (.int p4), .val (.long life), .second, .val (.int p8), .val (.ref se), .val (.ref ob), .val (.int kk), .val (.int (0 : Int32)), .val (.int (0 : Int32)), .unset, .unset, .unset, .unset, .unset, .unset] [(.int (0 : Int32))])) _
        refine XS.ifYes X2.here hx rfl (pc0 := 204) (pc' := 211) rfl (hb hby at_204) rfl ((if0 _ _).trans (teq (by decide)).1) (by decide) (by decide) ?_
        show Steps p.tables e below (T2.setTop (mkF m 211 #[.val (.long q0), .second, .val (.int p1), .val (.int p2), .val (.int p3), .val (.int p4), .val (.long life), .second, .val (.int p8), .val (.ref se), .val (.ref ob), .val (.int kk), .val (.int (0 : Int32)), .val (.int (0 : Int32)), .unset, .unset, .unset, .unset, .unset, .unset] [])) _
        refine XS.lconst X2.here hx rfl (hb hby at_211) ?_
        show Steps p.tables e below (T2.setTop (mkF m 212 #[.val (.long q0), .second, .val (.int p1), .val (.int p2), .val (.int p3), .val (.int p4), .val (.long life), .second, .val (.int p8), .val (.ref se), .val (.ref ob), .val (.int kk), .val (.int (0 : Int32)), .val (.int (0 : Int32)), .unset, .unset, .unset, .unset, .unset, .unset] [(.long (1 : Int64))])) _
        refine XS.lstore X2.here hx rfl (hb hby at_212) rfl (l' := #[.val (.long q0), .second, .val (.int p1), .val (.int p2), .val (.int p3), .val (.int p4), .val (.long life), .second, .val (.int p8), .val (.ref se), .val (.ref ob), .val (.int kk), .val (.int (0 : Int32)), .val (.int (0 : Int32)), .val (.long (1 : Int64)), .second, .unset, .unset, .unset, .unset]) rfl ?_
        show Steps p.tables e below (T2.setTop (mkF m 214 #[.val (.long q0), .second, .val (.int p1), .val (.int p2), .val (.int p3), .val (.int p4), .val (.long life), .second, .val (.int p8), .val (.ref se), .val (.ref ob), .val (.int kk), .val (.int (0 : Int32)), .val (.int (0 : Int32)), .val (.long (1 : Int64)), .second, .unset, .unset, .unset, .unset] [])) _
        refine XS.lload X2.here hx rfl (hb hby at_214) rfl ?_
        show Steps p.tables e below (T2.setTop (mkF m 216 #[.val (.long q0), .second, .val (.int p1), .val (.int p2), .val (.int p3), .val (.int p4), .val (.long life), .second, .val (.int p8), .val (.ref se), .val (.ref ob), .val (.int kk), .val (.int (0 : Int32)), .val (.int (0 : Int32)), .val (.long (1 : Int64)), .second, .unset, .unset, .unset, .unset] [(.long (1 : Int64))])) _
        refine XS.lload X2.here hx rfl (hb hby at_216) rfl ?_
        show Steps p.tables e below (T2.setTop (mkF m 218 #[.val (.long q0), .second, .val (.int p1), .val (.int p2), .val (.int p3), .val (.int p4), .val (.long life), .second, .val (.int p8), .val (.ref se), .val (.ref ob), .val (.int kk), .val (.int (0 : Int32)), .val (.int (0 : Int32)), .val (.long (1 : Int64)), .second, .unset, .unset, .unset, .unset] [(.long life), (.long (1 : Int64))])) _
        refine XS.lcmp X2.here hx rfl (hb hby at_218) rfl ?_
        exact kt
      by_cases h219_6 : (1 : Int64) < life
      · refine Go.pre (st' := T2.setTop (mkF m 228 #[.val (.long q0), .second, .val (.int p1), .val (.int p2), .val (.int p3), .val (.int p4), .val (.long life), .second, .val (.int p8), .val (.ref se), .val (.ref ob), .val (.int kk), .val (.int (0 : Int32)), .val (.int (0 : Int32)), .val (.long (1 : Int64)), .second, .unset, .unset, .unset, .unset] [])) (fun target kt => ?_) ?_
        · show Steps p.tables e below (T2.setTop (mkF m 219 #[.val (.long q0), .second, .val (.int p1), .val (.int p2), .val (.int p3), .val (.int p4), .val (.long life), .second, .val (.int p8), .val (.ref se), .val (.ref ob), .val (.int kk), .val (.int (0 : Int32)), .val (.int (0 : Int32)), .val (.long (1 : Int64)), .second, .unset, .unset, .unset, .unset] [(.int (lcmpW (1 : Int64) life))])) _
          refine XS.ifYes X2.here hx rfl (pc0 := 219) (pc' := 228) rfl (hb hby at_219) rfl ((if0 _ _).trans (tlt ((lw_lt _ _).mpr h219_6)).1) (by decide) (by decide) ?_
          exact kt
        have Y7 : Old Z n0 T1.heap := (Ol.keep K1 (allS (by omega) all0))
        obtain ⟨T8, X8, e8, st8⟩ := getS2 X2 hx hZ hown (host := "") (Or.inl (hw _ (List.mem_of_getElem? (i := 155) rfl))) Via.refl e2 (S_DUE.ext Y7.2) (g := (mkF m 228 #[.val (.long q0), .second, .val (.int p1), .val (.int p2), .val (.int p3), .val (.int p4), .val (.long life), .second, .val (.int p8), .val (.ref se), .val (.ref ob), .val (.int kk), .val (.int (0 : Int32)), .val (.int (0 : Int32)), .val (.long (1 : Int64)), .second, .unset, .unset, .unset, .unset] [])) rfl (hb hby at_228)
        refine Go.pre st8 ?_
        show Go p e below s _ _ _ (T8.setTop (mkF m 231 #[.val (.long q0), .second, .val (.int p1), .val (.int p2), .val (.int p3), .val (.int p4), .val (.long life), .second, .val (.int p8), .val (.ref se), .val (.ref ob), .val (.int kk), .val (.int (0 : Int32)), .val (.int (0 : Int32)), .val (.long (1 : Int64)), .second, .unset, .unset, .unset, .unset] [(.ref zD)]))
        refine Go.pre (st' := T8.setTop (mkF m 253 #[.val (.long q0), .second, .val (.int p1), .val (.int p2), .val (.int p3), .val (.int p4), .val (.long life), .second, .val (.int p8), .val (.ref se), .val (.ref ob), .val (.int kk), .val (.int (0 : Int32)), .val (.int (0 : Int32)), .val (.long (1 : Int64)), .second, .val (.ref zD), .val (.long ((1 : Int64) + (1 : Int64))), .second, .unset] [(.int (lcmpW ((1 : Int64) + (1 : Int64)) life))])) (fun target kt => ?_) ?_
        · show Steps p.tables e below (T8.setTop (mkF m 231 #[.val (.long q0), .second, .val (.int p1), .val (.int p2), .val (.int p3), .val (.int p4), .val (.long life), .second, .val (.int p8), .val (.ref se), .val (.ref ob), .val (.int kk), .val (.int (0 : Int32)), .val (.int (0 : Int32)), .val (.long (1 : Int64)), .second, .unset, .unset, .unset, .unset] [(.ref zD)])) _
          refine XS.astore X8.here hx rfl (hb hby at_231) rfl rfl (l' := #[.val (.long q0), .second, .val (.int p1), .val (.int p2), .val (.int p3), .val (.int p4), .val (.long life), .second, .val (.int p8), .val (.ref se), .val (.ref ob), .val (.int kk), .val (.int (0 : Int32)), .val (.int (0 : Int32)), .val (.long (1 : Int64)), .second, .val (.ref zD), .unset, .unset, .unset]) rfl ?_
          show Steps p.tables e below (T8.setTop (mkF m 233 #[.val (.long q0), .second, .val (.int p1), .val (.int p2), .val (.int p3), .val (.int p4), .val (.long life), .second, .val (.int p8), .val (.ref se), .val (.ref ob), .val (.int kk), .val (.int (0 : Int32)), .val (.int (0 : Int32)), .val (.long (1 : Int64)), .second, .val (.ref zD), .unset, .unset, .unset] [])) _
          refine XS.iload X8.here hx rfl (hb hby at_233) rfl ?_
          show Steps p.tables e below (T8.setTop (mkF m 235 #[.val (.long q0), .second, .val (.int p1), .val (.int p2), .val (.int p3), .val (.int p4), .val (.long life), .second, .val (.int p8), .val (.ref se), .val (.ref ob), .val (.int kk), .val (.int (0 : Int32)), .val (.int (0 : Int32)), .val (.long (1 : Int64)), .second, .val (.ref zD), .unset, .unset, .unset] [(.int (0 : Int32))])) _
          refine XS.ifYes X8.here hx rfl (pc0 := 235) (pc' := 242) rfl (hb hby at_235) rfl ((if0 _ _).trans (teq (by decide)).1) (by decide) (by decide) ?_
          show Steps p.tables e below (T8.setTop (mkF m 242 #[.val (.long q0), .second, .val (.int p1), .val (.int p2), .val (.int p3), .val (.int p4), .val (.long life), .second, .val (.int p8), .val (.ref se), .val (.ref ob), .val (.int kk), .val (.int (0 : Int32)), .val (.int (0 : Int32)), .val (.long (1 : Int64)), .second, .val (.ref zD), .unset, .unset, .unset] [])) _
          refine XS.lload X8.here hx rfl (hb hby at_242) rfl ?_
          show Steps p.tables e below (T8.setTop (mkF m 244 #[.val (.long q0), .second, .val (.int p1), .val (.int p2), .val (.int p3), .val (.int p4), .val (.long life), .second, .val (.int p8), .val (.ref se), .val (.ref ob), .val (.int kk), .val (.int (0 : Int32)), .val (.int (0 : Int32)), .val (.long (1 : Int64)), .second, .val (.ref zD), .unset, .unset, .unset] [(.long (1 : Int64))])) _
          refine XS.lconst X8.here hx rfl (hb hby at_244) ?_
          show Steps p.tables e below (T8.setTop (mkF m 245 #[.val (.long q0), .second, .val (.int p1), .val (.int p2), .val (.int p3), .val (.int p4), .val (.long life), .second, .val (.int p8), .val (.ref se), .val (.ref ob), .val (.int kk), .val (.int (0 : Int32)), .val (.int (0 : Int32)), .val (.long (1 : Int64)), .second, .val (.ref zD), .unset, .unset, .unset] [(.long (1 : Int64)), (.long (1 : Int64))])) _
          refine XS.ladd X8.here hx rfl (hb hby at_245) rfl ?_
          show Steps p.tables e below (T8.setTop (mkF m 246 #[.val (.long q0), .second, .val (.int p1), .val (.int p2), .val (.int p3), .val (.int p4), .val (.long life), .second, .val (.int p8), .val (.ref se), .val (.ref ob), .val (.int kk), .val (.int (0 : Int32)), .val (.int (0 : Int32)), .val (.long (1 : Int64)), .second, .val (.ref zD), .unset, .unset, .unset] [(.long ((1 : Int64) + (1 : Int64)))])) _
          refine XS.lstore X8.here hx rfl (hb hby at_246) rfl (l' := #[.val (.long q0), .second, .val (.int p1), .val (.int p2), .val (.int p3), .val (.int p4), .val (.long life), .second, .val (.int p8), .val (.ref se), .val (.ref ob), .val (.int kk), .val (.int (0 : Int32)), .val (.int (0 : Int32)), .val (.long (1 : Int64)), .second, .val (.ref zD), .val (.long ((1 : Int64) + (1 : Int64))), .second, .unset]) rfl ?_
          show Steps p.tables e below (T8.setTop (mkF m 248 #[.val (.long q0), .second, .val (.int p1), .val (.int p2), .val (.int p3), .val (.int p4), .val (.long life), .second, .val (.int p8), .val (.ref se), .val (.ref ob), .val (.int kk), .val (.int (0 : Int32)), .val (.int (0 : Int32)), .val (.long (1 : Int64)), .second, .val (.ref zD), .val (.long ((1 : Int64) + (1 : Int64))), .second, .unset] [])) _
          refine XS.lload X8.here hx rfl (hb hby at_248) rfl ?_
          show Steps p.tables e below (T8.setTop (mkF m 250 #[.val (.long q0), .second, .val (.int p1), .val (.int p2), .val (.int p3), .val (.int p4), .val (.long life), .second, .val (.int p8), .val (.ref se), .val (.ref ob), .val (.int kk), .val (.int (0 : Int32)), .val (.int (0 : Int32)), .val (.long (1 : Int64)), .second, .val (.ref zD), .val (.long ((1 : Int64) + (1 : Int64))), .second, .unset] [(.long ((1 : Int64) + (1 : Int64)))])) _
          refine XS.lload X8.here hx rfl (hb hby at_250) rfl ?_
          show Steps p.tables e below (T8.setTop (mkF m 252 #[.val (.long q0), .second, .val (.int p1), .val (.int p2), .val (.int p3), .val (.int p4), .val (.long life), .second, .val (.int p8), .val (.ref se), .val (.ref ob), .val (.int kk), .val (.int (0 : Int32)), .val (.int (0 : Int32)), .val (.long (1 : Int64)), .second, .val (.ref zD), .val (.long ((1 : Int64) + (1 : Int64))), .second, .unset] [(.long life), (.long ((1 : Int64) + (1 : Int64)))])) _
          refine XS.lcmp X8.here hx rfl (hb hby at_252) rfl ?_
          exact kt
        by_cases h253_9 : ((1 : Int64) + (1 : Int64)) < life
        · refine Go.pre (st' := T8.setTop (mkF m 262 #[.val (.long q0), .second, .val (.int p1), .val (.int p2), .val (.int p3), .val (.int p4), .val (.long life), .second, .val (.int p8), .val (.ref se), .val (.ref ob), .val (.int kk), .val (.int (0 : Int32)), .val (.int (0 : Int32)), .val (.long (1 : Int64)), .second, .val (.ref zD), .val (.long ((1 : Int64) + (1 : Int64))), .second, .unset] [])) (fun target kt => ?_) ?_
          · show Steps p.tables e below (T8.setTop (mkF m 253 #[.val (.long q0), .second, .val (.int p1), .val (.int p2), .val (.int p3), .val (.int p4), .val (.long life), .second, .val (.int p8), .val (.ref se), .val (.ref ob), .val (.int kk), .val (.int (0 : Int32)), .val (.int (0 : Int32)), .val (.long (1 : Int64)), .second, .val (.ref zD), .val (.long ((1 : Int64) + (1 : Int64))), .second, .unset] [(.int (lcmpW ((1 : Int64) + (1 : Int64)) life))])) _
            refine XS.ifYes X8.here hx rfl (pc0 := 253) (pc' := 262) rfl (hb hby at_253) rfl ((if0 _ _).trans (tlt ((lw_lt _ _).mpr h253_9)).1) (by decide) (by decide) ?_
            exact kt
          obtain ⟨T10, X10, e10, st10⟩ := getS2 X8 hx hZ hown (host := "") (Or.inl (hw _ (List.mem_of_getElem? (i := 155) rfl))) Via.refl e8 (S_DUE.ext Y7.2) (g := (mkF m 262 #[.val (.long q0), .second, .val (.int p1), .val (.int p2), .val (.int p3), .val (.int p4), .val (.long life), .second, .val (.int p8), .val (.ref se), .val (.ref ob), .val (.int kk), .val (.int (0 : Int32)), .val (.int (0 : Int32)), .val (.long (1 : Int64)), .second, .val (.ref zD), .val (.long ((1 : Int64) + (1 : Int64))), .second, .unset] [])) rfl (hb hby at_262)
          refine Go.pre st10 ?_
          show Go p e below s _ _ _ (T10.setTop (mkF m 265 #[.val (.long q0), .second, .val (.int p1), .val (.int p2), .val (.int p3), .val (.int p4), .val (.long life), .second, .val (.int p8), .val (.ref se), .val (.ref ob), .val (.int kk), .val (.int (0 : Int32)), .val (.int (0 : Int32)), .val (.long (1 : Int64)), .second, .val (.ref zD), .val (.long ((1 : Int64) + (1 : Int64))), .second, .unset] [(.ref zD)]))
          refine Go.pre (st' := T10.setTop (mkF m 271 #[.val (.long q0), .second, .val (.int p1), .val (.int p2), .val (.int p3), .val (.int p4), .val (.long life), .second, .val (.int p8), .val (.ref se), .val (.ref ob), .val (.int kk), .val (.int (0 : Int32)), .val (.int (0 : Int32)), .val (.long (1 : Int64)), .second, .val (.ref zD), .val (.long ((1 : Int64) + (1 : Int64))), .second, .val (.ref zD)] [(.int (0 : Int32)), (.ref ob)])) (fun target kt => ?_) ?_
          · show Steps p.tables e below (T10.setTop (mkF m 265 #[.val (.long q0), .second, .val (.int p1), .val (.int p2), .val (.int p3), .val (.int p4), .val (.long life), .second, .val (.int p8), .val (.ref se), .val (.ref ob), .val (.int kk), .val (.int (0 : Int32)), .val (.int (0 : Int32)), .val (.long (1 : Int64)), .second, .val (.ref zD), .val (.long ((1 : Int64) + (1 : Int64))), .second, .unset] [(.ref zD)])) _
            refine XS.astore X10.here hx rfl (hb hby at_265) rfl rfl (l' := #[.val (.long q0), .second, .val (.int p1), .val (.int p2), .val (.int p3), .val (.int p4), .val (.long life), .second, .val (.int p8), .val (.ref se), .val (.ref ob), .val (.int kk), .val (.int (0 : Int32)), .val (.int (0 : Int32)), .val (.long (1 : Int64)), .second, .val (.ref zD), .val (.long ((1 : Int64) + (1 : Int64))), .second, .val (.ref zD)]) rfl ?_
            show Steps p.tables e below (T10.setTop (mkF m 267 #[.val (.long q0), .second, .val (.int p1), .val (.int p2), .val (.int p3), .val (.int p4), .val (.long life), .second, .val (.int p8), .val (.ref se), .val (.ref ob), .val (.int kk), .val (.int (0 : Int32)), .val (.int (0 : Int32)), .val (.long (1 : Int64)), .second, .val (.ref zD), .val (.long ((1 : Int64) + (1 : Int64))), .second, .val (.ref zD)] [])) _
            refine XS.aload X10.here hx rfl (hb hby at_267) rfl rfl ?_
            show Steps p.tables e below (T10.setTop (mkF m 269 #[.val (.long q0), .second, .val (.int p1), .val (.int p2), .val (.int p3), .val (.int p4), .val (.long life), .second, .val (.int p8), .val (.ref se), .val (.ref ob), .val (.int kk), .val (.int (0 : Int32)), .val (.int (0 : Int32)), .val (.long (1 : Int64)), .second, .val (.ref zD), .val (.long ((1 : Int64) + (1 : Int64))), .second, .val (.ref zD)] [(.ref ob)])) _
            refine XS.iload X10.here hx rfl (hb hby at_269) rfl ?_
            exact kt
          have Y12 : Fld Z T1.heap ob "com/example/pulsekeep/pulsekeep/core/Subscription" "settings" "Lcom/example/pulsekeep/pulsekeep/core/SubscriptionSettings;" (.ref se) := (KF1 _ _ _ _ _ F_settings (pallS (Or.inr (slot_ne (Or.inl (hw _ (List.mem_of_getElem? (i := 114) rfl))) (Or.inl (hw _ (List.mem_of_getElem? (i := 130) rfl))) (by decide) (t := (.object "com/example/pulsekeep/pulsekeep/core/SubscriptionSettings")) (t' := .boolean) (by decide) (by decide))) (pallS (Or.inr (slot_ne (Or.inl (hw _ (List.mem_of_getElem? (i := 114) rfl))) (Or.inl (hw _ (List.mem_of_getElem? (i := 139) rfl))) (by decide) (t := (.object "com/example/pulsekeep/pulsekeep/core/SubscriptionSettings")) (t' := .boolean) (by decide) (by decide))) (pallS (Or.inr (slot_ne (Or.inl (hw _ (List.mem_of_getElem? (i := 114) rfl))) (Or.inl (hw _ (List.mem_of_getElem? (i := 149) rfl))) (by decide) (t := (.object "com/example/pulsekeep/pulsekeep/core/SubscriptionSettings")) (t' := .long) (by decide) (by decide))) (pallS (Or.inr (slot_ne (Or.inl (hw _ (List.mem_of_getElem? (i := 114) rfl))) (Or.inl (hw _ (List.mem_of_getElem? (i := 132) rfl))) (by decide) (t := (.object "com/example/pulsekeep/pulsekeep/core/SubscriptionSettings")) (t' := .long) (by decide) (by decide))) pall0)))))
          have Y13 : Fld Z T1.heap ob "com/example/pulsekeep/pulsekeep/core/Subscription" "items" "Ljava/util/List;" (.ref il) := (KF1 _ _ _ _ _ F_items (pallS (Or.inr (slot_ne (Or.inr (hw _ (List.mem_of_getElem? (i := 88) rfl))) (Or.inl (hw _ (List.mem_of_getElem? (i := 130) rfl))) (by decide) (t := (.object "java/util/List")) (t' := .boolean) (by decide) (by decide))) (pallS (Or.inr (slot_ne (Or.inr (hw _ (List.mem_of_getElem? (i := 88) rfl))) (Or.inl (hw _ (List.mem_of_getElem? (i := 139) rfl))) (by decide) (t := (.object "java/util/List")) (t' := .boolean) (by decide) (by decide))) (pallS (Or.inr (slot_ne (Or.inr (hw _ (List.mem_of_getElem? (i := 88) rfl))) (Or.inl (hw _ (List.mem_of_getElem? (i := 149) rfl))) (by decide) (t := (.object "java/util/List")) (t' := .long) (by decide) (by decide))) (pallS (Or.inr (slot_ne (Or.inr (hw _ (List.mem_of_getElem? (i := 88) rfl))) (Or.inl (hw _ (List.mem_of_getElem? (i := 132) rfl))) (by decide) (t := (.object "java/util/List")) (t' := .long) (by decide) (by decide))) pall0)))))
          have Y14 : Exa Z T1.heap se "com/example/pulsekeep/pulsekeep/core/SubscriptionSettings" := (E_se.keep K1)
          have Y15 : Fld Z T1.heap se "com/example/pulsekeep/pulsekeep/core/SubscriptionSettings" "publishingEnabled" "Z" (.int en) := (F_en.keep K1 (ninS (ne_exa E_se E_o (by decide)) nin0))
          have Y16 : Exa Z T1.heap il "java/util/ArrayList" := (E_il.keep K1)
          have Y17 : Fld Z T1.heap il "java/util/AbstractList" "modCount" "I" (.int mc) := (F_mc.keep K1 (ninS (ne_exa E_il E_o (by decide)) nin0))
          have Y18 : Fld Z T1.heap il "java/util/ArrayList" "size" "I" (.int (0 : Int32)) := (F_size.keep K1 (ninS (ne_exa E_il E_o (by decide)) nin0))
          have Y19 : Fld Z T1.heap se "com/example/pulsekeep/pulsekeep/core/SubscriptionSettings" "lifetimeCount" "J" (.long life) := (F_life.keep K1 (ninS (ne_exa E_se E_o (by decide)) nin0))
          obtain ⟨cq11, kq11, q11a, q11b, q11c⟩ := isOf hZ e10 Y3
          obtain ⟨_, _, ⟨T11, L11, k11, n11⟩, -, X11, ⟨Lc11, hQ11, l11, y11, z11⟩, st11⟩ := X10.virtualBack hx (y := (⟨"com/example/pulsekeep/pulsekeep/core/Subscription", "endCycle", "(Z)Lcom/example/pulsekeep/pulsekeep/core/Subscription$CycleEnd;"⟩ : MethodName)) (z := (⟨"com/example/pulsekeep/pulsekeep/core/Subscription", "endCycle", "(Z)Lcom/example/pulsekeep/pulsekeep/core/Subscription$CycleEnd;"⟩ : MethodName)) hown (mvT hZ (hw _ (List.mem_of_getElem? (i := 115) rfl))) (mvT hZ (hw _ (List.mem_of_getElem? (i := 116) rfl))) (notFace_of_selects (args := #[]) (mvT hZ (hw _ (List.mem_of_getElem? (i := 118) rfl)))) (mvT hZ (hw _ (List.mem_of_getElem? (i := 118) rfl))) (mvT hZ (hw _ (List.mem_of_getElem? (i := 117) rfl))) (by decide) (backOf (W := 0) (rm11 l Z a0 hw [] ob (0 : Int32) se il en mc life (0 : Int64) (0 : Int32) zD zC T1.heap n0 (by omega) Y3 Y12 Y13 Y14 Y15 Y16 Y17 Y18 Y19 Y1_0 Y1_3 Y1_1 S_DUE S_CLOSE Y7 (by omega)) hZ (hw _ (List.mem_of_getElem? (i := 119) rfl)) (hw _ (List.mem_of_getElem? (i := 29) rfl)) (by decide) (by decide)) q11a q11c (g := (mkF m 271 #[.val (.long q0), .second, .val (.int p1), .val (.int p2), .val (.int p3), .val (.int p4), .val (.long life), .second, .val (.int p8), .val (.ref se), .val (.ref ob), .val (.int kk), .val (.int (0 : Int32)), .val (.int (0 : Int32)), .val (.long (1 : Int64)), .second, .val (.ref zD), .val (.long ((1 : Int64) + (1 : Int64))), .second, .val (.ref zD)] [(.int (0 : Int32)), (.ref ob)])) rfl (by rw [hml]; rfl) (Steps.refl _) (argsL := [(.int (0 : Int32))]) (rest := []) (lenOf pd159_2 rfl) rfl (by show 2 * 0 + _ ≤ _; exact Nat.le_of_eq rfl) (hb hby at_271) (fun vm₁ hvm => ⟨rfl, e10, (by decide : 15 + 1 ≤ _), (by decide : 112 + 4 ≤ _)⟩)
          dsimp only [Pt.U, Pt.locs, Pt.cells, Pt.slots] at X11 l11 y11 z11 st11 hQ11
          subst l11 y11 z11
          obtain ⟨rfl, N11q, K11, KF11, Fc11, Fd11⟩ := hQ11
          have sz11 : T1.heap.size ≤ T11.heap.size := K11.1
          have N11 := Fr.app N2 N11q
          refine Go.trans st11 ?_
          show Go p e below s _ _ _ (T11.setTop (mkF m 274 #[.val (.long q0), .second, .val (.int p1), .val (.int p2), .val (.int p3), .val (.int p4), .val (.long life), .second, .val (.int p8), .val (.ref se), .val (.ref ob), .val (.int kk), .val (.int (0 : Int32)), .val (.int (0 : Int32)), .val (.long (1 : Int64)), .second, .val (.ref zD), .val (.long ((1 : Int64) + (1 : Int64))), .second, .val (.ref zD)] [(.ref (own_end life (own_nc (0 : Int32) (0 : Int64)) zD zC))]))
          rw [show own_end life (own_nc (0 : Int32) (0 : Int64)) zD zC = zD from by rw [own_end, show (own_nc (0 : Int32) (0 : Int64)) = (1 : Int64) from by decide, if_pos h219_6]]
          refine Go.pre (st' := T11.setTop (mkF m 283 #[.val (.long q0), .second, .val (.int p1), .val (.int p2), .val (.int p3), .val (.int p4), .val (.long life), .second, .val (.int p8), .val (.ref se), .val (.ref ob), .val (.int kk), .val (.int (0 : Int32)), .val (.int (0 : Int32)), .val (.long (1 : Int64)), .second, .val (.ref zD), .val (.long ((1 : Int64) + (1 : Int64))), .second, .val (.ref zD)] [(.int (0 : Int32)), (.ref ob)])) (fun target kt => ?_) ?_
          · show Steps p.tables e below (T11.setTop (mkF m 274 #[.val (.long q0), .second, .val (.int p1), .val (.int p2), .val (.int p3), .val (.int p4), .val (.long life), .second, .val (.int p8), .val (.ref se), .val (.ref ob), .val (.int kk), .val (.int (0 : Int32)), .val (.int (0 : Int32)), .val (.long (1 : Int64)), .second, .val (.ref zD), .val (.long ((1 : Int64) + (1 : Int64))), .second, .val (.ref zD)] [(.ref zD)])) _
            refine XS.aload X11.here hx rfl (hb hby at_274) rfl rfl ?_
            show Steps p.tables e below (T11.setTop (mkF m 276 #[.val (.long q0), .second, .val (.int p1), .val (.int p2), .val (.int p3), .val (.int p4), .val (.long life), .second, .val (.int p8), .val (.ref se), .val (.ref ob), .val (.int kk), .val (.int (0 : Int32)), .val (.int (0 : Int32)), .val (.long (1 : Int64)), .second, .val (.ref zD), .val (.long ((1 : Int64) + (1 : Int64))), .second, .val (.ref zD)] [(.ref zD), (.ref zD)])) _
            refine Jvm.RoadKit.acmp (g := (mkF m 276 #[.val (.long q0), .second, .val (.int p1), .val (.int p2), .val (.int p3), .val (.int p4), .val (.long life), .second, .val (.int p8), .val (.ref se), .val (.ref ob), .val (.int kk), .val (.int (0 : Int32)), .val (.int (0 : Int32)), .val (.long (1 : Int64)), .second, .val (.ref zD), .val (.long ((1 : Int64) + (1 : Int64))), .second, .val (.ref zD)] [(.ref zD), (.ref zD)])) X11 hx rfl rfl rfl (pc0 := 276) (pc' := 279) (same := true) rfl (hb hby at_276) rfl (decide_eq_true rfl) (by decide) (by decide) ?_
            show Steps p.tables e below (T11.setTop (mkF m 279 #[.val (.long q0), .second, .val (.int p1), .val (.int p2), .val (.int p3), .val (.int p4), .val (.long life), .second, .val (.int p8), .val (.ref se), .val (.ref ob), .val (.int kk), .val (.int (0 : Int32)), .val (.int (0 : Int32)), .val (.long (1 : Int64)), .second, .val (.ref zD), .val (.long ((1 : Int64) + (1 : Int64))), .second, .val (.ref zD)] [])) _
            refine XS.aload X11.here hx rfl (hb hby at_279) rfl rfl ?_
            show Steps p.tables e below (T11.setTop (mkF m 281 #[.val (.long q0), .second, .val (.int p1), .val (.int p2), .val (.int p3), .val (.int p4), .val (.long life), .second, .val (.int p8), .val (.ref se), .val (.ref ob), .val (.int kk), .val (.int (0 : Int32)), .val (.int (0 : Int32)), .val (.long (1 : Int64)), .second, .val (.ref zD), .val (.long ((1 : Int64) + (1 : Int64))), .second, .val (.ref zD)] [(.ref ob)])) _
            refine XS.iload X11.here hx rfl (hb hby at_281) rfl ?_
            exact kt
          have Y21 : Exa Z T11.heap ob "com/example/pulsekeep/pulsekeep/core/Subscription" := (Y3.keep K11)
          have Y22 : Fld Z T11.heap ob "com/example/pulsekeep/pulsekeep/core/Subscription" "settings" "Lcom/example/pulsekeep/pulsekeep/core/SubscriptionSettings;" (.ref se) := (KF11 _ _ _ _ _ Y12 (pallS (Or.inr (slot_ne (Or.inl (hw _ (List.mem_of_getElem? (i := 114) rfl))) (Or.inl (hw _ (List.mem_of_getElem? (i := 132) rfl))) (by decide) (t := (.object "com/example/pulsekeep/pulsekeep/core/SubscriptionSettings")) (t' := .long) (by decide) (by decide))) (pallS (Or.inr (slot_ne (Or.inl (hw _ (List.mem_of_getElem? (i := 114) rfl))) (Or.inl (hw _ (List.mem_of_getElem? (i := 139) rfl))) (by decide) (t := (.object "com/example/pulsekeep/pulsekeep/core/SubscriptionSettings")) (t' := .boolean) (by decide) (by decide))) pall0)))
          have Y23 : Fld Z T11.heap ob "com/example/pulsekeep/pulsekeep/core/Subscription" "items" "Ljava/util/List;" (.ref il) := (KF11 _ _ _ _ _ Y13 (pallS (Or.inr (slot_ne (Or.inr (hw _ (List.mem_of_getElem? (i := 88) rfl))) (Or.inl (hw _ (List.mem_of_getElem? (i := 132) rfl))) (by decide) (t := (.object "java/util/List")) (t' := .long) (by decide) (by decide))) (pallS (Or.inr (slot_ne (Or.inr (hw _ (List.mem_of_getElem? (i := 88) rfl))) (Or.inl (hw _ (List.mem_of_getElem? (i := 139) rfl))) (by decide) (t := (.object "java/util/List")) (t' := .boolean) (by decide) (by decide))) pall0)))
          have Y24 : Exa Z T11.heap se "com/example/pulsekeep/pulsekeep/core/SubscriptionSettings" := (Y14.keep K11)
          have Y25 : Fld Z T11.heap se "com/example/pulsekeep/pulsekeep/core/SubscriptionSettings" "publishingEnabled" "Z" (.int en) := (Y15.keep K11 (ninS (ne_exa E_se E_o (by decide)) nin0))
          have Y26 : Exa Z T11.heap il "java/util/ArrayList" := (Y16.keep K11)
          have Y27 : Fld Z T11.heap il "java/util/AbstractList" "modCount" "I" (.int mc) := (Y17.keep K11 (ninS (ne_exa E_il E_o (by decide)) nin0))
          have Y28 : Fld Z T11.heap il "java/util/ArrayList" "size" "I" (.int (0 : Int32)) := (Y18.keep K11 (ninS (ne_exa E_il E_o (by decide)) nin0))
          have Y29 : Fld Z T11.heap se "com/example/pulsekeep/pulsekeep/core/SubscriptionSettings" "lifetimeCount" "J" (.long life) := (Y19.keep K11 (ninS (ne_exa E_se E_o (by decide)) nin0))
          have Y30 : Fld Z T11.heap ob "com/example/pulsekeep/pulsekeep/core/Subscription" "messageSent" "Z" (.int (0 : Int32)) := (KF11 _ _ _ _ _ Y1_0 (pallS (Or.inr (slot_ne (Or.inl (hw _ (List.mem_of_getElem? (i := 130) rfl))) (Or.inl (hw _ (List.mem_of_getElem? (i := 132) rfl))) (by decide) (t := .boolean) (t' := .long) (by decide) (by decide))) (pallS (Or.inr (slot_ne (Or.inl (hw _ (List.mem_of_getElem? (i := 130) rfl))) (Or.inl (hw _ (List.mem_of_getElem? (i := 139) rfl))) (by decide) (t := .boolean) (t' := .boolean) (by decide) (by decide))) pall0)))
          have Y31 : Old Z n0 T11.heap := (Y7.keep K11 (allS (by omega) all0))
          obtain ⟨cq20, kq20, q20a, q20b, q20c⟩ := isOf hZ rfl Y21
          obtain ⟨_, _, ⟨T20, L20, k20, n20⟩, -, X20, ⟨Lc20, hQ20, l20, y20, z20⟩, st20⟩ := X11.virtualBack hx (y := (⟨"com/example/pulsekeep/pulsekeep/core/Subscription", "endCycle", "(Z)Lcom/example/pulsekeep/pulsekeep/core/Subscription$CycleEnd;"⟩ : MethodName)) (z := (⟨"com/example/pulsekeep/pulsekeep/core/Subscription", "endCycle", "(Z)Lcom/example/pulsekeep/pulsekeep/core/Subscription$CycleEnd;"⟩ : MethodName)) hown (mvT hZ (hw _ (List.mem_of_getElem? (i := 115) rfl))) (mvT hZ (hw _ (List.mem_of_getElem? (i := 116) rfl))) (notFace_of_selects (args := #[]) (mvT hZ (hw _ (List.mem_of_getElem? (i := 118) rfl)))) (mvT hZ (hw _ (List.mem_of_getElem? (i := 118) rfl))) (mvT hZ (hw _ (List.mem_of_getElem? (i := 117) rfl))) (by decide) (backOf (W := 0) (rm11 l Z a0 hw [] ob (0 : Int32) se il en mc life (own_nc (0 : Int32) (0 : Int64)) (own_due life (own_nc (0 : Int32) (0 : Int64)) (0 : Int32)) zD zC T11.heap n0 (by omega) Y21 Y22 Y23 Y24 Y25 Y26 Y27 Y28 Y29 Y30 Fc11 Fd11 S_DUE S_CLOSE Y31 (by omega)) hZ (hw _ (List.mem_of_getElem? (i := 119) rfl)) (hw _ (List.mem_of_getElem? (i := 29) rfl)) (by decide) (by decide)) q20a q20c (g := (mkF m 283 #[.val (.long q0), .second, .val (.int p1), .val (.int p2), .val (.int p3), .val (.int p4), .val (.long life), .second, .val (.int p8), .val (.ref se), .val (.ref ob), .val (.int kk), .val (.int (0 : Int32)), .val (.int (0 : Int32)), .val (.long (1 : Int64)), .second, .val (.ref zD), .val (.long ((1 : Int64) + (1 : Int64))), .second, .val (.ref zD)] [(.int (0 : Int32)), (.ref ob)])) rfl (by rw [hml]; rfl) (Steps.refl _) (argsL := [(.int (0 : Int32))]) (rest := []) (lenOf pd159_2 rfl) rfl (by show 2 * 0 + _ ≤ _; exact Nat.le_of_eq rfl) (hb hby at_283) (fun vm₁ hvm => ⟨rfl, rfl, (by decide : 16 + 1 ≤ _), (by decide : 116 + 4 ≤ _)⟩)
          dsimp only [Pt.U, Pt.locs, Pt.cells, Pt.slots] at X20 l20 y20 z20 st20 hQ20
          subst l20 y20 z20
          obtain ⟨rfl, N20q, K20, KF20, Fc20, Fd20⟩ := hQ20
          have sz20 : T11.heap.size ≤ T20.heap.size := K20.1
          have N20 := Fr.app N11 N20q
          refine Go.trans st20 ?_
          show Go p e below s _ _ _ (T20.setTop (mkF m 286 #[.val (.long q0), .second, .val (.int p1), .val (.int p2), .val (.int p3), .val (.int p4), .val (.long life), .second, .val (.int p8), .val (.ref se), .val (.ref ob), .val (.int kk), .val (.int (0 : Int32)), .val (.int (0 : Int32)), .val (.long (1 : Int64)), .second, .val (.ref zD), .val (.long ((1 : Int64) + (1 : Int64))), .second, .val (.ref zD)] [(.ref (own_end life (own_nc (0 : Int32) (own_nc (0 : Int32) (0 : Int64))) zD zC))]))
          rw [show own_end life (own_nc (0 : Int32) (own_nc (0 : Int32) (0 : Int64))) zD zC = zD from by rw [own_end, show (own_nc (0 : Int32) (own_nc (0 : Int32) (0 : Int64))) = ((1 : Int64) + (1 : Int64)) from by decide, if_pos h253_9]]
          refine Go.pre (st' := T20.setTop (mkF m 296 #[.val (.long q0), .second, .val (.int p1), .val (.int p2), .val (.int p3), .val (.int p4), .val (.long life), .second, .val (.int p8), .val (.ref se), .val (.ref ob), .val (.int kk), .val (.int (0 : Int32)), .val (.int (0 : Int32)), .val (.long (1 : Int64)), .second, .val (.ref zD), .val (.long ((1 : Int64) + (1 : Int64))), .second, .val (.ref zD)] [(.int (1 : Int32))])) (fun target kt => ?_) ?_
          · show Steps p.tables e below (T20.setTop (mkF m 286 #[.val (.long q0), .second, .val (.int p1), .val (.int p2), .val (.int p3), .val (.int p4), .val (.long life), .second, .val (.int p8), .val (.ref se), .val (.ref ob), .val (.int kk), .val (.int (0 : Int32)), .val (.int (0 : Int32)), .val (.long (1 : Int64)), .second, .val (.ref zD), .val (.long ((1 : Int64) + (1 : Int64))), .second, .val (.ref zD)] [(.ref zD)])) _
            refine XS.aload X20.here hx rfl (hb hby at_286) rfl rfl ?_
            show Steps p.tables e below (T20.setTop (mkF m 288 #[.val (.long q0), .second, .val (.int p1), .val (.int p2), .val (.int p3), .val (.int p4), .val (.long life), .second, .val (.int p8), .val (.ref se), .val (.ref ob), .val (.int kk), .val (.int (0 : Int32)), .val (.int (0 : Int32)), .val (.long (1 : Int64)), .second, .val (.ref zD), .val (.long ((1 : Int64) + (1 : Int64))), .second, .val (.ref zD)] [(.ref zD), (.ref zD)])) _
            refine Jvm.RoadKit.acmp (g := (mkF m 288 #[.val (.long q0), .second, .val (.int p1), .val (.int p2), .val (.int p3), .val (.int p4), .val (.long life), .second, .val (.int p8), .val (.ref se), .val (.ref ob), .val (.int kk), .val (.int (0 : Int32)), .val (.int (0 : Int32)), .val (.long (1 : Int64)), .second, .val (.ref zD), .val (.long ((1 : Int64) + (1 : Int64))), .second, .val (.ref zD)] [(.ref zD), (.ref zD)])) X20 hx rfl rfl rfl (pc0 := 288) (pc' := 291) (same := true) rfl (hb hby at_288) rfl (decide_eq_true rfl) (by decide) (by decide) ?_
            show Steps p.tables e below (T20.setTop (mkF m 291 #[.val (.long q0), .second, .val (.int p1), .val (.int p2), .val (.int p3), .val (.int p4), .val (.long life), .second, .val (.int p8), .val (.ref se), .val (.ref ob), .val (.int kk), .val (.int (0 : Int32)), .val (.int (0 : Int32)), .val (.long (1 : Int64)), .second, .val (.ref zD), .val (.long ((1 : Int64) + (1 : Int64))), .second, .val (.ref zD)] [])) _
            refine XS.iconst X20.here hx rfl (hb hby at_291) ?_
            show Steps p.tables e below (T20.setTop (mkF m 292 #[.val (.long q0), .second, .val (.int p1), .val (.int p2), .val (.int p3), .val (.int p4), .val (.long life), .second, .val (.int p8), .val (.ref se), .val (.ref ob), .val (.int kk), .val (.int (0 : Int32)), .val (.int (0 : Int32)), .val (.long (1 : Int64)), .second, .val (.ref zD), .val (.long ((1 : Int64) + (1 : Int64))), .second, .val (.ref zD)] [(.int (1 : Int32))])) _
            refine XS.goto X20.here hx rfl (pc0 := 292) (pc' := 296) rfl (hb hby at_292) (by decide) (by decide) ?_
            exact kt
          exact Go.retN X20 hx hlk hrt (z' := (1 : Int32)) (by simp) (hb hby at_296) rfl (by decide) (by decide) (by exact ⟨rfl, N20⟩)
        · refine Go.pre (st' := T8.setTop (mkF m 256 #[.val (.long q0), .second, .val (.int p1), .val (.int p2), .val (.int p3), .val (.int p4), .val (.long life), .second, .val (.int p8), .val (.ref se), .val (.ref ob), .val (.int kk), .val (.int (0 : Int32)), .val (.int (0 : Int32)), .val (.long (1 : Int64)), .second, .val (.ref zD), .val (.long ((1 : Int64) + (1 : Int64))), .second, .unset] [])) (fun target kt => ?_) ?_
          · show Steps p.tables e below (T8.setTop (mkF m 253 #[.val (.long q0), .second, .val (.int p1), .val (.int p2), .val (.int p3), .val (.int p4), .val (.long life), .second, .val (.int p8), .val (.ref se), .val (.ref ob), .val (.int kk), .val (.int (0 : Int32)), .val (.int (0 : Int32)), .val (.long (1 : Int64)), .second, .val (.ref zD), .val (.long ((1 : Int64) + (1 : Int64))), .second, .unset] [(.int (lcmpW ((1 : Int64) + (1 : Int64)) life))])) _
            refine XS.ifNo X8.here hx rfl (hb hby at_253) rfl ((if0 _ _).trans (flt (fun q => h253_9 ((lw_lt _ _).mp q))).1) ?_
            exact kt
          obtain ⟨T32, X32, e32, st32⟩ := getS2 X8 hx hZ hown (host := "") (Or.inl (hw _ (List.mem_of_getElem? (i := 194) rfl))) Via.refl e8 (S_CLOSE.ext Y7.2) (g := (mkF m 256 #[.val (.long q0), .second, .val (.int p1), .val (.int p2), .val (.int p3), .val (.int p4), .val (.long life), .second, .val (.int p8), .val (.ref se), .val (.ref ob), .val (.int kk), .val (.int (0 : Int32)), .val (.int (0 : Int32)), .val (.long (1 : Int64)), .second, .val (.ref zD), .val (.long ((1 : Int64) + (1 : Int64))), .second, .unset] [])) rfl (hb hby at_256)
          refine Go.pre st32 ?_
          show Go p e below s _ _ _ (T32.setTop (mkF m 259 #[.val (.long q0), .second, .val (.int p1), .val (.int p2), .val (.int p3), .val (.int p4), .val (.long life), .second, .val (.int p8), .val (.ref se), .val (.ref ob), .val (.int kk), .val (.int (0 : Int32)), .val (.int (0 : Int32)), .val (.long (1 : Int64)), .second, .val (.ref zD), .val (.long ((1 : Int64) + (1 : Int64))), .second, .unset] [(.ref zC)]))
          refine Go.pre (st' := T32.setTop (mkF m 271 #[.val (.long q0), .second, .val (.int p1), .val (.int p2), .val (.int p3), .val (.int p4), .val (.long life), .second, .val (.int p8), .val (.ref se), .val (.ref ob), .val (.int kk), .val (.int (0 : Int32)), .val (.int (0 : Int32)), .val (.long (1 : Int64)), .second, .val (.ref zD), .val (.long ((1 : Int64) + (1 : Int64))), .second, .val (.ref zC)] [(.int (0 : Int32)), (.ref ob)])) (fun target kt => ?_) ?_
          · show Steps p.tables e below (T32.setTop (mkF m 259 #[.val (.long q0), .second, .val (.int p1), .val (.int p2), .val (.int p3), .val (.int p4), .val (.long life), .second, .val (.int p8), .val (.ref se), .val (.ref ob), .val (.int kk), .val (.int (0 : Int32)), .val (.int (0 : Int32)), .val (.long (1 : Int64)), .second, .val (.ref zD), .val (.long ((1 : Int64) + (1 : Int64))), .second, .unset] [(.ref zC)])) _
            refine XS.goto X32.here hx rfl (pc0 := 259) (pc' := 265) rfl (hb hby at_259) (by decide) (by decide) ?_
            show Steps p.tables e below (T32.setTop (mkF m 265 #[.val (.long q0), .second, .val (.int p1), .val (.int p2), .val (.int p3), .val (.int p4), .val (.long life), .second, .val (.int p8), .val (.ref se), .val (.ref ob), .val (.int kk), .val (.int (0 : Int32)), .val (.int (0 : Int32)), .val (.long (1 : Int64)), .second, .val (.ref zD), .val (.long ((1 : Int64) + (1 : Int64))), .second, .unset] [(.ref zC)])) _
            refine XS.astore X32.here hx rfl (hb hby at_265) rfl rfl (l' := #[.val (.long q0), .second, .val (.int p1), .val (.int p2), .val (.int p3), .val (.int p4), .val (.long life), .second, .val (.int p8), .val (.ref se), .val (.ref ob), .val (.int kk), .val (.int (0 : Int32)), .val (.int (0 : Int32)), .val (.long (1 : Int64)), .second, .val (.ref zD), .val (.long ((1 : Int64) + (1 : Int64))), .second, .val (.ref zC)]) rfl ?_
            show Steps p.tables e below (T32.setTop (mkF m 267 #[.val (.long q0), .second, .val (.int p1), .val (.int p2), .val (.int p3), .val (.int p4), .val (.long life), .second, .val (.int p8), .val (.ref se), .val (.ref ob), .val (.int kk), .val (.int (0 : Int32)), .val (.int (0 : Int32)), .val (.long (1 : Int64)), .second, .val (.ref zD), .val (.long ((1 : Int64) + (1 : Int64))), .second, .val (.ref zC)] [])) _
            refine XS.aload X32.here hx rfl (hb hby at_267) rfl rfl ?_
            show Steps p.tables e below (T32.setTop (mkF m 269 #[.val (.long q0), .second, .val (.int p1), .val (.int p2), .val (.int p3), .val (.int p4), .val (.long life), .second, .val (.int p8), .val (.ref se), .val (.ref ob), .val (.int kk), .val (.int (0 : Int32)), .val (.int (0 : Int32)), .val (.long (1 : Int64)), .second, .val (.ref zD), .val (.long ((1 : Int64) + (1 : Int64))), .second, .val (.ref zC)] [(.ref ob)])) _
            refine XS.iload X32.here hx rfl (hb hby at_269) rfl ?_
            exact kt
          have Y34 : Fld Z T1.heap ob "com/example/pulsekeep/pulsekeep/core/Subscription" "settings" "Lcom/example/pulsekeep/pulsekeep/core/SubscriptionSettings;" (.ref se) := (KF1 _ _ _ _ _ F_settings (pallS (Or.inr (slot_ne (Or.inl (hw _ (List.mem_of_getElem? (i := 114) rfl))) (Or.inl (hw _ (List.mem_of_getElem? (i := 130) rfl))) (by decide) (t := (.object "com/example/pulsekeep/pulsekeep/core/SubscriptionSettings")) (t' := .boolean) (by decide) (by decide))) (pallS (Or.inr (slot_ne (Or.inl (hw _ (List.mem_of_getElem? (i := 114) rfl))) (Or.inl (hw _ (List.mem_of_getElem? (i := 139) rfl))) (by decide) (t := (.object "com/example/pulsekeep/pulsekeep/core/SubscriptionSettings")) (t' := .boolean) (by decide) (by decide))) (pallS (Or.inr (slot_ne (Or.inl (hw _ (List.mem_of_getElem? (i := 114) rfl))) (Or.inl (hw _ (List.mem_of_getElem? (i := 149) rfl))) (by decide) (t := (.object "com/example/pulsekeep/pulsekeep/core/SubscriptionSettings")) (t' := .long) (by decide) (by decide))) (pallS (Or.inr (slot_ne (Or.inl (hw _ (List.mem_of_getElem? (i := 114) rfl))) (Or.inl (hw _ (List.mem_of_getElem? (i := 132) rfl))) (by decide) (t := (.object "com/example/pulsekeep/pulsekeep/core/SubscriptionSettings")) (t' := .long) (by decide) (by decide))) pall0)))))
          have Y35 : Fld Z T1.heap ob "com/example/pulsekeep/pulsekeep/core/Subscription" "items" "Ljava/util/List;" (.ref il) := (KF1 _ _ _ _ _ F_items (pallS (Or.inr (slot_ne (Or.inr (hw _ (List.mem_of_getElem? (i := 88) rfl))) (Or.inl (hw _ (List.mem_of_getElem? (i := 130) rfl))) (by decide) (t := (.object "java/util/List")) (t' := .boolean) (by decide) (by decide))) (pallS (Or.inr (slot_ne (Or.inr (hw _ (List.mem_of_getElem? (i := 88) rfl))) (Or.inl (hw _ (List.mem_of_getElem? (i := 139) rfl))) (by decide) (t := (.object "java/util/List")) (t' := .boolean) (by decide) (by decide))) (pallS (Or.inr (slot_ne (Or.inr (hw _ (List.mem_of_getElem? (i := 88) rfl))) (Or.inl (hw _ (List.mem_of_getElem? (i := 149) rfl))) (by decide) (t := (.object "java/util/List")) (t' := .long) (by decide) (by decide))) (pallS (Or.inr (slot_ne (Or.inr (hw _ (List.mem_of_getElem? (i := 88) rfl))) (Or.inl (hw _ (List.mem_of_getElem? (i := 132) rfl))) (by decide) (t := (.object "java/util/List")) (t' := .long) (by decide) (by decide))) pall0)))))
          have Y36 : Exa Z T1.heap se "com/example/pulsekeep/pulsekeep/core/SubscriptionSettings" := (E_se.keep K1)
          have Y37 : Fld Z T1.heap se "com/example/pulsekeep/pulsekeep/core/SubscriptionSettings" "publishingEnabled" "Z" (.int en) := (F_en.keep K1 (ninS (ne_exa E_se E_o (by decide)) nin0))
          have Y38 : Exa Z T1.heap il "java/util/ArrayList" := (E_il.keep K1)
          have Y39 : Fld Z T1.heap il "java/util/AbstractList" "modCount" "I" (.int mc) := (F_mc.keep K1 (ninS (ne_exa E_il E_o (by decide)) nin0))
          have Y40 : Fld Z T1.heap il "java/util/ArrayList" "size" "I" (.int (0 : Int32)) := (F_size.keep K1 (ninS (ne_exa E_il E_o (by decide)) nin0))
          have Y41 : Fld Z T1.heap se "com/example/pulsekeep/pulsekeep/core/SubscriptionSettings" "lifetimeCount" "J" (.long life) := (F_life.keep K1 (ninS (ne_exa E_se E_o (by decide)) nin0))
          obtain ⟨cq33, kq33, q33a, q33b, q33c⟩ := isOf hZ e32 Y3
          obtain ⟨_, _, ⟨T33, L33, k33, n33⟩, -, X33, ⟨Lc33, hQ33, l33, y33, z33⟩, st33⟩ := X32.virtualBack hx (y := (⟨"com/example/pulsekeep/pulsekeep/core/Subscription", "endCycle", "(Z)Lcom/example/pulsekeep/pulsekeep/core/Subscription$CycleEnd;"⟩ : MethodName)) (z := (⟨"com/example/pulsekeep/pulsekeep/core/Subscription", "endCycle", "(Z)Lcom/example/pulsekeep/pulsekeep/core/Subscription$CycleEnd;"⟩ : MethodName)) hown (mvT hZ (hw _ (List.mem_of_getElem? (i := 115) rfl))) (mvT hZ (hw _ (List.mem_of_getElem? (i := 116) rfl))) (notFace_of_selects (args := #[]) (mvT hZ (hw _ (List.mem_of_getElem? (i := 118) rfl)))) (mvT hZ (hw _ (List.mem_of_getElem? (i := 118) rfl))) (mvT hZ (hw _ (List.mem_of_getElem? (i := 117) rfl))) (by decide) (backOf (W := 0) (rm11 l Z a0 hw [] ob (0 : Int32) se il en mc life (0 : Int64) (0 : Int32) zD zC T1.heap n0 (by omega) Y3 Y34 Y35 Y36 Y37 Y38 Y39 Y40 Y41 Y1_0 Y1_3 Y1_1 S_DUE S_CLOSE Y7 (by omega)) hZ (hw _ (List.mem_of_getElem? (i := 119) rfl)) (hw _ (List.mem_of_getElem? (i := 29) rfl)) (by decide) (by decide)) q33a q33c (g := (mkF m 271 #[.val (.long q0), .second, .val (.int p1), .val (.int p2), .val (.int p3), .val (.int p4), .val (.long life), .second, .val (.int p8), .val (.ref se), .val (.ref ob), .val (.int kk), .val (.int (0 : Int32)), .val (.int (0 : Int32)), .val (.long (1 : Int64)), .second, .val (.ref zD), .val (.long ((1 : Int64) + (1 : Int64))), .second, .val (.ref zC)] [(.int (0 : Int32)), (.ref ob)])) rfl (by rw [hml]; rfl) (Steps.refl _) (argsL := [(.int (0 : Int32))]) (rest := []) (lenOf pd159_2 rfl) rfl (by show 2 * 0 + _ ≤ _; exact Nat.le_of_eq rfl) (hb hby at_271) (fun vm₁ hvm => ⟨rfl, e32, (by decide : 15 + 1 ≤ _), (by decide : 112 + 4 ≤ _)⟩)
          dsimp only [Pt.U, Pt.locs, Pt.cells, Pt.slots] at X33 l33 y33 z33 st33 hQ33
          subst l33 y33 z33
          obtain ⟨rfl, N33q, K33, KF33, Fc33, Fd33⟩ := hQ33
          have sz33 : T1.heap.size ≤ T33.heap.size := K33.1
          have N33 := Fr.app N2 N33q
          refine Go.trans st33 ?_
          show Go p e below s _ _ _ (T33.setTop (mkF m 274 #[.val (.long q0), .second, .val (.int p1), .val (.int p2), .val (.int p3), .val (.int p4), .val (.long life), .second, .val (.int p8), .val (.ref se), .val (.ref ob), .val (.int kk), .val (.int (0 : Int32)), .val (.int (0 : Int32)), .val (.long (1 : Int64)), .second, .val (.ref zD), .val (.long ((1 : Int64) + (1 : Int64))), .second, .val (.ref zC)] [(.ref (own_end life (own_nc (0 : Int32) (0 : Int64)) zD zC))]))
          rw [show own_end life (own_nc (0 : Int32) (0 : Int64)) zD zC = zD from by rw [own_end, show (own_nc (0 : Int32) (0 : Int64)) = (1 : Int64) from by decide, if_pos h219_6]]
          refine Go.pre (st' := T33.setTop (mkF m 283 #[.val (.long q0), .second, .val (.int p1), .val (.int p2), .val (.int p3), .val (.int p4), .val (.long life), .second, .val (.int p8), .val (.ref se), .val (.ref ob), .val (.int kk), .val (.int (0 : Int32)), .val (.int (0 : Int32)), .val (.long (1 : Int64)), .second, .val (.ref zD), .val (.long ((1 : Int64) + (1 : Int64))), .second, .val (.ref zC)] [(.int (0 : Int32)), (.ref ob)])) (fun target kt => ?_) ?_
          · show Steps p.tables e below (T33.setTop (mkF m 274 #[.val (.long q0), .second, .val (.int p1), .val (.int p2), .val (.int p3), .val (.int p4), .val (.long life), .second, .val (.int p8), .val (.ref se), .val (.ref ob), .val (.int kk), .val (.int (0 : Int32)), .val (.int (0 : Int32)), .val (.long (1 : Int64)), .second, .val (.ref zD), .val (.long ((1 : Int64) + (1 : Int64))), .second, .val (.ref zC)] [(.ref zD)])) _
            refine XS.aload X33.here hx rfl (hb hby at_274) rfl rfl ?_
            show Steps p.tables e below (T33.setTop (mkF m 276 #[.val (.long q0), .second, .val (.int p1), .val (.int p2), .val (.int p3), .val (.int p4), .val (.long life), .second, .val (.int p8), .val (.ref se), .val (.ref ob), .val (.int kk), .val (.int (0 : Int32)), .val (.int (0 : Int32)), .val (.long (1 : Int64)), .second, .val (.ref zD), .val (.long ((1 : Int64) + (1 : Int64))), .second, .val (.ref zC)] [(.ref zD), (.ref zD)])) _
            refine Jvm.RoadKit.acmp (g := (mkF m 276 #[.val (.long q0), .second, .val (.int p1), .val (.int p2), .val (.int p3), .val (.int p4), .val (.long life), .second, .val (.int p8), .val (.ref se), .val (.ref ob), .val (.int kk), .val (.int (0 : Int32)), .val (.int (0 : Int32)), .val (.long (1 : Int64)), .second, .val (.ref zD), .val (.long ((1 : Int64) + (1 : Int64))), .second, .val (.ref zC)] [(.ref zD), (.ref zD)])) X33 hx rfl rfl rfl (pc0 := 276) (pc' := 279) (same := true) rfl (hb hby at_276) rfl (decide_eq_true rfl) (by decide) (by decide) ?_
            show Steps p.tables e below (T33.setTop (mkF m 279 #[.val (.long q0), .second, .val (.int p1), .val (.int p2), .val (.int p3), .val (.int p4), .val (.long life), .second, .val (.int p8), .val (.ref se), .val (.ref ob), .val (.int kk), .val (.int (0 : Int32)), .val (.int (0 : Int32)), .val (.long (1 : Int64)), .second, .val (.ref zD), .val (.long ((1 : Int64) + (1 : Int64))), .second, .val (.ref zC)] [])) _
            refine XS.aload X33.here hx rfl (hb hby at_279) rfl rfl ?_
            show Steps p.tables e below (T33.setTop (mkF m 281 #[.val (.long q0), .second, .val (.int p1), .val (.int p2), .val (.int p3), .val (.int p4), .val (.long life), .second, .val (.int p8), .val (.ref se), .val (.ref ob), .val (.int kk), .val (.int (0 : Int32)), .val (.int (0 : Int32)), .val (.long (1 : Int64)), .second, .val (.ref zD), .val (.long ((1 : Int64) + (1 : Int64))), .second, .val (.ref zC)] [(.ref ob)])) _
            refine XS.iload X33.here hx rfl (hb hby at_281) rfl ?_
            exact kt
          have Y43 : Exa Z T33.heap ob "com/example/pulsekeep/pulsekeep/core/Subscription" := (Y3.keep K33)
          have Y44 : Fld Z T33.heap ob "com/example/pulsekeep/pulsekeep/core/Subscription" "settings" "Lcom/example/pulsekeep/pulsekeep/core/SubscriptionSettings;" (.ref se) := (KF33 _ _ _ _ _ Y34 (pallS (Or.inr (slot_ne (Or.inl (hw _ (List.mem_of_getElem? (i := 114) rfl))) (Or.inl (hw _ (List.mem_of_getElem? (i := 132) rfl))) (by decide) (t := (.object "com/example/pulsekeep/pulsekeep/core/SubscriptionSettings")) (t' := .long) (by decide) (by decide))) (pallS (Or.inr (slot_ne (Or.inl (hw _ (List.mem_of_getElem? (i := 114) rfl))) (Or.inl (hw _ (List.mem_of_getElem? (i := 139) rfl))) (by decide) (t := (.object "com/example/pulsekeep/pulsekeep/core/SubscriptionSettings")) (t' := .boolean) (by decide) (by decide))) pall0)))
          have Y45 : Fld Z T33.heap ob "com/example/pulsekeep/pulsekeep/core/Subscription" "items" "Ljava/util/List;" (.ref il) := (KF33 _ _ _ _ _ Y35 (pallS (Or.inr (slot_ne (Or.inr (hw _ (List.mem_of_getElem? (i := 88) rfl))) (Or.inl (hw _ (List.mem_of_getElem? (i := 132) rfl))) (by decide) (t := (.object "java/util/List")) (t' := .long) (by decide) (by decide))) (pallS (Or.inr (slot_ne (Or.inr (hw _ (List.mem_of_getElem? (i := 88) rfl))) (Or.inl (hw _ (List.mem_of_getElem? (i := 139) rfl))) (by decide) (t := (.object "java/util/List")) (t' := .boolean) (by decide) (by decide))) pall0)))
          have Y46 : Exa Z T33.heap se "com/example/pulsekeep/pulsekeep/core/SubscriptionSettings" := (Y36.keep K33)
          have Y47 : Fld Z T33.heap se "com/example/pulsekeep/pulsekeep/core/SubscriptionSettings" "publishingEnabled" "Z" (.int en) := (Y37.keep K33 (ninS (ne_exa E_se E_o (by decide)) nin0))
          have Y48 : Exa Z T33.heap il "java/util/ArrayList" := (Y38.keep K33)
          have Y49 : Fld Z T33.heap il "java/util/AbstractList" "modCount" "I" (.int mc) := (Y39.keep K33 (ninS (ne_exa E_il E_o (by decide)) nin0))
          have Y50 : Fld Z T33.heap il "java/util/ArrayList" "size" "I" (.int (0 : Int32)) := (Y40.keep K33 (ninS (ne_exa E_il E_o (by decide)) nin0))
          have Y51 : Fld Z T33.heap se "com/example/pulsekeep/pulsekeep/core/SubscriptionSettings" "lifetimeCount" "J" (.long life) := (Y41.keep K33 (ninS (ne_exa E_se E_o (by decide)) nin0))
          have Y52 : Fld Z T33.heap ob "com/example/pulsekeep/pulsekeep/core/Subscription" "messageSent" "Z" (.int (0 : Int32)) := (KF33 _ _ _ _ _ Y1_0 (pallS (Or.inr (slot_ne (Or.inl (hw _ (List.mem_of_getElem? (i := 130) rfl))) (Or.inl (hw _ (List.mem_of_getElem? (i := 132) rfl))) (by decide) (t := .boolean) (t' := .long) (by decide) (by decide))) (pallS (Or.inr (slot_ne (Or.inl (hw _ (List.mem_of_getElem? (i := 130) rfl))) (Or.inl (hw _ (List.mem_of_getElem? (i := 139) rfl))) (by decide) (t := .boolean) (t' := .boolean) (by decide) (by decide))) pall0)))
          have Y53 : Old Z n0 T33.heap := (Y7.keep K33 (allS (by omega) all0))
          obtain ⟨cq42, kq42, q42a, q42b, q42c⟩ := isOf hZ rfl Y43
          obtain ⟨_, _, ⟨T42, L42, k42, n42⟩, -, X42, ⟨Lc42, hQ42, l42, y42, z42⟩, st42⟩ := X33.virtualBack hx (y := (⟨"com/example/pulsekeep/pulsekeep/core/Subscription", "endCycle", "(Z)Lcom/example/pulsekeep/pulsekeep/core/Subscription$CycleEnd;"⟩ : MethodName)) (z := (⟨"com/example/pulsekeep/pulsekeep/core/Subscription", "endCycle", "(Z)Lcom/example/pulsekeep/pulsekeep/core/Subscription$CycleEnd;"⟩ : MethodName)) hown (mvT hZ (hw _ (List.mem_of_getElem? (i := 115) rfl))) (mvT hZ (hw _ (List.mem_of_getElem? (i := 116) rfl))) (notFace_of_selects (args := #[]) (mvT hZ (hw _ (List.mem_of_getElem? (i := 118) rfl)))) (mvT hZ (hw _ (List.mem_of_getElem? (i := 118) rfl))) (mvT hZ (hw _ (List.mem_of_getElem? (i := 117) rfl))) (by decide) (backOf (W := 0) (rm11 l Z a0 hw [] ob (0 : Int32) se il en mc life (own_nc (0 : Int32) (0 : Int64)) (own_due life (own_nc (0 : Int32) (0 : Int64)) (0 : Int32)) zD zC T33.heap n0 (by omega) Y43 Y44 Y45 Y46 Y47 Y48 Y49 Y50 Y51 Y52 Fc33 Fd33 S_DUE S_CLOSE Y53 (by omega)) hZ (hw _ (List.mem_of_getElem? (i := 119) rfl)) (hw _ (List.mem_of_getElem? (i := 29) rfl)) (by decide) (by decide)) q42a q42c (g := (mkF m 283 #[.val (.long q0), .second, .val (.int p1), .val (.int p2), .val (.int p3), .val (.int p4), .val (.long life), .second, .val (.int p8), .val (.ref se), .val (.ref ob), .val (.int kk), .val (.int (0 : Int32)), .val (.int (0 : Int32)), .val (.long (1 : Int64)), .second, .val (.ref zD), .val (.long ((1 : Int64) + (1 : Int64))), .second, .val (.ref zC)] [(.int (0 : Int32)), (.ref ob)])) rfl (by rw [hml]; rfl) (Steps.refl _) (argsL := [(.int (0 : Int32))]) (rest := []) (lenOf pd159_2 rfl) rfl (by show 2 * 0 + _ ≤ _; exact Nat.le_of_eq rfl) (hb hby at_283) (fun vm₁ hvm => ⟨rfl, rfl, (by decide : 16 + 1 ≤ _), (by decide : 116 + 4 ≤ _)⟩)
          dsimp only [Pt.U, Pt.locs, Pt.cells, Pt.slots] at X42 l42 y42 z42 st42 hQ42
          subst l42 y42 z42
          obtain ⟨rfl, N42q, K42, KF42, Fc42, Fd42⟩ := hQ42
          have sz42 : T33.heap.size ≤ T42.heap.size := K42.1
          have N42 := Fr.app N33 N42q
          refine Go.trans st42 ?_
          show Go p e below s _ _ _ (T42.setTop (mkF m 286 #[.val (.long q0), .second, .val (.int p1), .val (.int p2), .val (.int p3), .val (.int p4), .val (.long life), .second, .val (.int p8), .val (.ref se), .val (.ref ob), .val (.int kk), .val (.int (0 : Int32)), .val (.int (0 : Int32)), .val (.long (1 : Int64)), .second, .val (.ref zD), .val (.long ((1 : Int64) + (1 : Int64))), .second, .val (.ref zC)] [(.ref (own_end life (own_nc (0 : Int32) (own_nc (0 : Int32) (0 : Int64))) zD zC))]))
          rw [show own_end life (own_nc (0 : Int32) (own_nc (0 : Int32) (0 : Int64))) zD zC = zC from by rw [own_end, show (own_nc (0 : Int32) (own_nc (0 : Int32) (0 : Int64))) = ((1 : Int64) + (1 : Int64)) from by decide, if_neg h253_9]]
          refine Go.pre (st' := T42.setTop (mkF m 296 #[.val (.long q0), .second, .val (.int p1), .val (.int p2), .val (.int p3), .val (.int p4), .val (.long life), .second, .val (.int p8), .val (.ref se), .val (.ref ob), .val (.int kk), .val (.int (0 : Int32)), .val (.int (0 : Int32)), .val (.long (1 : Int64)), .second, .val (.ref zD), .val (.long ((1 : Int64) + (1 : Int64))), .second, .val (.ref zC)] [(.int (1 : Int32))])) (fun target kt => ?_) ?_
          · show Steps p.tables e below (T42.setTop (mkF m 286 #[.val (.long q0), .second, .val (.int p1), .val (.int p2), .val (.int p3), .val (.int p4), .val (.long life), .second, .val (.int p8), .val (.ref se), .val (.ref ob), .val (.int kk), .val (.int (0 : Int32)), .val (.int (0 : Int32)), .val (.long (1 : Int64)), .second, .val (.ref zD), .val (.long ((1 : Int64) + (1 : Int64))), .second, .val (.ref zC)] [(.ref zC)])) _
            refine XS.aload X42.here hx rfl (hb hby at_286) rfl rfl ?_
            show Steps p.tables e below (T42.setTop (mkF m 288 #[.val (.long q0), .second, .val (.int p1), .val (.int p2), .val (.int p3), .val (.int p4), .val (.long life), .second, .val (.int p8), .val (.ref se), .val (.ref ob), .val (.int kk), .val (.int (0 : Int32)), .val (.int (0 : Int32)), .val (.long (1 : Int64)), .second, .val (.ref zD), .val (.long ((1 : Int64) + (1 : Int64))), .second, .val (.ref zC)] [(.ref zC), (.ref zC)])) _
            refine Jvm.RoadKit.acmp (g := (mkF m 288 #[.val (.long q0), .second, .val (.int p1), .val (.int p2), .val (.int p3), .val (.int p4), .val (.long life), .second, .val (.int p8), .val (.ref se), .val (.ref ob), .val (.int kk), .val (.int (0 : Int32)), .val (.int (0 : Int32)), .val (.long (1 : Int64)), .second, .val (.ref zD), .val (.long ((1 : Int64) + (1 : Int64))), .second, .val (.ref zC)] [(.ref zC), (.ref zC)])) X42 hx rfl rfl rfl (pc0 := 288) (pc' := 291) (same := true) rfl (hb hby at_288) rfl (decide_eq_true rfl) (by decide) (by decide) ?_
            show Steps p.tables e below (T42.setTop (mkF m 291 #[.val (.long q0), .second, .val (.int p1), .val (.int p2), .val (.int p3), .val (.int p4), .val (.long life), .second, .val (.int p8), .val (.ref se), .val (.ref ob), .val (.int kk), .val (.int (0 : Int32)), .val (.int (0 : Int32)), .val (.long (1 : Int64)), .second, .val (.ref zD), .val (.long ((1 : Int64) + (1 : Int64))), .second, .val (.ref zC)] [])) _
            refine XS.iconst X42.here hx rfl (hb hby at_291) ?_
            show Steps p.tables e below (T42.setTop (mkF m 292 #[.val (.long q0), .second, .val (.int p1), .val (.int p2), .val (.int p3), .val (.int p4), .val (.long life), .second, .val (.int p8), .val (.ref se), .val (.ref ob), .val (.int kk), .val (.int (0 : Int32)), .val (.int (0 : Int32)), .val (.long (1 : Int64)), .second, .val (.ref zD), .val (.long ((1 : Int64) + (1 : Int64))), .second, .val (.ref zC)] [(.int (1 : Int32))])) _
            refine XS.goto X42.here hx rfl (pc0 := 292) (pc' := 296) rfl (hb hby at_292) (by decide) (by decide) ?_
            exact kt
          exact Go.retN X42 hx hlk hrt (z' := (1 : Int32)) (by simp) (hb hby at_296) rfl (by decide) (by decide) (by exact ⟨rfl, N42⟩)
      · refine Go.pre (st' := T2.setTop (mkF m 222 #[.val (.long q0), .second, .val (.int p1), .val (.int p2), .val (.int p3), .val (.int p4), .val (.long life), .second, .val (.int p8), .val (.ref se), .val (.ref ob), .val (.int kk), .val (.int (0 : Int32)), .val (.int (0 : Int32)), .val (.long (1 : Int64)), .second, .unset, .unset, .unset, .unset] [])) (fun target kt => ?_) ?_
        · show Steps p.tables e below (T2.setTop (mkF m 219 #[.val (.long q0), .second, .val (.int p1), .val (.int p2), .val (.int p3), .val (.int p4), .val (.long life), .second, .val (.int p8), .val (.ref se), .val (.ref ob), .val (.int kk), .val (.int (0 : Int32)), .val (.int (0 : Int32)), .val (.long (1 : Int64)), .second, .unset, .unset, .unset, .unset] [(.int (lcmpW (1 : Int64) life))])) _
          refine XS.ifNo X2.here hx rfl (hb hby at_219) rfl ((if0 _ _).trans (flt (fun q => h219_6 ((lw_lt _ _).mp q))).1) ?_
          exact kt
        have Y54 : Old Z n0 T1.heap := (Ol.keep K1 (allS (by omega) all0))
        obtain ⟨T55, X55, e55, st55⟩ := getS2 X2 hx hZ hown (host := "") (Or.inl (hw _ (List.mem_of_getElem? (i := 194) rfl))) Via.refl e2 (S_CLOSE.ext Y54.2) (g := (mkF m 222 #[.val (.long q0), .second, .val (.int p1), .val (.int p2), .val (.int p3), .val (.int p4), .val (.long life), .second, .val (.int p8), .val (.ref se), .val (.ref ob), .val (.int kk), .val (.int (0 : Int32)), .val (.int (0 : Int32)), .val (.long (1 : Int64)), .second, .unset, .unset, .unset, .unset] [])) rfl (hb hby at_222)
        refine Go.pre st55 ?_
        show Go p e below s _ _ _ (T55.setTop (mkF m 225 #[.val (.long q0), .second, .val (.int p1), .val (.int p2), .val (.int p3), .val (.int p4), .val (.long life), .second, .val (.int p8), .val (.ref se), .val (.ref ob), .val (.int kk), .val (.int (0 : Int32)), .val (.int (0 : Int32)), .val (.long (1 : Int64)), .second, .unset, .unset, .unset, .unset] [(.ref zC)]))
        refine Go.pre (st' := T55.setTop (mkF m 253 #[.val (.long q0), .second, .val (.int p1), .val (.int p2), .val (.int p3), .val (.int p4), .val (.long life), .second, .val (.int p8), .val (.ref se), .val (.ref ob), .val (.int kk), .val (.int (0 : Int32)), .val (.int (0 : Int32)), .val (.long (1 : Int64)), .second, .val (.ref zC), .val (.long ((1 : Int64) + (1 : Int64))), .second, .unset] [(.int (lcmpW ((1 : Int64) + (1 : Int64)) life))])) (fun target kt => ?_) ?_
        · show Steps p.tables e below (T55.setTop (mkF m 225 #[.val (.long q0), .second, .val (.int p1), .val (.int p2), .val (.int p3), .val (.int p4), .val (.long life), .second, .val (.int p8), .val (.ref se), .val (.ref ob), .val (.int kk), .val (.int (0 : Int32)), .val (.int (0 : Int32)), .val (.long (1 : Int64)), .second, .unset, .unset, .unset, .unset] [(.ref zC)])) _
          refine XS.goto X55.here hx rfl (pc0 := 225) (pc' := 231) rfl (hb hby at_225) (by decide) (by decide) ?_
          show Steps p.tables e below (T55.setTop (mkF m 231 #[.val (.long q0), .second, .val (.int p1), .val (.int p2), .val (.int p3), .val (.int p4), .val (.long life), .second, .val (.int p8), .val (.ref se), .val (.ref ob), .val (.int kk), .val (.int (0 : Int32)), .val (.int (0 : Int32)), .val (.long (1 : Int64)), .second, .unset, .unset, .unset, .unset] [(.ref zC)])) _
          refine XS.astore X55.here hx rfl (hb hby at_231) rfl rfl (l' := #[.val (.long q0), .second, .val (.int p1), .val (.int p2), .val (.int p3), .val (.int p4), .val (.long life), .second, .val (.int p8), .val (.ref se), .val (.ref ob), .val (.int kk), .val (.int (0 : Int32)), .val (.int (0 : Int32)), .val (.long (1 : Int64)), .second, .val (.ref zC), .unset, .unset, .unset]) rfl ?_
          show Steps p.tables e below (T55.setTop (mkF m 233 #[.val (.long q0), .second, .val (.int p1), .val (.int p2), .val (.int p3), .val (.int p4), .val (.long life), .second, .val (.int p8), .val (.ref se), .val (.ref ob), .val (.int kk), .val (.int (0 : Int32)), .val (.int (0 : Int32)), .val (.long (1 : Int64)), .second, .val (.ref zC), .unset, .unset, .unset] [])) _
          refine XS.iload X55.here hx rfl (hb hby at_233) rfl ?_
          show Steps p.tables e below (T55.setTop (mkF m 235 #[.val (.long q0), .second, .val (.int p1), .val (.int p2), .val (.int p3), .val (.int p4), .val (.long life), .second, .val (.int p8), .val (.ref se), .val (.ref ob), .val (.int kk), .val (.int (0 : Int32)), .val (.int (0 : Int32)), .val (.long (1 : Int64)), .second, .val (.ref zC), .unset, .unset, .unset] [(.int (0 : Int32))])) _
          refine XS.ifYes X55.here hx rfl (pc0 := 235) (pc' := 242) rfl (hb hby at_235) rfl ((if0 _ _).trans (teq (by decide)).1) (by decide) (by decide) ?_
          show Steps p.tables e below (T55.setTop (mkF m 242 #[.val (.long q0), .second, .val (.int p1), .val (.int p2), .val (.int p3), .val (.int p4), .val (.long life), .second, .val (.int p8), .val (.ref se), .val (.ref ob), .val (.int kk), .val (.int (0 : Int32)), .val (.int (0 : Int32)), .val (.long (1 : Int64)), .second, .val (.ref zC), .unset, .unset, .unset] [])) _
          refine XS.lload X55.here hx rfl (hb hby at_242) rfl ?_
          show Steps p.tables e below (T55.setTop (mkF m 244 #[.val (.long q0), .second, .val (.int p1), .val (.int p2), .val (.int p3), .val (.int p4), .val (.long life), .second, .val (.int p8), .val (.ref se), .val (.ref ob), .val (.int kk), .val (.int (0 : Int32)), .val (.int (0 : Int32)), .val (.long (1 : Int64)), .second, .val (.ref zC), .unset, .unset, .unset] [(.long (1 : Int64))])) _
          refine XS.lconst X55.here hx rfl (hb hby at_244) ?_
          show Steps p.tables e below (T55.setTop (mkF m 245 #[.val (.long q0), .second, .val (.int p1), .val (.int p2), .val (.int p3), .val (.int p4), .val (.long life), .second, .val (.int p8), .val (.ref se), .val (.ref ob), .val (.int kk), .val (.int (0 : Int32)), .val (.int (0 : Int32)), .val (.long (1 : Int64)), .second, .val (.ref zC), .unset, .unset, .unset] [(.long (1 : Int64)), (.long (1 : Int64))])) _
          refine XS.ladd X55.here hx rfl (hb hby at_245) rfl ?_
          show Steps p.tables e below (T55.setTop (mkF m 246 #[.val (.long q0), .second, .val (.int p1), .val (.int p2), .val (.int p3), .val (.int p4), .val (.long life), .second, .val (.int p8), .val (.ref se), .val (.ref ob), .val (.int kk), .val (.int (0 : Int32)), .val (.int (0 : Int32)), .val (.long (1 : Int64)), .second, .val (.ref zC), .unset, .unset, .unset] [(.long ((1 : Int64) + (1 : Int64)))])) _
          refine XS.lstore X55.here hx rfl (hb hby at_246) rfl (l' := #[.val (.long q0), .second, .val (.int p1), .val (.int p2), .val (.int p3), .val (.int p4), .val (.long life), .second, .val (.int p8), .val (.ref se), .val (.ref ob), .val (.int kk), .val (.int (0 : Int32)), .val (.int (0 : Int32)), .val (.long (1 : Int64)), .second, .val (.ref zC), .val (.long ((1 : Int64) + (1 : Int64))), .second, .unset]) rfl ?_
          show Steps p.tables e below (T55.setTop (mkF m 248 #[.val (.long q0), .second, .val (.int p1), .val (.int p2), .val (.int p3), .val (.int p4), .val (.long life), .second, .val (.int p8), .val (.ref se), .val (.ref ob), .val (.int kk), .val (.int (0 : Int32)), .val (.int (0 : Int32)), .val (.long (1 : Int64)), .second, .val (.ref zC), .val (.long ((1 : Int64) + (1 : Int64))), .second, .unset] [])) _
          refine XS.lload X55.here hx rfl (hb hby at_248) rfl ?_
          show Steps p.tables e below (T55.setTop (mkF m 250 #[.val (.long q0), .second, .val (.int p1), .val (.int p2), .val (.int p3), .val (.int p4), .val (.long life), .second, .val (.int p8), .val (.ref se), .val (.ref ob), .val (.int kk), .val (.int (0 : Int32)), .val (.int (0 : Int32)), .val (.long (1 : Int64)), .second, .val (.ref zC), .val (.long ((1 : Int64) + (1 : Int64))), .second, .unset] [(.long ((1 : Int64) + (1 : Int64)))])) _
          refine XS.lload X55.here hx rfl (hb hby at_250) rfl ?_
          show Steps p.tables e below (T55.setTop (mkF m 252 #[.val (.long q0), .second, .val (.int p1), .val (.int p2), .val (.int p3), .val (.int p4), .val (.long life), .second, .val (.int p8), .val (.ref se), .val (.ref ob), .val (.int kk), .val (.int (0 : Int32)), .val (.int (0 : Int32)), .val (.long (1 : Int64)), .second, .val (.ref zC), .val (.long ((1 : Int64) + (1 : Int64))), .second, .unset] [(.long life), (.long ((1 : Int64) + (1 : Int64)))])) _
          refine XS.lcmp X55.here hx rfl (hb hby at_252) rfl ?_
          exact kt
        by_cases h253_56 : ((1 : Int64) + (1 : Int64)) < life
        · refine Go.pre (st' := T55.setTop (mkF m 262 #[.val (.long q0), .second, .val (.int p1), .val (.int p2), .val (.int p3), .val (.int p4), .val (.long life), .second, .val (.int p8), .val (.ref se), .val (.ref ob), .val (.int kk), .val (.int (0 : Int32)), .val (.int (0 : Int32)), .val (.long (1 : Int64)), .second, .val (.ref zC), .val (.long ((1 : Int64) + (1 : Int64))), .second, .unset] [])) (fun target kt => ?_) ?_
          · show Steps p.tables e below (T55.setTop (mkF m 253 #[.val (.long q0), .second, .val (.int p1), .val (.int p2), .val (.int p3), .val (.int p4), .val (.long life), .second, .val (.int p8), .val (.ref se), .val (.ref ob), .val (.int kk), .val (.int (0 : Int32)), .val (.int (0 : Int32)), .val (.long (1 : Int64)), .second, .val (.ref zC), .val (.long ((1 : Int64) + (1 : Int64))), .second, .unset] [(.int (lcmpW ((1 : Int64) + (1 : Int64)) life))])) _
            refine XS.ifYes X55.here hx rfl (pc0 := 253) (pc' := 262) rfl (hb hby at_253) rfl ((if0 _ _).trans (tlt ((lw_lt _ _).mpr h253_56)).1) (by decide) (by decide) ?_
            exact kt
          obtain ⟨T57, X57, e57, st57⟩ := getS2 X55 hx hZ hown (host := "") (Or.inl (hw _ (List.mem_of_getElem? (i := 155) rfl))) Via.refl e55 (S_DUE.ext Y54.2) (g := (mkF m 262 #[.val (.long q0), .second, .val (.int p1), .val (.int p2), .val (.int p3), .val (.int p4), .val (.long life), .second, .val (.int p8), .val (.ref se), .val (.ref ob), .val (.int kk), .val (.int (0 : Int32)), .val (.int (0 : Int32)), .val (.long (1 : Int64)), .second, .val (.ref zC), .val (.long ((1 : Int64) + (1 : Int64))), .second, .unset] [])) rfl (hb hby at_262)
          refine Go.pre st57 ?_
          show Go p e below s _ _ _ (T57.setTop (mkF m 265 #[.val (.long q0), .second, .val (.int p1), .val (.int p2), .val (.int p3), .val (.int p4), .val (.long life), .second, .val (.int p8), .val (.ref se), .val (.ref ob), .val (.int kk), .val (.int (0 : Int32)), .val (.int (0 : Int32)), .val (.long (1 : Int64)), .second, .val (.ref zC), .val (.long ((1 : Int64) + (1 : Int64))), .second, .unset] [(.ref zD)]))
          refine Go.pre (st' := T57.setTop (mkF m 271 #[.val (.long q0), .second, .val (.int p1), .val (.int p2), .val (.int p3), .val (.int p4), .val (.long life), .second, .val (.int p8), .val (.ref se), .val (.ref ob), .val (.int kk), .val (.int (0 : Int32)), .val (.int (0 : Int32)), .val (.long (1 : Int64)), .second, .val (.ref zC), .val (.long ((1 : Int64) + (1 : Int64))), .second, .val (.ref zD)] [(.int (0 : Int32)), (.ref ob)])) (fun target kt => ?_) ?_
          · show Steps p.tables e below (T57.setTop (mkF m 265 #[.val (.long q0), .second, .val (.int p1), .val (.int p2), .val (.int p3), .val (.int p4), .val (.long life), .second, .val (.int p8), .val (.ref se), .val (.ref ob), .val (.int kk), .val (.int (0 : Int32)), .val (.int (0 : Int32)), .val (.long (1 : Int64)), .second, .val (.ref zC), .val (.long ((1 : Int64) + (1 : Int64))), .second, .unset] [(.ref zD)])) _
            refine XS.astore X57.here hx rfl (hb hby at_265) rfl rfl (l' := #[.val (.long q0), .second, .val (.int p1), .val (.int p2), .val (.int p3), .val (.int p4), .val (.long life), .second, .val (.int p8), .val (.ref se), .val (.ref ob), .val (.int kk), .val (.int (0 : Int32)), .val (.int (0 : Int32)), .val (.long (1 : Int64)), .second, .val (.ref zC), .val (.long ((1 : Int64) + (1 : Int64))), .second, .val (.ref zD)]) rfl ?_
            show Steps p.tables e below (T57.setTop (mkF m 267 #[.val (.long q0), .second, .val (.int p1), .val (.int p2), .val (.int p3), .val (.int p4), .val (.long life), .second, .val (.int p8), .val (.ref se), .val (.ref ob), .val (.int kk), .val (.int (0 : Int32)), .val (.int (0 : Int32)), .val (.long (1 : Int64)), .second, .val (.ref zC), .val (.long ((1 : Int64) + (1 : Int64))), .second, .val (.ref zD)] [])) _
            refine XS.aload X57.here hx rfl (hb hby at_267) rfl rfl ?_
            show Steps p.tables e below (T57.setTop (mkF m 269 #[.val (.long q0), .second, .val (.int p1), .val (.int p2), .val (.int p3), .val (.int p4), .val (.long life), .second, .val (.int p8), .val (.ref se), .val (.ref ob), .val (.int kk), .val (.int (0 : Int32)), .val (.int (0 : Int32)), .val (.long (1 : Int64)), .second, .val (.ref zC), .val (.long ((1 : Int64) + (1 : Int64))), .second, .val (.ref zD)] [(.ref ob)])) _
            refine XS.iload X57.here hx rfl (hb hby at_269) rfl ?_
            exact kt
          have Y59 : Fld Z T1.heap ob "com/example/pulsekeep/pulsekeep/core/Subscription" "settings" "Lcom/example/pulsekeep/pulsekeep/core/SubscriptionSettings;" (.ref se) := (KF1 _ _ _ _ _ F_settings (pallS (Or.inr (slot_ne (Or.inl (hw _ (List.mem_of_getElem? (i := 114) rfl))) (Or.inl (hw _ (List.mem_of_getElem? (i := 130) rfl))) (by decide) (t := (.object "com/example/pulsekeep/pulsekeep/core/SubscriptionSettings")) (t' := .boolean) (by decide) (by decide))) (pallS (Or.inr (slot_ne (Or.inl (hw _ (List.mem_of_getElem? (i := 114) rfl))) (Or.inl (hw _ (List.mem_of_getElem? (i := 139) rfl))) (by decide) (t := (.object "com/example/pulsekeep/pulsekeep/core/SubscriptionSettings")) (t' := .boolean) (by decide) (by decide))) (pallS (Or.inr (slot_ne (Or.inl (hw _ (List.mem_of_getElem? (i := 114) rfl))) (Or.inl (hw _ (List.mem_of_getElem? (i := 149) rfl))) (by decide) (t := (.object "com/example/pulsekeep/pulsekeep/core/SubscriptionSettings")) (t' := .long) (by decide) (by decide))) (pallS (Or.inr (slot_ne (Or.inl (hw _ (List.mem_of_getElem? (i := 114) rfl))) (Or.inl (hw _ (List.mem_of_getElem? (i := 132) rfl))) (by decide) (t := (.object "com/example/pulsekeep/pulsekeep/core/SubscriptionSettings")) (t' := .long) (by decide) (by decide))) pall0)))))
          have Y60 : Fld Z T1.heap ob "com/example/pulsekeep/pulsekeep/core/Subscription" "items" "Ljava/util/List;" (.ref il) := (KF1 _ _ _ _ _ F_items (pallS (Or.inr (slot_ne (Or.inr (hw _ (List.mem_of_getElem? (i := 88) rfl))) (Or.inl (hw _ (List.mem_of_getElem? (i := 130) rfl))) (by decide) (t := (.object "java/util/List")) (t' := .boolean) (by decide) (by decide))) (pallS (Or.inr (slot_ne (Or.inr (hw _ (List.mem_of_getElem? (i := 88) rfl))) (Or.inl (hw _ (List.mem_of_getElem? (i := 139) rfl))) (by decide) (t := (.object "java/util/List")) (t' := .boolean) (by decide) (by decide))) (pallS (Or.inr (slot_ne (Or.inr (hw _ (List.mem_of_getElem? (i := 88) rfl))) (Or.inl (hw _ (List.mem_of_getElem? (i := 149) rfl))) (by decide) (t := (.object "java/util/List")) (t' := .long) (by decide) (by decide))) (pallS (Or.inr (slot_ne (Or.inr (hw _ (List.mem_of_getElem? (i := 88) rfl))) (Or.inl (hw _ (List.mem_of_getElem? (i := 132) rfl))) (by decide) (t := (.object "java/util/List")) (t' := .long) (by decide) (by decide))) pall0)))))
          have Y61 : Exa Z T1.heap se "com/example/pulsekeep/pulsekeep/core/SubscriptionSettings" := (E_se.keep K1)
          have Y62 : Fld Z T1.heap se "com/example/pulsekeep/pulsekeep/core/SubscriptionSettings" "publishingEnabled" "Z" (.int en) := (F_en.keep K1 (ninS (ne_exa E_se E_o (by decide)) nin0))
          have Y63 : Exa Z T1.heap il "java/util/ArrayList" := (E_il.keep K1)
          have Y64 : Fld Z T1.heap il "java/util/AbstractList" "modCount" "I" (.int mc) := (F_mc.keep K1 (ninS (ne_exa E_il E_o (by decide)) nin0))
          have Y65 : Fld Z T1.heap il "java/util/ArrayList" "size" "I" (.int (0 : Int32)) := (F_size.keep K1 (ninS (ne_exa E_il E_o (by decide)) nin0))
          have Y66 : Fld Z T1.heap se "com/example/pulsekeep/pulsekeep/core/SubscriptionSettings" "lifetimeCount" "J" (.long life) := (F_life.keep K1 (ninS (ne_exa E_se E_o (by decide)) nin0))
          obtain ⟨cq58, kq58, q58a, q58b, q58c⟩ := isOf hZ e57 Y3
          obtain ⟨_, _, ⟨T58, L58, k58, n58⟩, -, X58, ⟨Lc58, hQ58, l58, y58, z58⟩, st58⟩ := X57.virtualBack hx (y := (⟨"com/example/pulsekeep/pulsekeep/core/Subscription", "endCycle", "(Z)Lcom/example/pulsekeep/pulsekeep/core/Subscription$CycleEnd;"⟩ : MethodName)) (z := (⟨"com/example/pulsekeep/pulsekeep/core/Subscription", "endCycle", "(Z)Lcom/example/pulsekeep/pulsekeep/core/Subscription$CycleEnd;"⟩ : MethodName)) hown (mvT hZ (hw _ (List.mem_of_getElem? (i := 115) rfl))) (mvT hZ (hw _ (List.mem_of_getElem? (i := 116) rfl))) (notFace_of_selects (args := #[]) (mvT hZ (hw _ (List.mem_of_getElem? (i := 118) rfl)))) (mvT hZ (hw _ (List.mem_of_getElem? (i := 118) rfl))) (mvT hZ (hw _ (List.mem_of_getElem? (i := 117) rfl))) (by decide) (backOf (W := 0) (rm11 l Z a0 hw [] ob (0 : Int32) se il en mc life (0 : Int64) (0 : Int32) zD zC T1.heap n0 (by omega) Y3 Y59 Y60 Y61 Y62 Y63 Y64 Y65 Y66 Y1_0 Y1_3 Y1_1 S_DUE S_CLOSE Y54 (by omega)) hZ (hw _ (List.mem_of_getElem? (i := 119) rfl)) (hw _ (List.mem_of_getElem? (i := 29) rfl)) (by decide) (by decide)) q58a q58c (g := (mkF m 271 #[.val (.long q0), .second, .val (.int p1), .val (.int p2), .val (.int p3), .val (.int p4), .val (.long life), .second, .val (.int p8), .val (.ref se), .val (.ref ob), .val (.int kk), .val (.int (0 : Int32)), .val (.int (0 : Int32)), .val (.long (1 : Int64)), .second, .val (.ref zC), .val (.long ((1 : Int64) + (1 : Int64))), .second, .val (.ref zD)] [(.int (0 : Int32)), (.ref ob)])) rfl (by rw [hml]; rfl) (Steps.refl _) (argsL := [(.int (0 : Int32))]) (rest := []) (lenOf pd159_2 rfl) rfl (by show 2 * 0 + _ ≤ _; exact Nat.le_of_eq rfl) (hb hby at_271) (fun vm₁ hvm => ⟨rfl, e57, (by decide : 15 + 1 ≤ _), (by decide : 112 + 4 ≤ _)⟩)
          dsimp only [Pt.U, Pt.locs, Pt.cells, Pt.slots] at X58 l58 y58 z58 st58 hQ58
          subst l58 y58 z58
          obtain ⟨rfl, N58q, K58, KF58, Fc58, Fd58⟩ := hQ58
          have sz58 : T1.heap.size ≤ T58.heap.size := K58.1
          have N58 := Fr.app N2 N58q
          refine Go.trans st58 ?_
          show Go p e below s _ _ _ (T58.setTop (mkF m 274 #[.val (.long q0), .second, .val (.int p1), .val (.int p2), .val (.int p3), .val (.int p4), .val (.long life), .second, .val (.int p8), .val (.ref se), .val (.ref ob), .val (.int kk), .val (.int (0 : Int32)), .val (.int (0 : Int32)), .val (.long (1 : Int64)), .second, .val (.ref zC), .val (.long ((1 : Int64) + (1 : Int64))), .second, .val (.ref zD)] [(.ref (own_end life (own_nc (0 : Int32) (0 : Int64)) zD zC))]))
          rw [show own_end life (own_nc (0 : Int32) (0 : Int64)) zD zC = zC from by rw [own_end, show (own_nc (0 : Int32) (0 : Int64)) = (1 : Int64) from by decide, if_neg h219_6]]
          refine Go.pre (st' := T58.setTop (mkF m 283 #[.val (.long q0), .second, .val (.int p1), .val (.int p2), .val (.int p3), .val (.int p4), .val (.long life), .second, .val (.int p8), .val (.ref se), .val (.ref ob), .val (.int kk), .val (.int (0 : Int32)), .val (.int (0 : Int32)), .val (.long (1 : Int64)), .second, .val (.ref zC), .val (.long ((1 : Int64) + (1 : Int64))), .second, .val (.ref zD)] [(.int (0 : Int32)), (.ref ob)])) (fun target kt => ?_) ?_
          · show Steps p.tables e below (T58.setTop (mkF m 274 #[.val (.long q0), .second, .val (.int p1), .val (.int p2), .val (.int p3), .val (.int p4), .val (.long life), .second, .val (.int p8), .val (.ref se), .val (.ref ob), .val (.int kk), .val (.int (0 : Int32)), .val (.int (0 : Int32)), .val (.long (1 : Int64)), .second, .val (.ref zC), .val (.long ((1 : Int64) + (1 : Int64))), .second, .val (.ref zD)] [(.ref zC)])) _
            refine XS.aload X58.here hx rfl (hb hby at_274) rfl rfl ?_
            show Steps p.tables e below (T58.setTop (mkF m 276 #[.val (.long q0), .second, .val (.int p1), .val (.int p2), .val (.int p3), .val (.int p4), .val (.long life), .second, .val (.int p8), .val (.ref se), .val (.ref ob), .val (.int kk), .val (.int (0 : Int32)), .val (.int (0 : Int32)), .val (.long (1 : Int64)), .second, .val (.ref zC), .val (.long ((1 : Int64) + (1 : Int64))), .second, .val (.ref zD)] [(.ref zC), (.ref zC)])) _
            refine Jvm.RoadKit.acmp (g := (mkF m 276 #[.val (.long q0), .second, .val (.int p1), .val (.int p2), .val (.int p3), .val (.int p4), .val (.long life), .second, .val (.int p8), .val (.ref se), .val (.ref ob), .val (.int kk), .val (.int (0 : Int32)), .val (.int (0 : Int32)), .val (.long (1 : Int64)), .second, .val (.ref zC), .val (.long ((1 : Int64) + (1 : Int64))), .second, .val (.ref zD)] [(.ref zC), (.ref zC)])) X58 hx rfl rfl rfl (pc0 := 276) (pc' := 279) (same := true) rfl (hb hby at_276) rfl (decide_eq_true rfl) (by decide) (by decide) ?_
            show Steps p.tables e below (T58.setTop (mkF m 279 #[.val (.long q0), .second, .val (.int p1), .val (.int p2), .val (.int p3), .val (.int p4), .val (.long life), .second, .val (.int p8), .val (.ref se), .val (.ref ob), .val (.int kk), .val (.int (0 : Int32)), .val (.int (0 : Int32)), .val (.long (1 : Int64)), .second, .val (.ref zC), .val (.long ((1 : Int64) + (1 : Int64))), .second, .val (.ref zD)] [])) _
            refine XS.aload X58.here hx rfl (hb hby at_279) rfl rfl ?_
            show Steps p.tables e below (T58.setTop (mkF m 281 #[.val (.long q0), .second, .val (.int p1), .val (.int p2), .val (.int p3), .val (.int p4), .val (.long life), .second, .val (.int p8), .val (.ref se), .val (.ref ob), .val (.int kk), .val (.int (0 : Int32)), .val (.int (0 : Int32)), .val (.long (1 : Int64)), .second, .val (.ref zC), .val (.long ((1 : Int64) + (1 : Int64))), .second, .val (.ref zD)] [(.ref ob)])) _
            refine XS.iload X58.here hx rfl (hb hby at_281) rfl ?_
            exact kt
          have Y68 : Exa Z T58.heap ob "com/example/pulsekeep/pulsekeep/core/Subscription" := (Y3.keep K58)
          have Y69 : Fld Z T58.heap ob "com/example/pulsekeep/pulsekeep/core/Subscription" "settings" "Lcom/example/pulsekeep/pulsekeep/core/SubscriptionSettings;" (.ref se) := (KF58 _ _ _ _ _ Y59 (pallS (Or.inr (slot_ne (Or.inl (hw _ (List.mem_of_getElem? (i := 114) rfl))) (Or.inl (hw _ (List.mem_of_getElem? (i := 132) rfl))) (by decide) (t := (.object "com/example/pulsekeep/pulsekeep/core/SubscriptionSettings")) (t' := .long) (by decide) (by decide))) (pallS (Or.inr (slot_ne (Or.inl (hw _ (List.mem_of_getElem? (i := 114) rfl))) (Or.inl (hw _ (List.mem_of_getElem? (i := 139) rfl))) (by decide) (t := (.object "com/example/pulsekeep/pulsekeep/core/SubscriptionSettings")) (t' := .boolean) (by decide) (by decide))) pall0)))
          have Y70 : Fld Z T58.heap ob "com/example/pulsekeep/pulsekeep/core/Subscription" "items" "Ljava/util/List;" (.ref il) := (KF58 _ _ _ _ _ Y60 (pallS (Or.inr (slot_ne (Or.inr (hw _ (List.mem_of_getElem? (i := 88) rfl))) (Or.inl (hw _ (List.mem_of_getElem? (i := 132) rfl))) (by decide) (t := (.object "java/util/List")) (t' := .long) (by decide) (by decide))) (pallS (Or.inr (slot_ne (Or.inr (hw _ (List.mem_of_getElem? (i := 88) rfl))) (Or.inl (hw _ (List.mem_of_getElem? (i := 139) rfl))) (by decide) (t := (.object "java/util/List")) (t' := .boolean) (by decide) (by decide))) pall0)))
          have Y71 : Exa Z T58.heap se "com/example/pulsekeep/pulsekeep/core/SubscriptionSettings" := (Y61.keep K58)
          have Y72 : Fld Z T58.heap se "com/example/pulsekeep/pulsekeep/core/SubscriptionSettings" "publishingEnabled" "Z" (.int en) := (Y62.keep K58 (ninS (ne_exa E_se E_o (by decide)) nin0))
          have Y73 : Exa Z T58.heap il "java/util/ArrayList" := (Y63.keep K58)
          have Y74 : Fld Z T58.heap il "java/util/AbstractList" "modCount" "I" (.int mc) := (Y64.keep K58 (ninS (ne_exa E_il E_o (by decide)) nin0))
          have Y75 : Fld Z T58.heap il "java/util/ArrayList" "size" "I" (.int (0 : Int32)) := (Y65.keep K58 (ninS (ne_exa E_il E_o (by decide)) nin0))
          have Y76 : Fld Z T58.heap se "com/example/pulsekeep/pulsekeep/core/SubscriptionSettings" "lifetimeCount" "J" (.long life) := (Y66.keep K58 (ninS (ne_exa E_se E_o (by decide)) nin0))
          have Y77 : Fld Z T58.heap ob "com/example/pulsekeep/pulsekeep/core/Subscription" "messageSent" "Z" (.int (0 : Int32)) := (KF58 _ _ _ _ _ Y1_0 (pallS (Or.inr (slot_ne (Or.inl (hw _ (List.mem_of_getElem? (i := 130) rfl))) (Or.inl (hw _ (List.mem_of_getElem? (i := 132) rfl))) (by decide) (t := .boolean) (t' := .long) (by decide) (by decide))) (pallS (Or.inr (slot_ne (Or.inl (hw _ (List.mem_of_getElem? (i := 130) rfl))) (Or.inl (hw _ (List.mem_of_getElem? (i := 139) rfl))) (by decide) (t := .boolean) (t' := .boolean) (by decide) (by decide))) pall0)))
          have Y78 : Old Z n0 T58.heap := (Y54.keep K58 (allS (by omega) all0))
          obtain ⟨cq67, kq67, q67a, q67b, q67c⟩ := isOf hZ rfl Y68
          obtain ⟨_, _, ⟨T67, L67, k67, n67⟩, -, X67, ⟨Lc67, hQ67, l67, y67, z67⟩, st67⟩ := X58.virtualBack hx (y := (⟨"com/example/pulsekeep/pulsekeep/core/Subscription", "endCycle", "(Z)Lcom/example/pulsekeep/pulsekeep/core/Subscription$CycleEnd;"⟩ : MethodName)) (z := (⟨"com/example/pulsekeep/pulsekeep/core/Subscription", "endCycle", "(Z)Lcom/example/pulsekeep/pulsekeep/core/Subscription$CycleEnd;"⟩ : MethodName)) hown (mvT hZ (hw _ (List.mem_of_getElem? (i := 115) rfl))) (mvT hZ (hw _ (List.mem_of_getElem? (i := 116) rfl))) (notFace_of_selects (args := #[]) (mvT hZ (hw _ (List.mem_of_getElem? (i := 118) rfl)))) (mvT hZ (hw _ (List.mem_of_getElem? (i := 118) rfl))) (mvT hZ (hw _ (List.mem_of_getElem? (i := 117) rfl))) (by decide) (backOf (W := 0) (rm11 l Z a0 hw [] ob (0 : Int32) se il en mc life (own_nc (0 : Int32) (0 : Int64)) (own_due life (own_nc (0 : Int32) (0 : Int64)) (0 : Int32)) zD zC T58.heap n0 (by omega) Y68 Y69 Y70 Y71 Y72 Y73 Y74 Y75 Y76 Y77 Fc58 Fd58 S_DUE S_CLOSE Y78 (by omega)) hZ (hw _ (List.mem_of_getElem? (i := 119) rfl)) (hw _ (List.mem_of_getElem? (i := 29) rfl)) (by decide) (by decide)) q67a q67c (g := (mkF m 283 #[.val (.long q0), .second, .val (.int p1), .val (.int p2), .val (.int p3), .val (.int p4), .val (.long life), .second, .val (.int p8), .val (.ref se), .val (.ref ob), .val (.int kk), .val (.int (0 : Int32)), .val (.int (0 : Int32)), .val (.long (1 : Int64)), .second, .val (.ref zC), .val (.long ((1 : Int64) + (1 : Int64))), .second, .val (.ref zD)] [(.int (0 : Int32)), (.ref ob)])) rfl (by rw [hml]; rfl) (Steps.refl _) (argsL := [(.int (0 : Int32))]) (rest := []) (lenOf pd159_2 rfl) rfl (by show 2 * 0 + _ ≤ _; exact Nat.le_of_eq rfl) (hb hby at_283) (fun vm₁ hvm => ⟨rfl, rfl, (by decide : 16 + 1 ≤ _), (by decide : 116 + 4 ≤ _)⟩)
          dsimp only [Pt.U, Pt.locs, Pt.cells, Pt.slots] at X67 l67 y67 z67 st67 hQ67
          subst l67 y67 z67
          obtain ⟨rfl, N67q, K67, KF67, Fc67, Fd67⟩ := hQ67
          have sz67 : T58.heap.size ≤ T67.heap.size := K67.1
          have N67 := Fr.app N58 N67q
          refine Go.trans st67 ?_
          show Go p e below s _ _ _ (T67.setTop (mkF m 286 #[.val (.long q0), .second, .val (.int p1), .val (.int p2), .val (.int p3), .val (.int p4), .val (.long life), .second, .val (.int p8), .val (.ref se), .val (.ref ob), .val (.int kk), .val (.int (0 : Int32)), .val (.int (0 : Int32)), .val (.long (1 : Int64)), .second, .val (.ref zC), .val (.long ((1 : Int64) + (1 : Int64))), .second, .val (.ref zD)] [(.ref (own_end life (own_nc (0 : Int32) (own_nc (0 : Int32) (0 : Int64))) zD zC))]))
          rw [show own_end life (own_nc (0 : Int32) (own_nc (0 : Int32) (0 : Int64))) zD zC = zD from by rw [own_end, show (own_nc (0 : Int32) (own_nc (0 : Int32) (0 : Int64))) = ((1 : Int64) + (1 : Int64)) from by decide, if_pos h253_56]]
          refine Go.pre (st' := T67.setTop (mkF m 296 #[.val (.long q0), .second, .val (.int p1), .val (.int p2), .val (.int p3), .val (.int p4), .val (.long life), .second, .val (.int p8), .val (.ref se), .val (.ref ob), .val (.int kk), .val (.int (0 : Int32)), .val (.int (0 : Int32)), .val (.long (1 : Int64)), .second, .val (.ref zC), .val (.long ((1 : Int64) + (1 : Int64))), .second, .val (.ref zD)] [(.int (1 : Int32))])) (fun target kt => ?_) ?_
          · show Steps p.tables e below (T67.setTop (mkF m 286 #[.val (.long q0), .second, .val (.int p1), .val (.int p2), .val (.int p3), .val (.int p4), .val (.long life), .second, .val (.int p8), .val (.ref se), .val (.ref ob), .val (.int kk), .val (.int (0 : Int32)), .val (.int (0 : Int32)), .val (.long (1 : Int64)), .second, .val (.ref zC), .val (.long ((1 : Int64) + (1 : Int64))), .second, .val (.ref zD)] [(.ref zD)])) _
            refine XS.aload X67.here hx rfl (hb hby at_286) rfl rfl ?_
            show Steps p.tables e below (T67.setTop (mkF m 288 #[.val (.long q0), .second, .val (.int p1), .val (.int p2), .val (.int p3), .val (.int p4), .val (.long life), .second, .val (.int p8), .val (.ref se), .val (.ref ob), .val (.int kk), .val (.int (0 : Int32)), .val (.int (0 : Int32)), .val (.long (1 : Int64)), .second, .val (.ref zC), .val (.long ((1 : Int64) + (1 : Int64))), .second, .val (.ref zD)] [(.ref zD), (.ref zD)])) _
            refine Jvm.RoadKit.acmp (g := (mkF m 288 #[.val (.long q0), .second, .val (.int p1), .val (.int p2), .val (.int p3), .val (.int p4), .val (.long life), .second, .val (.int p8), .val (.ref se), .val (.ref ob), .val (.int kk), .val (.int (0 : Int32)), .val (.int (0 : Int32)), .val (.long (1 : Int64)), .second, .val (.ref zC), .val (.long ((1 : Int64) + (1 : Int64))), .second, .val (.ref zD)] [(.ref zD), (.ref zD)])) X67 hx rfl rfl rfl (pc0 := 288) (pc' := 291) (same := true) rfl (hb hby at_288) rfl (decide_eq_true rfl) (by decide) (by decide) ?_
            show Steps p.tables e below (T67.setTop (mkF m 291 #[.val (.long q0), .second, .val (.int p1), .val (.int p2), .val (.int p3), .val (.int p4), .val (.long life), .second, .val (.int p8), .val (.ref se), .val (.ref ob), .val (.int kk), .val (.int (0 : Int32)), .val (.int (0 : Int32)), .val (.long (1 : Int64)), .second, .val (.ref zC), .val (.long ((1 : Int64) + (1 : Int64))), .second, .val (.ref zD)] [])) _
            refine XS.iconst X67.here hx rfl (hb hby at_291) ?_
            show Steps p.tables e below (T67.setTop (mkF m 292 #[.val (.long q0), .second, .val (.int p1), .val (.int p2), .val (.int p3), .val (.int p4), .val (.long life), .second, .val (.int p8), .val (.ref se), .val (.ref ob), .val (.int kk), .val (.int (0 : Int32)), .val (.int (0 : Int32)), .val (.long (1 : Int64)), .second, .val (.ref zC), .val (.long ((1 : Int64) + (1 : Int64))), .second, .val (.ref zD)] [(.int (1 : Int32))])) _
            refine XS.goto X67.here hx rfl (pc0 := 292) (pc' := 296) rfl (hb hby at_292) (by decide) (by decide) ?_
            exact kt
          exact Go.retN X67 hx hlk hrt (z' := (1 : Int32)) (by simp) (hb hby at_296) rfl (by decide) (by decide) (by exact ⟨rfl, N67⟩)
        · refine Go.pre (st' := T55.setTop (mkF m 256 #[.val (.long q0), .second, .val (.int p1), .val (.int p2), .val (.int p3), .val (.int p4), .val (.long life), .second, .val (.int p8), .val (.ref se), .val (.ref ob), .val (.int kk), .val (.int (0 : Int32)), .val (.int (0 : Int32)), .val (.long (1 : Int64)), .second, .val (.ref zC), .val (.long ((1 : Int64) + (1 : Int64))), .second, .unset] [])) (fun target kt => ?_) ?_
          · show Steps p.tables e below (T55.setTop (mkF m 253 #[.val (.long q0), .second, .val (.int p1), .val (.int p2), .val (.int p3), .val (.int p4), .val (.long life), .second, .val (.int p8), .val (.ref se), .val (.ref ob), .val (.int kk), .val (.int (0 : Int32)), .val (.int (0 : Int32)), .val (.long (1 : Int64)), .second, .val (.ref zC), .val (.long ((1 : Int64) + (1 : Int64))), .second, .unset] [(.int (lcmpW ((1 : Int64) + (1 : Int64)) life))])) _
            refine XS.ifNo X55.here hx rfl (hb hby at_253) rfl ((if0 _ _).trans (flt (fun q => h253_56 ((lw_lt _ _).mp q))).1) ?_
            exact kt
          obtain ⟨T79, X79, e79, st79⟩ := getS2 X55 hx hZ hown (host := "") (Or.inl (hw _ (List.mem_of_getElem? (i := 194) rfl))) Via.refl e55 (S_CLOSE.ext Y54.2) (g := (mkF m 256 #[.val (.long q0), .second, .val (.int p1), .val (.int p2), .val (.int p3), .val (.int p4), .val (.long life), .second, .val (.int p8), .val (.ref se), .val (.ref ob), .val (.int kk), .val (.int (0 : Int32)), .val (.int (0 : Int32)), .val (.long (1 : Int64)), .second, .val (.ref zC), .val (.long ((1 : Int64) + (1 : Int64))), .second, .unset] [])) rfl (hb hby at_256)
          refine Go.pre st79 ?_
          show Go p e below s _ _ _ (T79.setTop (mkF m 259 #[.val (.long q0), .second, .val (.int p1), .val (.int p2), .val (.int p3), .val (.int p4), .val (.long life), .second, .val (.int p8), .val (.ref se), .val (.ref ob), .val (.int kk), .val (.int (0 : Int32)), .val (.int (0 : Int32)), .val (.long (1 : Int64)), .second, .val (.ref zC), .val (.long ((1 : Int64) + (1 : Int64))), .second, .unset] [(.ref zC)]))
          refine Go.pre (st' := T79.setTop (mkF m 271 #[.val (.long q0), .second, .val (.int p1), .val (.int p2), .val (.int p3), .val (.int p4), .val (.long life), .second, .val (.int p8), .val (.ref se), .val (.ref ob), .val (.int kk), .val (.int (0 : Int32)), .val (.int (0 : Int32)), .val (.long (1 : Int64)), .second, .val (.ref zC), .val (.long ((1 : Int64) + (1 : Int64))), .second, .val (.ref zC)] [(.int (0 : Int32)), (.ref ob)])) (fun target kt => ?_) ?_
          · show Steps p.tables e below (T79.setTop (mkF m 259 #[.val (.long q0), .second, .val (.int p1), .val (.int p2), .val (.int p3), .val (.int p4), .val (.long life), .second, .val (.int p8), .val (.ref se), .val (.ref ob), .val (.int kk), .val (.int (0 : Int32)), .val (.int (0 : Int32)), .val (.long (1 : Int64)), .second, .val (.ref zC), .val (.long ((1 : Int64) + (1 : Int64))), .second, .unset] [(.ref zC)])) _
            refine XS.goto X79.here hx rfl (pc0 := 259) (pc' := 265) rfl (hb hby at_259) (by decide) (by decide) ?_
            show Steps p.tables e below (T79.setTop (mkF m 265 #[.val (.long q0), .second, .val (.int p1), .val (.int p2), .val (.int p3), .val (.int p4), .val (.long life), .second, .val (.int p8), .val (.ref se), .val (.ref ob), .val (.int kk), .val (.int (0 : Int32)), .val (.int (0 : Int32)), .val (.long (1 : Int64)), .second, .val (.ref zC), .val (.long ((1 : Int64) + (1 : Int64))), .second, .unset] [(.ref zC)])) _
            refine XS.astore X79.here hx rfl (hb hby at_265) rfl rfl (l' := #[.val (.long q0), .second, .val (.int p1), .val (.int p2), .val (.int p3), .val (.int p4), .val (.long life), .second, .val (.int p8), .val (.ref se), .val (.ref ob), .val (.int kk), .val (.int (0 : Int32)), .val (.int (0 : Int32)), .val (.long (1 : Int64)), .second, .val (.ref zC), .val (.long ((1 : Int64) + (1 : Int64))), .second, .val (.ref zC)]) rfl ?_
            show Steps p.tables e below (T79.setTop (mkF m 267 #[.val (.long q0), .second, .val (.int p1), .val (.int p2), .val (.int p3), .val (.int p4), .val (.long life), .second, .val (.int p8), .val (.ref se), .val (.ref ob), .val (.int kk), .val (.int (0 : Int32)), .val (.int (0 : Int32)), .val (.long (1 : Int64)), .second, .val (.ref zC), .val (.long ((1 : Int64) + (1 : Int64))), .second, .val (.ref zC)] [])) _
            refine XS.aload X79.here hx rfl (hb hby at_267) rfl rfl ?_
            show Steps p.tables e below (T79.setTop (mkF m 269 #[.val (.long q0), .second, .val (.int p1), .val (.int p2), .val (.int p3), .val (.int p4), .val (.long life), .second, .val (.int p8), .val (.ref se), .val (.ref ob), .val (.int kk), .val (.int (0 : Int32)), .val (.int (0 : Int32)), .val (.long (1 : Int64)), .second, .val (.ref zC), .val (.long ((1 : Int64) + (1 : Int64))), .second, .val (.ref zC)] [(.ref ob)])) _
            refine XS.iload X79.here hx rfl (hb hby at_269) rfl ?_
            exact kt
          have Y81 : Fld Z T1.heap ob "com/example/pulsekeep/pulsekeep/core/Subscription" "settings" "Lcom/example/pulsekeep/pulsekeep/core/SubscriptionSettings;" (.ref se) := (KF1 _ _ _ _ _ F_settings (pallS (Or.inr (slot_ne (Or.inl (hw _ (List.mem_of_getElem? (i := 114) rfl))) (Or.inl (hw _ (List.mem_of_getElem? (i := 130) rfl))) (by decide) (t := (.object "com/example/pulsekeep/pulsekeep/core/SubscriptionSettings")) (t' := .boolean) (by decide) (by decide))) (pallS (Or.inr (slot_ne (Or.inl (hw _ (List.mem_of_getElem? (i := 114) rfl))) (Or.inl (hw _ (List.mem_of_getElem? (i := 139) rfl))) (by decide) (t := (.object "com/example/pulsekeep/pulsekeep/core/SubscriptionSettings")) (t' := .boolean) (by decide) (by decide))) (pallS (Or.inr (slot_ne (Or.inl (hw _ (List.mem_of_getElem? (i := 114) rfl))) (Or.inl (hw _ (List.mem_of_getElem? (i := 149) rfl))) (by decide) (t := (.object "com/example/pulsekeep/pulsekeep/core/SubscriptionSettings")) (t' := .long) (by decide) (by decide))) (pallS (Or.inr (slot_ne (Or.inl (hw _ (List.mem_of_getElem? (i := 114) rfl))) (Or.inl (hw _ (List.mem_of_getElem? (i := 132) rfl))) (by decide) (t := (.object "com/example/pulsekeep/pulsekeep/core/SubscriptionSettings")) (t' := .long) (by decide) (by decide))) pall0)))))
          have Y82 : Fld Z T1.heap ob "com/example/pulsekeep/pulsekeep/core/Subscription" "items" "Ljava/util/List;" (.ref il) := (KF1 _ _ _ _ _ F_items (pallS (Or.inr (slot_ne (Or.inr (hw _ (List.mem_of_getElem? (i := 88) rfl))) (Or.inl (hw _ (List.mem_of_getElem? (i := 130) rfl))) (by decide) (t := (.object "java/util/List")) (t' := .boolean) (by decide) (by decide))) (pallS (Or.inr (slot_ne (Or.inr (hw _ (List.mem_of_getElem? (i := 88) rfl))) (Or.inl (hw _ (List.mem_of_getElem? (i := 139) rfl))) (by decide) (t := (.object "java/util/List")) (t' := .boolean) (by decide) (by decide))) (pallS (Or.inr (slot_ne (Or.inr (hw _ (List.mem_of_getElem? (i := 88) rfl))) (Or.inl (hw _ (List.mem_of_getElem? (i := 149) rfl))) (by decide) (t := (.object "java/util/List")) (t' := .long) (by decide) (by decide))) (pallS (Or.inr (slot_ne (Or.inr (hw _ (List.mem_of_getElem? (i := 88) rfl))) (Or.inl (hw _ (List.mem_of_getElem? (i := 132) rfl))) (by decide) (t := (.object "java/util/List")) (t' := .long) (by decide) (by decide))) pall0)))))
          have Y83 : Exa Z T1.heap se "com/example/pulsekeep/pulsekeep/core/SubscriptionSettings" := (E_se.keep K1)
          have Y84 : Fld Z T1.heap se "com/example/pulsekeep/pulsekeep/core/SubscriptionSettings" "publishingEnabled" "Z" (.int en) := (F_en.keep K1 (ninS (ne_exa E_se E_o (by decide)) nin0))
          have Y85 : Exa Z T1.heap il "java/util/ArrayList" := (E_il.keep K1)
          have Y86 : Fld Z T1.heap il "java/util/AbstractList" "modCount" "I" (.int mc) := (F_mc.keep K1 (ninS (ne_exa E_il E_o (by decide)) nin0))
          have Y87 : Fld Z T1.heap il "java/util/ArrayList" "size" "I" (.int (0 : Int32)) := (F_size.keep K1 (ninS (ne_exa E_il E_o (by decide)) nin0))
          have Y88 : Fld Z T1.heap se "com/example/pulsekeep/pulsekeep/core/SubscriptionSettings" "lifetimeCount" "J" (.long life) := (F_life.keep K1 (ninS (ne_exa E_se E_o (by decide)) nin0))
          obtain ⟨cq80, kq80, q80a, q80b, q80c⟩ := isOf hZ e79 Y3
          obtain ⟨_, _, ⟨T80, L80, k80, n80⟩, -, X80, ⟨Lc80, hQ80, l80, y80, z80⟩, st80⟩ := X79.virtualBack hx (y := (⟨"com/example/pulsekeep/pulsekeep/core/Subscription", "endCycle", "(Z)Lcom/example/pulsekeep/pulsekeep/core/Subscription$CycleEnd;"⟩ : MethodName)) (z := (⟨"com/example/pulsekeep/pulsekeep/core/Subscription", "endCycle", "(Z)Lcom/example/pulsekeep/pulsekeep/core/Subscription$CycleEnd;"⟩ : MethodName)) hown (mvT hZ (hw _ (List.mem_of_getElem? (i := 115) rfl))) (mvT hZ (hw _ (List.mem_of_getElem? (i := 116) rfl))) (notFace_of_selects (args := #[]) (mvT hZ (hw _ (List.mem_of_getElem? (i := 118) rfl)))) (mvT hZ (hw _ (List.mem_of_getElem? (i := 118) rfl))) (mvT hZ (hw _ (List.mem_of_getElem? (i := 117) rfl))) (by decide) (backOf (W := 0) (rm11 l Z a0 hw [] ob (0 : Int32) se il en mc life (0 : Int64) (0 : Int32) zD zC T1.heap n0 (by omega) Y3 Y81 Y82 Y83 Y84 Y85 Y86 Y87 Y88 Y1_0 Y1_3 Y1_1 S_DUE S_CLOSE Y54 (by omega)) hZ (hw _ (List.mem_of_getElem? (i := 119) rfl)) (hw _ (List.mem_of_getElem? (i := 29) rfl)) (by decide) (by decide)) q80a q80c (g := (mkF m 271 #[.val (.long q0), .second, .val (.int p1), .val (.int p2), .val (.int p3), .val (.int p4), .val (.long life), .second, .val (.int p8), .val (.ref se), .val (.ref ob), .val (.int kk), .val (.int (0 : Int32)), .val (.int (0 : Int32)), .val (.long (1 : Int64)), .second, .val (.ref zC), .val (.long ((1 : Int64) + (1 : Int64))), .second, .val (.ref zC)] [(.int (0 : Int32)), (.ref ob)])) rfl (by rw [hml]; rfl) (Steps.refl _) (argsL := [(.int (0 : Int32))]) (rest := []) (lenOf pd159_2 rfl) rfl (by show 2 * 0 + _ ≤ _; exact Nat.le_of_eq rfl) (hb hby at_271) (fun vm₁ hvm => ⟨rfl, e79, (by decide : 15 + 1 ≤ _), (by decide : 112 + 4 ≤ _)⟩)
          dsimp only [Pt.U, Pt.locs, Pt.cells, Pt.slots] at X80 l80 y80 z80 st80 hQ80
          subst l80 y80 z80
          obtain ⟨rfl, N80q, K80, KF80, Fc80, Fd80⟩ := hQ80
          have sz80 : T1.heap.size ≤ T80.heap.size := K80.1
          have N80 := Fr.app N2 N80q
          refine Go.trans st80 ?_
          show Go p e below s _ _ _ (T80.setTop (mkF m 274 #[.val (.long q0), .second, .val (.int p1), .val (.int p2), .val (.int p3), .val (.int p4), .val (.long life), .second, .val (.int p8), .val (.ref se), .val (.ref ob), .val (.int kk), .val (.int (0 : Int32)), .val (.int (0 : Int32)), .val (.long (1 : Int64)), .second, .val (.ref zC), .val (.long ((1 : Int64) + (1 : Int64))), .second, .val (.ref zC)] [(.ref (own_end life (own_nc (0 : Int32) (0 : Int64)) zD zC))]))
          rw [show own_end life (own_nc (0 : Int32) (0 : Int64)) zD zC = zC from by rw [own_end, show (own_nc (0 : Int32) (0 : Int64)) = (1 : Int64) from by decide, if_neg h219_6]]
          refine Go.pre (st' := T80.setTop (mkF m 283 #[.val (.long q0), .second, .val (.int p1), .val (.int p2), .val (.int p3), .val (.int p4), .val (.long life), .second, .val (.int p8), .val (.ref se), .val (.ref ob), .val (.int kk), .val (.int (0 : Int32)), .val (.int (0 : Int32)), .val (.long (1 : Int64)), .second, .val (.ref zC), .val (.long ((1 : Int64) + (1 : Int64))), .second, .val (.ref zC)] [(.int (0 : Int32)), (.ref ob)])) (fun target kt => ?_) ?_
          · show Steps p.tables e below (T80.setTop (mkF m 274 #[.val (.long q0), .second, .val (.int p1), .val (.int p2), .val (.int p3), .val (.int p4), .val (.long life), .second, .val (.int p8), .val (.ref se), .val (.ref ob), .val (.int kk), .val (.int (0 : Int32)), .val (.int (0 : Int32)), .val (.long (1 : Int64)), .second, .val (.ref zC), .val (.long ((1 : Int64) + (1 : Int64))), .second, .val (.ref zC)] [(.ref zC)])) _
            refine XS.aload X80.here hx rfl (hb hby at_274) rfl rfl ?_
            show Steps p.tables e below (T80.setTop (mkF m 276 #[.val (.long q0), .second, .val (.int p1), .val (.int p2), .val (.int p3), .val (.int p4), .val (.long life), .second, .val (.int p8), .val (.ref se), .val (.ref ob), .val (.int kk), .val (.int (0 : Int32)), .val (.int (0 : Int32)), .val (.long (1 : Int64)), .second, .val (.ref zC), .val (.long ((1 : Int64) + (1 : Int64))), .second, .val (.ref zC)] [(.ref zC), (.ref zC)])) _
            refine Jvm.RoadKit.acmp (g := (mkF m 276 #[.val (.long q0), .second, .val (.int p1), .val (.int p2), .val (.int p3), .val (.int p4), .val (.long life), .second, .val (.int p8), .val (.ref se), .val (.ref ob), .val (.int kk), .val (.int (0 : Int32)), .val (.int (0 : Int32)), .val (.long (1 : Int64)), .second, .val (.ref zC), .val (.long ((1 : Int64) + (1 : Int64))), .second, .val (.ref zC)] [(.ref zC), (.ref zC)])) X80 hx rfl rfl rfl (pc0 := 276) (pc' := 279) (same := true) rfl (hb hby at_276) rfl (decide_eq_true rfl) (by decide) (by decide) ?_
            show Steps p.tables e below (T80.setTop (mkF m 279 #[.val (.long q0), .second, .val (.int p1), .val (.int p2), .val (.int p3), .val (.int p4), .val (.long life), .second, .val (.int p8), .val (.ref se), .val (.ref ob), .val (.int kk), .val (.int (0 : Int32)), .val (.int (0 : Int32)), .val (.long (1 : Int64)), .second, .val (.ref zC), .val (.long ((1 : Int64) + (1 : Int64))), .second, .val (.ref zC)] [])) _
            refine XS.aload X80.here hx rfl (hb hby at_279) rfl rfl ?_
            show Steps p.tables e below (T80.setTop (mkF m 281 #[.val (.long q0), .second, .val (.int p1), .val (.int p2), .val (.int p3), .val (.int p4), .val (.long life), .second, .val (.int p8), .val (.ref se), .val (.ref ob), .val (.int kk), .val (.int (0 : Int32)), .val (.int (0 : Int32)), .val (.long (1 : Int64)), .second, .val (.ref zC), .val (.long ((1 : Int64) + (1 : Int64))), .second, .val (.ref zC)] [(.ref ob)])) _
            refine XS.iload X80.here hx rfl (hb hby at_281) rfl ?_
            exact kt
          have Y90 : Exa Z T80.heap ob "com/example/pulsekeep/pulsekeep/core/Subscription" := (Y3.keep K80)
          have Y91 : Fld Z T80.heap ob "com/example/pulsekeep/pulsekeep/core/Subscription" "settings" "Lcom/example/pulsekeep/pulsekeep/core/SubscriptionSettings;" (.ref se) := (KF80 _ _ _ _ _ Y81 (pallS (Or.inr (slot_ne (Or.inl (hw _ (List.mem_of_getElem? (i := 114) rfl))) (Or.inl (hw _ (List.mem_of_getElem? (i := 132) rfl))) (by decide) (t := (.object "com/example/pulsekeep/pulsekeep/core/SubscriptionSettings")) (t' := .long) (by decide) (by decide))) (pallS (Or.inr (slot_ne (Or.inl (hw _ (List.mem_of_getElem? (i := 114) rfl))) (Or.inl (hw _ (List.mem_of_getElem? (i := 139) rfl))) (by decide) (t := (.object "com/example/pulsekeep/pulsekeep/core/SubscriptionSettings")) (t' := .boolean) (by decide) (by decide))) pall0)))
          have Y92 : Fld Z T80.heap ob "com/example/pulsekeep/pulsekeep/core/Subscription" "items" "Ljava/util/List;" (.ref il) := (KF80 _ _ _ _ _ Y82 (pallS (Or.inr (slot_ne (Or.inr (hw _ (List.mem_of_getElem? (i := 88) rfl))) (Or.inl (hw _ (List.mem_of_getElem? (i := 132) rfl))) (by decide) (t := (.object "java/util/List")) (t' := .long) (by decide) (by decide))) (pallS (Or.inr (slot_ne (Or.inr (hw _ (List.mem_of_getElem? (i := 88) rfl))) (Or.inl (hw _ (List.mem_of_getElem? (i := 139) rfl))) (by decide) (t := (.object "java/util/List")) (t' := .boolean) (by decide) (by decide))) pall0)))
          have Y93 : Exa Z T80.heap se "com/example/pulsekeep/pulsekeep/core/SubscriptionSettings" := (Y83.keep K80)
          have Y94 : Fld Z T80.heap se "com/example/pulsekeep/pulsekeep/core/SubscriptionSettings" "publishingEnabled" "Z" (.int en) := (Y84.keep K80 (ninS (ne_exa E_se E_o (by decide)) nin0))
          have Y95 : Exa Z T80.heap il "java/util/ArrayList" := (Y85.keep K80)
          have Y96 : Fld Z T80.heap il "java/util/AbstractList" "modCount" "I" (.int mc) := (Y86.keep K80 (ninS (ne_exa E_il E_o (by decide)) nin0))
          have Y97 : Fld Z T80.heap il "java/util/ArrayList" "size" "I" (.int (0 : Int32)) := (Y87.keep K80 (ninS (ne_exa E_il E_o (by decide)) nin0))
          have Y98 : Fld Z T80.heap se "com/example/pulsekeep/pulsekeep/core/SubscriptionSettings" "lifetimeCount" "J" (.long life) := (Y88.keep K80 (ninS (ne_exa E_se E_o (by decide)) nin0))
          have Y99 : Fld Z T80.heap ob "com/example/pulsekeep/pulsekeep/core/Subscription" "messageSent" "Z" (.int (0 : Int32)) := (KF80 _ _ _ _ _ Y1_0 (pallS (Or.inr (slot_ne (Or.inl (hw _ (List.mem_of_getElem? (i := 130) rfl))) (Or.inl (hw _ (List.mem_of_getElem? (i := 132) rfl))) (by decide) (t := .boolean) (t' := .long) (by decide) (by decide))) (pallS (Or.inr (slot_ne (Or.inl (hw _ (List.mem_of_getElem? (i := 130) rfl))) (Or.inl (hw _ (List.mem_of_getElem? (i := 139) rfl))) (by decide) (t := .boolean) (t' := .boolean) (by decide) (by decide))) pall0)))
          have Y100 : Old Z n0 T80.heap := (Y54.keep K80 (allS (by omega) all0))
          obtain ⟨cq89, kq89, q89a, q89b, q89c⟩ := isOf hZ rfl Y90
          obtain ⟨_, _, ⟨T89, L89, k89, n89⟩, -, X89, ⟨Lc89, hQ89, l89, y89, z89⟩, st89⟩ := X80.virtualBack hx (y := (⟨"com/example/pulsekeep/pulsekeep/core/Subscription", "endCycle", "(Z)Lcom/example/pulsekeep/pulsekeep/core/Subscription$CycleEnd;"⟩ : MethodName)) (z := (⟨"com/example/pulsekeep/pulsekeep/core/Subscription", "endCycle", "(Z)Lcom/example/pulsekeep/pulsekeep/core/Subscription$CycleEnd;"⟩ : MethodName)) hown (mvT hZ (hw _ (List.mem_of_getElem? (i := 115) rfl))) (mvT hZ (hw _ (List.mem_of_getElem? (i := 116) rfl))) (notFace_of_selects (args := #[]) (mvT hZ (hw _ (List.mem_of_getElem? (i := 118) rfl)))) (mvT hZ (hw _ (List.mem_of_getElem? (i := 118) rfl))) (mvT hZ (hw _ (List.mem_of_getElem? (i := 117) rfl))) (by decide) (backOf (W := 0) (rm11 l Z a0 hw [] ob (0 : Int32) se il en mc life (own_nc (0 : Int32) (0 : Int64)) (own_due life (own_nc (0 : Int32) (0 : Int64)) (0 : Int32)) zD zC T80.heap n0 (by omega) Y90 Y91 Y92 Y93 Y94 Y95 Y96 Y97 Y98 Y99 Fc80 Fd80 S_DUE S_CLOSE Y100 (by omega)) hZ (hw _ (List.mem_of_getElem? (i := 119) rfl)) (hw _ (List.mem_of_getElem? (i := 29) rfl)) (by decide) (by decide)) q89a q89c (g := (mkF m 283 #[.val (.long q0), .second, .val (.int p1), .val (.int p2), .val (.int p3), .val (.int p4), .val (.long life), .second, .val (.int p8), .val (.ref se), .val (.ref ob), .val (.int kk), .val (.int (0 : Int32)), .val (.int (0 : Int32)), .val (.long (1 : Int64)), .second, .val (.ref zC), .val (.long ((1 : Int64) + (1 : Int64))), .second, .val (.ref zC)] [(.int (0 : Int32)), (.ref ob)])) rfl (by rw [hml]; rfl) (Steps.refl _) (argsL := [(.int (0 : Int32))]) (rest := []) (lenOf pd159_2 rfl) rfl (by show 2 * 0 + _ ≤ _; exact Nat.le_of_eq rfl) (hb hby at_283) (fun vm₁ hvm => ⟨rfl, rfl, (by decide : 16 + 1 ≤ _), (by decide : 116 + 4 ≤ _)⟩)
          dsimp only [Pt.U, Pt.locs, Pt.cells, Pt.slots] at X89 l89 y89 z89 st89 hQ89
          subst l89 y89 z89
          obtain ⟨rfl, N89q, K89, KF89, Fc89, Fd89⟩ := hQ89
          have sz89 : T80.heap.size ≤ T89.heap.size := K89.1
          have N89 := Fr.app N80 N89q
          refine Go.trans st89 ?_
          show Go p e below s _ _ _ (T89.setTop (mkF m 286 #[.val (.long q0), .second, .val (.int p1), .val (.int p2), .val (.int p3), .val (.int p4), .val (.long life), .second, .val (.int p8), .val (.ref se), .val (.ref ob), .val (.int kk), .val (.int (0 : Int32)), .val (.int (0 : Int32)), .val (.long (1 : Int64)), .second, .val (.ref zC), .val (.long ((1 : Int64) + (1 : Int64))), .second, .val (.ref zC)] [(.ref (own_end life (own_nc (0 : Int32) (own_nc (0 : Int32) (0 : Int64))) zD zC))]))
          rw [show own_end life (own_nc (0 : Int32) (own_nc (0 : Int32) (0 : Int64))) zD zC = zC from by rw [own_end, show (own_nc (0 : Int32) (own_nc (0 : Int32) (0 : Int64))) = ((1 : Int64) + (1 : Int64)) from by decide, if_neg h253_56]]
          refine Go.pre (st' := T89.setTop (mkF m 296 #[.val (.long q0), .second, .val (.int p1), .val (.int p2), .val (.int p3), .val (.int p4), .val (.long life), .second, .val (.int p8), .val (.ref se), .val (.ref ob), .val (.int kk), .val (.int (0 : Int32)), .val (.int (0 : Int32)), .val (.long (1 : Int64)), .second, .val (.ref zC), .val (.long ((1 : Int64) + (1 : Int64))), .second, .val (.ref zC)] [(.int (1 : Int32))])) (fun target kt => ?_) ?_
          · show Steps p.tables e below (T89.setTop (mkF m 286 #[.val (.long q0), .second, .val (.int p1), .val (.int p2), .val (.int p3), .val (.int p4), .val (.long life), .second, .val (.int p8), .val (.ref se), .val (.ref ob), .val (.int kk), .val (.int (0 : Int32)), .val (.int (0 : Int32)), .val (.long (1 : Int64)), .second, .val (.ref zC), .val (.long ((1 : Int64) + (1 : Int64))), .second, .val (.ref zC)] [(.ref zC)])) _
            refine XS.aload X89.here hx rfl (hb hby at_286) rfl rfl ?_
            show Steps p.tables e below (T89.setTop (mkF m 288 #[.val (.long q0), .second, .val (.int p1), .val (.int p2), .val (.int p3), .val (.int p4), .val (.long life), .second, .val (.int p8), .val (.ref se), .val (.ref ob), .val (.int kk), .val (.int (0 : Int32)), .val (.int (0 : Int32)), .val (.long (1 : Int64)), .second, .val (.ref zC), .val (.long ((1 : Int64) + (1 : Int64))), .second, .val (.ref zC)] [(.ref zC), (.ref zC)])) _
            refine Jvm.RoadKit.acmp (g := (mkF m 288 #[.val (.long q0), .second, .val (.int p1), .val (.int p2), .val (.int p3), .val (.int p4), .val (.long life), .second, .val (.int p8), .val (.ref se), .val (.ref ob), .val (.int kk), .val (.int (0 : Int32)), .val (.int (0 : Int32)), .val (.long (1 : Int64)), .second, .val (.ref zC), .val (.long ((1 : Int64) + (1 : Int64))), .second, .val (.ref zC)] [(.ref zC), (.ref zC)])) X89 hx rfl rfl rfl (pc0 := 288) (pc' := 291) (same := true) rfl (hb hby at_288) rfl (decide_eq_true rfl) (by decide) (by decide) ?_
            show Steps p.tables e below (T89.setTop (mkF m 291 #[.val (.long q0), .second, .val (.int p1), .val (.int p2), .val (.int p3), .val (.int p4), .val (.long life), .second, .val (.int p8), .val (.ref se), .val (.ref ob), .val (.int kk), .val (.int (0 : Int32)), .val (.int (0 : Int32)), .val (.long (1 : Int64)), .second, .val (.ref zC), .val (.long ((1 : Int64) + (1 : Int64))), .second, .val (.ref zC)] [])) _
            refine XS.iconst X89.here hx rfl (hb hby at_291) ?_
            show Steps p.tables e below (T89.setTop (mkF m 292 #[.val (.long q0), .second, .val (.int p1), .val (.int p2), .val (.int p3), .val (.int p4), .val (.long life), .second, .val (.int p8), .val (.ref se), .val (.ref ob), .val (.int kk), .val (.int (0 : Int32)), .val (.int (0 : Int32)), .val (.long (1 : Int64)), .second, .val (.ref zC), .val (.long ((1 : Int64) + (1 : Int64))), .second, .val (.ref zC)] [(.int (1 : Int32))])) _
            refine XS.goto X89.here hx rfl (pc0 := 292) (pc' := 296) rfl (hb hby at_292) (by decide) (by decide) ?_
            exact kt
          exact Go.retN X89 hx hlk hrt (z' := (1 : Int32)) (by simp) (hb hby at_296) rfl (by decide) (by decide) (by exact ⟨rfl, N89⟩)
    · refine Go.pre (st' := T2.setTop (mkF m 195 #[.val (.long q0), .second, .val (.int p1), .val (.int p2), .val (.int p3), .val (.int p4), .val (.long life), .second, .val (.int p8), .val (.ref se), .val (.ref ob), .val (.int kk), .val (.int (0 : Int32)), .unset, .unset, .unset, .unset, .unset, .unset, .unset] [])) (fun target kt => ?_) ?_
      · show Steps p.tables e below (T2.setTop (mkF m 192 #[.val (.long q0), .second, .val (.int p1), .val (.int p2), .val (.int p3), .val (.int p4), .val (.long life), .second, .val (.int p8), .val (.ref se), .val (.ref ob), .val (.int kk), .val (.int (0 : Int32)), .unset, .unset, .unset, .unset, .unset, .unset, .unset] [(.int (p3 &&& (2 : Int32)))])) _
        refine XS.ifNo X2.here hx rfl (hb hby at_192) rfl ((if0 _ _).trans (feq h192_5).1) ?_
        exact kt
      refine Go.pre (st' := T2.setTop (mkF m 219 #[.val (.long q0), .second, .val (.int p1), .val (.int p2), .val (.int p3), .val (.int p4), .val (.long life), .second, .val (.int p8), .val (.ref se), .val (.ref ob), .val (.int kk), .val (.int (0 : Int32)), .val (.int (1 : Int32)), .val (.long (1 : Int64)), .second, .unset, .unset, .unset, .unset] [(.int (lcmpW (1 : Int64) life))])) (fun target kt => ?_) ?_
      · show Steps p.tables e below (T2.setTop (mkF m 195 #[.val (.long q0), .second, .val (.int p1), .val (.int p2), .val (.int p3), .val (.int p4), .val (.long life), .second, .val (.int p8), .val (.ref se), .val (.ref ob), .val (.int kk), .val (.int (0 : Int32)), .unset, .unset, .unset, .unset, .unset, .unset, .unset] [])) _
        refine XS.iconst X2.here hx rfl (hb hby at_195) ?_
        show Steps p.tables e below (T2.setTop (mkF m 196 #[.val (.long q0), .second, .val (.int p1), .val (.int p2), .val (.int p3), .val (.int p4), .val (.long life), .second, .val (.int p8), .val (.ref se), .val (.ref ob), .val (.int kk), .val (.int (0 : Int32)), .unset, .unset, .unset, .unset, .unset, .unset, .unset] [(.int (1 : Int32))])) _
        refine XS.goto X2.here hx rfl (pc0 := 196) (pc' := 200) rfl (hb hby at_196) (by decide) (by decide) ?_
        show Steps p.tables e below (T2.setTop (mkF m 200 #[.val (.long q0), .second, .val (.int p1), .val (.int p2), .val (.int p3), .val (.int p4), .val (.long life), .second, .val (.int p8), .val (.ref se), .val (.ref ob), .val (.int kk), .val (.int (0 : Int32)), .unset, .unset, .unset, .unset, .unset, .unset, .unset] [(.int (1 : Int32))])) _
        refine XS.istore X2.here hx rfl (hb hby at_200) rfl (l' := #[.val (.long q0), .second, .val (.int p1), .val (.int p2), .val (.int p3), .val (.int p4), .val (.long life), .second, .val (.int p8), .val (.ref se), .val (.ref ob), .val (.int kk), .val (.int (0 : Int32)), .val (.int (1 : Int32)), .unset, .unset, .unset, .unset, .unset, .unset]) rfl ?_
        show Steps p.tables e below (T2.setTop (mkF m 202 #[.val (.long q0), .second, .val (.int p1), .val (.int p2), .val (.int p3), .val (.int p4), .val (.long life), .second, .val (.int p8), .val (.ref se), .val (.ref ob), .val (.int kk), .val (.int (0 : Int32)), .val (.int (1 : Int32)), .unset, .unset, .unset, .unset, .unset, .unset] [])) _
        refine XS.iload X2.here hx rfl (hb hby at_202) rfl ?_
        show Steps p.tables e below (T2.setTop (mkF m 204 #[.val (.long q0), .second, .val (.int p1), .val (.int p2), .val (.int p3), .val (.int p4), .val (.long life), .second, .val (.int p8), .val (.ref se), .val (.ref ob), .val (.int kk), .val (.int (0 : Int32)), .val (.int (1 : Int32)), .unset, .unset, .unset, .unset, .unset, .unset] [(.int (0 : Int32))])) _
        refine XS.ifYes X2.here hx rfl (pc0 := 204) (pc' := 211) rfl (hb hby at_204) rfl ((if0 _ _).trans (teq (by decide)).1) (by decide) (by decide) ?_
        show Steps p.tables e below (T2.setTop (mkF m 211 #[.val (.long q0), .second, .val (.int p1), .val (.int p2), .val (.int p3), .val (.int p4), .val (.long life), .second, .val (.int p8), .val (.ref se), .val (.ref ob), .val (.int kk), .val (.int (0 : Int32)), .val (.int (1 : Int32)), .unset, .unset, .unset, .unset, .unset, .unset] [])) _
        refine XS.lconst X2.here hx rfl (hb hby at_211) ?_
        show Steps p.tables e below (T2.setTop (mkF m 212 #[.val (.long q0), .second, .val (.int p1), .val (.int p2), .val (.int p3), .val (.int p4), .val (.long life), .second, .val (.int p8), .val (.ref se), .val (.ref ob), .val (.int kk), .val (.int (0 : Int32)), .val (.int (1 : Int32)), .unset, .unset, .unset, .unset, .unset, .unset] [(.long (1 : Int64))])) _
        refine XS.lstore X2.here hx rfl (hb hby at_212) rfl (l' := #[.val (.long q0), .second, .val (.int p1), .val (.int p2), .val (.int p3), .val (.int p4), .val (.long life), .second, .val (.int p8), .val (.ref se), .val (.ref ob), .val (.int kk), .val (.int (0 : Int32)), .val (.int (1 : Int32)), .val (.long (1 : Int64)), .second, .unset, .unset, .unset, .unset]) rfl ?_
        show Steps p.tables e below (T2.setTop (mkF m 214 #[.val (.long q0), .second, .val (.int p1), .val (.int p2), .val (.int p3), .val (.int p4), .val (.long life), .second, .val (.int p8), .val (.ref se), .val (.ref ob), .val (.int kk), .val (.int (0 : Int32)), .val (.int (1 : Int32)), .val (.long (1 : Int64)), .second, .unset, .unset, .unset, .unset] [])) _
        refine XS.lload X2.here hx rfl (hb hby at_214) rfl ?_
        show Steps p.tables e below (T2.setTop (mkF m 216 #[.val (.long q0), .second, .val (.int p1), .val (.int p2), .val (.int p3), .val (.int p4), .val (.long life), .second, .val (.int p8), .val (.ref se), .val (.ref ob), .val (.int kk), .val (.int (0 : Int32)), .val (.int (1 : Int32)), .val (.long (1 : Int64)), .second, .unset, .unset, .unset, .unset] [(.long (1 : Int64))])) _
        refine XS.lload X2.here hx rfl (hb hby at_216) rfl ?_
        show Steps p.tables e below (T2.setTop (mkF m 218 #[.val (.long q0), .second, .val (.int p1), .val (.int p2), .val (.int p3), .val (.int p4), .val (.long life), .second, .val (.int p8), .val (.ref se), .val (.ref ob), .val (.int kk), .val (.int (0 : Int32)), .val (.int (1 : Int32)), .val (.long (1 : Int64)), .second, .unset, .unset, .unset, .unset] [(.long life), (.long (1 : Int64))])) _
        refine XS.lcmp X2.here hx rfl (hb hby at_218) rfl ?_
        exact kt
      by_cases h219_101 : (1 : Int64) < life
      · refine Go.pre (st' := T2.setTop (mkF m 228 #[.val (.long q0), .second, .val (.int p1), .val (.int p2), .val (.int p3), .val (.int p4), .val (.long life), .second, .val (.int p8), .val (.ref se), .val (.ref ob), .val (.int kk), .val (.int (0 : Int32)), .val (.int (1 : Int32)), .val (.long (1 : Int64)), .second, .unset, .unset, .unset, .unset] [])) (fun target kt => ?_) ?_
        · show Steps p.tables e below (T2.setTop (mkF m 219 #[.val (.long q0), .second, .val (.int p1), .val (.int p2), .val (.int p3), .val (.int p4), .val (.long life), .second, .val (.int p8), .val (.ref se), .val (.ref ob), .val (.int kk), .val (.int (0 : Int32)), .val (.int (1 : Int32)), .val (.long (1 : Int64)), .second, .unset, .unset, .unset, .unset] [(.int (lcmpW (1 : Int64) life))])) _
          refine XS.ifYes X2.here hx rfl (pc0 := 219) (pc' := 228) rfl (hb hby at_219) rfl ((if0 _ _).trans (tlt ((lw_lt _ _).mpr h219_101)).1) (by decide) (by decide) ?_
          exact kt
        have Y102 : Old Z n0 T1.heap := (Ol.keep K1 (allS (by omega) all0))
        obtain ⟨T103, X103, e103, st103⟩ := getS2 X2 hx hZ hown (host := "") (Or.inl (hw _ (List.mem_of_getElem? (i := 155) rfl))) Via.refl e2 (S_DUE.ext Y102.2) (g := (mkF m 228 #[.val (.long q0), .second, .val (.int p1), .val (.int p2), .val (.int p3), .val (.int p4), .val (.long life), .second, .val (.int p8), .val (.ref se), .val (.ref ob), .val (.int kk), .val (.int (0 : Int32)), .val (.int (1 : Int32)), .val (.long (1 : Int64)), .second, .unset, .unset, .unset, .unset] [])) rfl (hb hby at_228)
        refine Go.pre st103 ?_
        show Go p e below s _ _ _ (T103.setTop (mkF m 231 #[.val (.long q0), .second, .val (.int p1), .val (.int p2), .val (.int p3), .val (.int p4), .val (.long life), .second, .val (.int p8), .val (.ref se), .val (.ref ob), .val (.int kk), .val (.int (0 : Int32)), .val (.int (1 : Int32)), .val (.long (1 : Int64)), .second, .unset, .unset, .unset, .unset] [(.ref zD)]))
        refine Go.pre (st' := T103.setTop (mkF m 253 #[.val (.long q0), .second, .val (.int p1), .val (.int p2), .val (.int p3), .val (.int p4), .val (.long life), .second, .val (.int p8), .val (.ref se), .val (.ref ob), .val (.int kk), .val (.int (0 : Int32)), .val (.int (1 : Int32)), .val (.long (1 : Int64)), .second, .val (.ref zD), .val (.long (0 : Int64)), .second, .unset] [(.int (lcmpW (0 : Int64) life))])) (fun target kt => ?_) ?_
        · show Steps p.tables e below (T103.setTop (mkF m 231 #[.val (.long q0), .second, .val (.int p1), .val (.int p2), .val (.int p3), .val (.int p4), .val (.long life), .second, .val (.int p8), .val (.ref se), .val (.ref ob), .val (.int kk), .val (.int (0 : Int32)), .val (.int (1 : Int32)), .val (.long (1 : Int64)), .second, .unset, .unset, .unset, .unset] [(.ref zD)])) _
          refine XS.astore X103.here hx rfl (hb hby at_231) rfl rfl (l' := #[.val (.long q0), .second, .val (.int p1), .val (.int p2), .val (.int p3), .val (.int p4), .val (.long life), .second, .val (.int p8), .val (.ref se), .val (.ref ob), .val (.int kk), .val (.int (0 : Int32)), .val (.int (1 : Int32)), .val (.long (1 : Int64)), .second, .val (.ref zD), .unset, .unset, .unset]) rfl ?_
          show Steps p.tables e below (T103.setTop (mkF m 233 #[.val (.long q0), .second, .val (.int p1), .val (.int p2), .val (.int p3), .val (.int p4), .val (.long life), .second, .val (.int p8), .val (.ref se), .val (.ref ob), .val (.int kk), .val (.int (0 : Int32)), .val (.int (1 : Int32)), .val (.long (1 : Int64)), .second, .val (.ref zD), .unset, .unset, .unset] [])) _
          refine XS.iload X103.here hx rfl (hb hby at_233) rfl ?_
          show Steps p.tables e below (T103.setTop (mkF m 235 #[.val (.long q0), .second, .val (.int p1), .val (.int p2), .val (.int p3), .val (.int p4), .val (.long life), .second, .val (.int p8), .val (.ref se), .val (.ref ob), .val (.int kk), .val (.int (0 : Int32)), .val (.int (1 : Int32)), .val (.long (1 : Int64)), .second, .val (.ref zD), .unset, .unset, .unset] [(.int (1 : Int32))])) _
          refine XS.ifNo X103.here hx rfl (hb hby at_235) rfl ((if0 _ _).trans (feq (by decide)).1) ?_
          show Steps p.tables e below (T103.setTop (mkF m 238 #[.val (.long q0), .second, .val (.int p1), .val (.int p2), .val (.int p3), .val (.int p4), .val (.long life), .second, .val (.int p8), .val (.ref se), .val (.ref ob), .val (.int kk), .val (.int (0 : Int32)), .val (.int (1 : Int32)), .val (.long (1 : Int64)), .second, .val (.ref zD), .unset, .unset, .unset] [])) _
          refine XS.lconst X103.here hx rfl (hb hby at_238) ?_
          show Steps p.tables e below (T103.setTop (mkF m 239 #[.val (.long q0), .second, .val (.int p1), .val (.int p2), .val (.int p3), .val (.int p4), .val (.long life), .second, .val (.int p8), .val (.ref se), .val (.ref ob), .val (.int kk), .val (.int (0 : Int32)), .val (.int (1 : Int32)), .val (.long (1 : Int64)), .second, .val (.ref zD), .unset, .unset, .unset] [(.long (0 : Int64))])) _
          refine XS.goto X103.here hx rfl (pc0 := 239) (pc' := 246) rfl (hb hby at_239) (by decide) (by decide) ?_
          show Steps p.tables e below (T103.setTop (mkF m 246 #[.val (.long q0), .second, .val (.int p1), .val (.int p2), .val (.int p3), .val (.int p4), .val (.long life), .second, .val (.int p8), .val (.ref se), .val (.ref ob), .val (.int kk), .val (.int (0 : Int32)), .val (.int (1 : Int32)), .val (.long (1 : Int64)), .second, .val (.ref zD), .unset, .unset, .unset] [(.long (0 : Int64))])) _
          refine XS.lstore X103.here hx rfl (hb hby at_246) rfl (l' := #[.val (.long q0), .second, .val (.int p1), .val (.int p2), .val (.int p3), .val (.int p4), .val (.long life), .second, .val (.int p8), .val (.ref se), .val (.ref ob), .val (.int kk), .val (.int (0 : Int32)), .val (.int (1 : Int32)), .val (.long (1 : Int64)), .second, .val (.ref zD), .val (.long (0 : Int64)), .second, .unset]) rfl ?_
          show Steps p.tables e below (T103.setTop (mkF m 248 #[.val (.long q0), .second, .val (.int p1), .val (.int p2), .val (.int p3), .val (.int p4), .val (.long life), .second, .val (.int p8), .val (.ref se), .val (.ref ob), .val (.int kk), .val (.int (0 : Int32)), .val (.int (1 : Int32)), .val (.long (1 : Int64)), .second, .val (.ref zD), .val (.long (0 : Int64)), .second, .unset] [])) _
          refine XS.lload X103.here hx rfl (hb hby at_248) rfl ?_
          show Steps p.tables e below (T103.setTop (mkF m 250 #[.val (.long q0), .second, .val (.int p1), .val (.int p2), .val (.int p3), .val (.int p4), .val (.long life), .second, .val (.int p8), .val (.ref se), .val (.ref ob), .val (.int kk), .val (.int (0 : Int32)), .val (.int (1 : Int32)), .val (.long (1 : Int64)), .second, .val (.ref zD), .val (.long (0 : Int64)), .second, .unset] [(.long (0 : Int64))])) _
          refine XS.lload X103.here hx rfl (hb hby at_250) rfl ?_
          show Steps p.tables e below (T103.setTop (mkF m 252 #[.val (.long q0), .second, .val (.int p1), .val (.int p2), .val (.int p3), .val (.int p4), .val (.long life), .second, .val (.int p8), .val (.ref se), .val (.ref ob), .val (.int kk), .val (.int (0 : Int32)), .val (.int (1 : Int32)), .val (.long (1 : Int64)), .second, .val (.ref zD), .val (.long (0 : Int64)), .second, .unset] [(.long life), (.long (0 : Int64))])) _
          refine XS.lcmp X103.here hx rfl (hb hby at_252) rfl ?_
          exact kt
        by_cases h253_104 : (0 : Int64) < life
        · refine Go.pre (st' := T103.setTop (mkF m 262 #[.val (.long q0), .second, .val (.int p1), .val (.int p2), .val (.int p3), .val (.int p4), .val (.long life), .second, .val (.int p8), .val (.ref se), .val (.ref ob), .val (.int kk), .val (.int (0 : Int32)), .val (.int (1 : Int32)), .val (.long (1 : Int64)), .second, .val (.ref zD), .val (.long (0 : Int64)), .second, .unset] [])) (fun target kt => ?_) ?_
          · show Steps p.tables e below (T103.setTop (mkF m 253 #[.val (.long q0), .second, .val (.int p1), .val (.int p2), .val (.int p3), .val (.int p4), .val (.long life), .second, .val (.int p8), .val (.ref se), .val (.ref ob), .val (.int kk), .val (.int (0 : Int32)), .val (.int (1 : Int32)), .val (.long (1 : Int64)), .second, .val (.ref zD), .val (.long (0 : Int64)), .second, .unset] [(.int (lcmpW (0 : Int64) life))])) _
            refine XS.ifYes X103.here hx rfl (pc0 := 253) (pc' := 262) rfl (hb hby at_253) rfl ((if0 _ _).trans (tlt ((lw_lt _ _).mpr h253_104)).1) (by decide) (by decide) ?_
            exact kt
          obtain ⟨T105, X105, e105, st105⟩ := getS2 X103 hx hZ hown (host := "") (Or.inl (hw _ (List.mem_of_getElem? (i := 155) rfl))) Via.refl e103 (S_DUE.ext Y102.2) (g := (mkF m 262 #[.val (.long q0), .second, .val (.int p1), .val (.int p2), .val (.int p3), .val (.int p4), .val (.long life), .second, .val (.int p8), .val (.ref se), .val (.ref ob), .val (.int kk), .val (.int (0 : Int32)), .val (.int (1 : Int32)), .val (.long (1 : Int64)), .second, .val (.ref zD), .val (.long (0 : Int64)), .second, .unset] [])) rfl (hb hby at_262)
          refine Go.pre st105 ?_
          show Go p e below s _ _ _ (T105.setTop (mkF m 265 #[.val (.long q0), .second, .val (.int p1), .val (.int p2), .val (.int p3), .val (.int p4), .val (.long life), .second, .val (.int p8), .val (.ref se), .val (.ref ob), .val (.int kk), .val (.int (0 : Int32)), .val (.int (1 : Int32)), .val (.long (1 : Int64)), .second, .val (.ref zD), .val (.long (0 : Int64)), .second, .unset] [(.ref zD)]))
          refine Go.pre (st' := T105.setTop (mkF m 271 #[.val (.long q0), .second, .val (.int p1), .val (.int p2), .val (.int p3), .val (.int p4), .val (.long life), .second, .val (.int p8), .val (.ref se), .val (.ref ob), .val (.int kk), .val (.int (0 : Int32)), .val (.int (1 : Int32)), .val (.long (1 : Int64)), .second, .val (.ref zD), .val (.long (0 : Int64)), .second, .val (.ref zD)] [(.int (0 : Int32)), (.ref ob)])) (fun target kt => ?_) ?_
          · show Steps p.tables e below (T105.setTop (mkF m 265 #[.val (.long q0), .second, .val (.int p1), .val (.int p2), .val (.int p3), .val (.int p4), .val (.long life), .second, .val (.int p8), .val (.ref se), .val (.ref ob), .val (.int kk), .val (.int (0 : Int32)), .val (.int (1 : Int32)), .val (.long (1 : Int64)), .second, .val (.ref zD), .val (.long (0 : Int64)), .second, .unset] [(.ref zD)])) _
            refine XS.astore X105.here hx rfl (hb hby at_265) rfl rfl (l' := #[.val (.long q0), .second, .val (.int p1), .val (.int p2), .val (.int p3), .val (.int p4), .val (.long life), .second, .val (.int p8), .val (.ref se), .val (.ref ob), .val (.int kk), .val (.int (0 : Int32)), .val (.int (1 : Int32)), .val (.long (1 : Int64)), .second, .val (.ref zD), .val (.long (0 : Int64)), .second, .val (.ref zD)]) rfl ?_
            show Steps p.tables e below (T105.setTop (mkF m 267 #[.val (.long q0), .second, .val (.int p1), .val (.int p2), .val (.int p3), .val (.int p4), .val (.long life), .second, .val (.int p8), .val (.ref se), .val (.ref ob), .val (.int kk), .val (.int (0 : Int32)), .val (.int (1 : Int32)), .val (.long (1 : Int64)), .second, .val (.ref zD), .val (.long (0 : Int64)), .second, .val (.ref zD)] [])) _
            refine XS.aload X105.here hx rfl (hb hby at_267) rfl rfl ?_
            show Steps p.tables e below (T105.setTop (mkF m 269 #[.val (.long q0), .second, .val (.int p1), .val (.int p2), .val (.int p3), .val (.int p4), .val (.long life), .second, .val (.int p8), .val (.ref se), .val (.ref ob), .val (.int kk), .val (.int (0 : Int32)), .val (.int (1 : Int32)), .val (.long (1 : Int64)), .second, .val (.ref zD), .val (.long (0 : Int64)), .second, .val (.ref zD)] [(.ref ob)])) _
            refine XS.iload X105.here hx rfl (hb hby at_269) rfl ?_
            exact kt
          have Y107 : Fld Z T1.heap ob "com/example/pulsekeep/pulsekeep/core/Subscription" "settings" "Lcom/example/pulsekeep/pulsekeep/core/SubscriptionSettings;" (.ref se) := (KF1 _ _ _ _ _ F_settings (pallS (Or.inr (slot_ne (Or.inl (hw _ (List.mem_of_getElem? (i := 114) rfl))) (Or.inl (hw _ (List.mem_of_getElem? (i := 130) rfl))) (by decide) (t := (.object "com/example/pulsekeep/pulsekeep/core/SubscriptionSettings")) (t' := .boolean) (by decide) (by decide))) (pallS (Or.inr (slot_ne (Or.inl (hw _ (List.mem_of_getElem? (i := 114) rfl))) (Or.inl (hw _ (List.mem_of_getElem? (i := 139) rfl))) (by decide) (t := (.object "com/example/pulsekeep/pulsekeep/core/SubscriptionSettings")) (t' := .boolean) (by decide) (by decide))) (pallS (Or.inr (slot_ne (Or.inl (hw _ (List.mem_of_getElem? (i := 114) rfl))) (Or.inl (hw _ (List.mem_of_getElem? (i := 149) rfl))) (by decide) (t := (.object "com/example/pulsekeep/pulsekeep/core/SubscriptionSettings")) (t' := .long) (by decide) (by decide))) (pallS (Or.inr (slot_ne (Or.inl (hw _ (List.mem_of_getElem? (i := 114) rfl))) (Or.inl (hw _ (List.mem_of_getElem? (i := 132) rfl))) (by decide) (t := (.object "com/example/pulsekeep/pulsekeep/core/SubscriptionSettings")) (t' := .long) (by decide) (by decide))) pall0)))))
          have Y108 : Fld Z T1.heap ob "com/example/pulsekeep/pulsekeep/core/Subscription" "items" "Ljava/util/List;" (.ref il) := (KF1 _ _ _ _ _ F_items (pallS (Or.inr (slot_ne (Or.inr (hw _ (List.mem_of_getElem? (i := 88) rfl))) (Or.inl (hw _ (List.mem_of_getElem? (i := 130) rfl))) (by decide) (t := (.object "java/util/List")) (t' := .boolean) (by decide) (by decide))) (pallS (Or.inr (slot_ne (Or.inr (hw _ (List.mem_of_getElem? (i := 88) rfl))) (Or.inl (hw _ (List.mem_of_getElem? (i := 139) rfl))) (by decide) (t := (.object "java/util/List")) (t' := .boolean) (by decide) (by decide))) (pallS (Or.inr (slot_ne (Or.inr (hw _ (List.mem_of_getElem? (i := 88) rfl))) (Or.inl (hw _ (List.mem_of_getElem? (i := 149) rfl))) (by decide) (t := (.object "java/util/List")) (t' := .long) (by decide) (by decide))) (pallS (Or.inr (slot_ne (Or.inr (hw _ (List.mem_of_getElem? (i := 88) rfl))) (Or.inl (hw _ (List.mem_of_getElem? (i := 132) rfl))) (by decide) (t := (.object "java/util/List")) (t' := .long) (by decide) (by decide))) pall0)))))
          have Y109 : Exa Z T1.heap se "com/example/pulsekeep/pulsekeep/core/SubscriptionSettings" := (E_se.keep K1)
          have Y110 : Fld Z T1.heap se "com/example/pulsekeep/pulsekeep/core/SubscriptionSettings" "publishingEnabled" "Z" (.int en) := (F_en.keep K1 (ninS (ne_exa E_se E_o (by decide)) nin0))
          have Y111 : Exa Z T1.heap il "java/util/ArrayList" := (E_il.keep K1)
          have Y112 : Fld Z T1.heap il "java/util/AbstractList" "modCount" "I" (.int mc) := (F_mc.keep K1 (ninS (ne_exa E_il E_o (by decide)) nin0))
          have Y113 : Fld Z T1.heap il "java/util/ArrayList" "size" "I" (.int (0 : Int32)) := (F_size.keep K1 (ninS (ne_exa E_il E_o (by decide)) nin0))
          have Y114 : Fld Z T1.heap se "com/example/pulsekeep/pulsekeep/core/SubscriptionSettings" "lifetimeCount" "J" (.long life) := (F_life.keep K1 (ninS (ne_exa E_se E_o (by decide)) nin0))
          obtain ⟨cq106, kq106, q106a, q106b, q106c⟩ := isOf hZ e105 Y3
          obtain ⟨_, _, ⟨T106, L106, k106, n106⟩, -, X106, ⟨Lc106, hQ106, l106, y106, z106⟩, st106⟩ := X105.virtualBack hx (y := (⟨"com/example/pulsekeep/pulsekeep/core/Subscription", "endCycle", "(Z)Lcom/example/pulsekeep/pulsekeep/core/Subscription$CycleEnd;"⟩ : MethodName)) (z := (⟨"com/example/pulsekeep/pulsekeep/core/Subscription", "endCycle", "(Z)Lcom/example/pulsekeep/pulsekeep/core/Subscription$CycleEnd;"⟩ : MethodName)) hown (mvT hZ (hw _ (List.mem_of_getElem? (i := 115) rfl))) (mvT hZ (hw _ (List.mem_of_getElem? (i := 116) rfl))) (notFace_of_selects (args := #[]) (mvT hZ (hw _ (List.mem_of_getElem? (i := 118) rfl)))) (mvT hZ (hw _ (List.mem_of_getElem? (i := 118) rfl))) (mvT hZ (hw _ (List.mem_of_getElem? (i := 117) rfl))) (by decide) (backOf (W := 0) (rm11 l Z a0 hw [] ob (0 : Int32) se il en mc life (0 : Int64) (0 : Int32) zD zC T1.heap n0 (by omega) Y3 Y107 Y108 Y109 Y110 Y111 Y112 Y113 Y114 Y1_0 Y1_3 Y1_1 S_DUE S_CLOSE Y102 (by omega)) hZ (hw _ (List.mem_of_getElem? (i := 119) rfl)) (hw _ (List.mem_of_getElem? (i := 29) rfl)) (by decide) (by decide)) q106a q106c (g := (mkF m 271 #[.val (.long q0), .second, .val (.int p1), .val (.int p2), .val (.int p3), .val (.int p4), .val (.long life), .second, .val (.int p8), .val (.ref se), .val (.ref ob), .val (.int kk), .val (.int (0 : Int32)), .val (.int (1 : Int32)), .val (.long (1 : Int64)), .second, .val (.ref zD), .val (.long (0 : Int64)), .second, .val (.ref zD)] [(.int (0 : Int32)), (.ref ob)])) rfl (by rw [hml]; rfl) (Steps.refl _) (argsL := [(.int (0 : Int32))]) (rest := []) (lenOf pd159_2 rfl) rfl (by show 2 * 0 + _ ≤ _; exact Nat.le_of_eq rfl) (hb hby at_271) (fun vm₁ hvm => ⟨rfl, e105, (by decide : 15 + 1 ≤ _), (by decide : 112 + 4 ≤ _)⟩)
          dsimp only [Pt.U, Pt.locs, Pt.cells, Pt.slots] at X106 l106 y106 z106 st106 hQ106
          subst l106 y106 z106
          obtain ⟨rfl, N106q, K106, KF106, Fc106, Fd106⟩ := hQ106
          have sz106 : T1.heap.size ≤ T106.heap.size := K106.1
          have N106 := Fr.app N2 N106q
          refine Go.trans st106 ?_
          show Go p e below s _ _ _ (T106.setTop (mkF m 274 #[.val (.long q0), .second, .val (.int p1), .val (.int p2), .val (.int p3), .val (.int p4), .val (.long life), .second, .val (.int p8), .val (.ref se), .val (.ref ob), .val (.int kk), .val (.int (0 : Int32)), .val (.int (1 : Int32)), .val (.long (1 : Int64)), .second, .val (.ref zD), .val (.long (0 : Int64)), .second, .val (.ref zD)] [(.ref (own_end life (own_nc (0 : Int32) (0 : Int64)) zD zC))]))
          rw [show own_end life (own_nc (0 : Int32) (0 : Int64)) zD zC = zD from by rw [own_end, show (own_nc (0 : Int32) (0 : Int64)) = (1 : Int64) from by decide, if_pos h219_101]]
          refine Go.pre (st' := T106.setTop (mkF m 283 #[.val (.long q0), .second, .val (.int p1), .val (.int p2), .val (.int p3), .val (.int p4), .val (.long life), .second, .val (.int p8), .val (.ref se), .val (.ref ob), .val (.int kk), .val (.int (0 : Int32)), .val (.int (1 : Int32)), .val (.long (1 : Int64)), .second, .val (.ref zD), .val (.long (0 : Int64)), .second, .val (.ref zD)] [(.int (1 : Int32)), (.ref ob)])) (fun target kt => ?_) ?_
          · show Steps p.tables e below (T106.setTop (mkF m 274 #[.val (.long q0), .second, .val (.int p1), .val (.int p2), .val (.int p3), .val (.int p4), .val (.long life), .second, .val (.int p8), .val (.ref se), .val (.ref ob), .val (.int kk), .val (.int (0 : Int32)), .val (.int (1 : Int32)), .val (.long (1 : Int64)), .second, .val (.ref zD), .val (.long (0 : Int64)), .second, .val (.ref zD)] [(.ref zD)])) _
            refine XS.aload X106.here hx rfl (hb hby at_274) rfl rfl ?_
            show Steps p.tables e below (T106.setTop (mkF m 276 #[.val (.long q0), .second, .val (.int p1), .val (.int p2), .val (.int p3), .val (.int p4), .val (.long life), .second, .val (.int p8), .val (.ref se), .val (.ref ob), .val (.int kk), .val (.int (0 : Int32)), .val (.int (1 : Int32)), .val (.long (1 : Int64)), .second, .val (.ref zD), .val (.long (0 : Int64)), .second, .val (.ref zD)] [(.ref zD), (.ref zD)])) _
            refine Jvm.RoadKit.acmp (g := (mkF m 276 #[.val (.long q0), .second, .val (.int p1), .val (.int p2), .val (.int p3), .val (.int p4), .val (.long life), .second, .val (.int p8), .val (.ref se), .val (.ref ob), .val (.int kk), .val (.int (0 : Int32)), .val (.int (1 : Int32)), .val (.long (1 : Int64)), .second, .val (.ref zD), .val (.long (0 : Int64)), .second, .val (.ref zD)] [(.ref zD), (.ref zD)])) X106 hx rfl rfl rfl (pc0 := 276) (pc' := 279) (same := true) rfl (hb hby at_276) rfl (decide_eq_true rfl) (by decide) (by decide) ?_
            show Steps p.tables e below (T106.setTop (mkF m 279 #[.val (.long q0), .second, .val (.int p1), .val (.int p2), .val (.int p3), .val (.int p4), .val (.long life), .second, .val (.int p8), .val (.ref se), .val (.ref ob), .val (.int kk), .val (.int (0 : Int32)), .val (.int (1 : Int32)), .val (.long (1 : Int64)), .second, .val (.ref zD), .val (.long (0 : Int64)), .second, .val (.ref zD)] [])) _
            refine XS.aload X106.here hx rfl (hb hby at_279) rfl rfl ?_
            show Steps p.tables e below (T106.setTop (mkF m 281 #[.val (.long q0), .second, .val (.int p1), .val (.int p2), .val (.int p3), .val (.int p4), .val (.long life), .second, .val (.int p8), .val (.ref se), .val (.ref ob), .val (.int kk), .val (.int (0 : Int32)), .val (.int (1 : Int32)), .val (.long (1 : Int64)), .second, .val (.ref zD), .val (.long (0 : Int64)), .second, .val (.ref zD)] [(.ref ob)])) _
            refine XS.iload X106.here hx rfl (hb hby at_281) rfl ?_
            exact kt
          have Y116 : Exa Z T106.heap ob "com/example/pulsekeep/pulsekeep/core/Subscription" := (Y3.keep K106)
          have Y117 : Fld Z T106.heap ob "com/example/pulsekeep/pulsekeep/core/Subscription" "settings" "Lcom/example/pulsekeep/pulsekeep/core/SubscriptionSettings;" (.ref se) := (KF106 _ _ _ _ _ Y107 (pallS (Or.inr (slot_ne (Or.inl (hw _ (List.mem_of_getElem? (i := 114) rfl))) (Or.inl (hw _ (List.mem_of_getElem? (i := 132) rfl))) (by decide) (t := (.object "com/example/pulsekeep/pulsekeep/core/SubscriptionSettings")) (t' := .long) (by decide) (by decide))) (pallS (Or.inr (slot_ne (Or.inl (hw _ (List.mem_of_getElem? (i := 114) rfl))) (Or.inl (hw _ (List.mem_of_getElem? (i := 139) rfl))) (by decide) (t := (.object "com/example/pulsekeep/pulsekeep/core/SubscriptionSettings")) (t' := .boolean) (by decide) (by decide))) pall0)))
          have Y118 : Fld Z T106.heap ob "com/example/pulsekeep/pulsekeep/core/Subscription" "items" "Ljava/util/List;" (.ref il) := (KF106 _ _ _ _ _ Y108 (pallS (Or.inr (slot_ne (Or.inr (hw _ (List.mem_of_getElem? (i := 88) rfl))) (Or.inl (hw _ (List.mem_of_getElem? (i := 132) rfl))) (by decide) (t := (.object "java/util/List")) (t' := .long) (by decide) (by decide))) (pallS (Or.inr (slot_ne (Or.inr (hw _ (List.mem_of_getElem? (i := 88) rfl))) (Or.inl (hw _ (List.mem_of_getElem? (i := 139) rfl))) (by decide) (t := (.object "java/util/List")) (t' := .boolean) (by decide) (by decide))) pall0)))
          have Y119 : Exa Z T106.heap se "com/example/pulsekeep/pulsekeep/core/SubscriptionSettings" := (Y109.keep K106)
          have Y120 : Fld Z T106.heap se "com/example/pulsekeep/pulsekeep/core/SubscriptionSettings" "publishingEnabled" "Z" (.int en) := (Y110.keep K106 (ninS (ne_exa E_se E_o (by decide)) nin0))
          have Y121 : Exa Z T106.heap il "java/util/ArrayList" := (Y111.keep K106)
          have Y122 : Fld Z T106.heap il "java/util/AbstractList" "modCount" "I" (.int mc) := (Y112.keep K106 (ninS (ne_exa E_il E_o (by decide)) nin0))
          have Y123 : Fld Z T106.heap il "java/util/ArrayList" "size" "I" (.int (0 : Int32)) := (Y113.keep K106 (ninS (ne_exa E_il E_o (by decide)) nin0))
          have Y124 : Fld Z T106.heap se "com/example/pulsekeep/pulsekeep/core/SubscriptionSettings" "lifetimeCount" "J" (.long life) := (Y114.keep K106 (ninS (ne_exa E_se E_o (by decide)) nin0))
          have Y125 : Fld Z T106.heap ob "com/example/pulsekeep/pulsekeep/core/Subscription" "messageSent" "Z" (.int (0 : Int32)) := (KF106 _ _ _ _ _ Y1_0 (pallS (Or.inr (slot_ne (Or.inl (hw _ (List.mem_of_getElem? (i := 130) rfl))) (Or.inl (hw _ (List.mem_of_getElem? (i := 132) rfl))) (by decide) (t := .boolean) (t' := .long) (by decide) (by decide))) (pallS (Or.inr (slot_ne (Or.inl (hw _ (List.mem_of_getElem? (i := 130) rfl))) (Or.inl (hw _ (List.mem_of_getElem? (i := 139) rfl))) (by decide) (t := .boolean) (t' := .boolean) (by decide) (by decide))) pall0)))
          have Y126 : Old Z n0 T106.heap := (Y102.keep K106 (allS (by omega) all0))
          obtain ⟨cq115, kq115, q115a, q115b, q115c⟩ := isOf hZ rfl Y116
          obtain ⟨_, _, ⟨T115, L115, k115, n115⟩, -, X115, ⟨Lc115, hQ115, l115, y115, z115⟩, st115⟩ := X106.virtualBack hx (y := (⟨"com/example/pulsekeep/pulsekeep/core/Subscription", "endCycle", "(Z)Lcom/example/pulsekeep/pulsekeep/core/Subscription$CycleEnd;"⟩ : MethodName)) (z := (⟨"com/example/pulsekeep/pulsekeep/core/Subscription", "endCycle", "(Z)Lcom/example/pulsekeep/pulsekeep/core/Subscription$CycleEnd;"⟩ : MethodName)) hown (mvT hZ (hw _ (List.mem_of_getElem? (i := 115) rfl))) (mvT hZ (hw _ (List.mem_of_getElem? (i := 116) rfl))) (notFace_of_selects (args := #[]) (mvT hZ (hw _ (List.mem_of_getElem? (i := 118) rfl)))) (mvT hZ (hw _ (List.mem_of_getElem? (i := 118) rfl))) (mvT hZ (hw _ (List.mem_of_getElem? (i := 117) rfl))) (by decide) (backOf (W := 0) (rm11 l Z a0 hw [] ob (1 : Int32) se il en mc life (own_nc (0 : Int32) (0 : Int64)) (own_due life (own_nc (0 : Int32) (0 : Int64)) (0 : Int32)) zD zC T106.heap n0 (by omega) Y116 Y117 Y118 Y119 Y120 Y121 Y122 Y123 Y124 Y125 Fc106 Fd106 S_DUE S_CLOSE Y126 (by omega)) hZ (hw _ (List.mem_of_getElem? (i := 119) rfl)) (hw _ (List.mem_of_getElem? (i := 29) rfl)) (by decide) (by decide)) q115a q115c (g := (mkF m 283 #[.val (.long q0), .second, .val (.int p1), .val (.int p2), .val (.int p3), .val (.int p4), .val (.long life), .second, .val (.int p8), .val (.ref se), .val (.ref ob), .val (.int kk), .val (.int (0 : Int32)), .val (.int (1 : Int32)), .val (.long (1 : Int64)), .second, .val (.ref zD), .val (.long (0 : Int64)), .second, .val (.ref zD)] [(.int (1 : Int32)), (.ref ob)])) rfl (by rw [hml]; rfl) (Steps.refl _) (argsL := [(.int (1 : Int32))]) (rest := []) (lenOf pd159_2 rfl) rfl (by show 2 * 0 + _ ≤ _; exact Nat.le_of_eq rfl) (hb hby at_283) (fun vm₁ hvm => ⟨rfl, rfl, (by decide : 16 + 1 ≤ _), (by decide : 116 + 4 ≤ _)⟩)
          dsimp only [Pt.U, Pt.locs, Pt.cells, Pt.slots] at X115 l115 y115 z115 st115 hQ115
          subst l115 y115 z115
          obtain ⟨rfl, N115q, K115, KF115, Fc115, Fd115⟩ := hQ115
          have sz115 : T106.heap.size ≤ T115.heap.size := K115.1
          have N115 := Fr.app N106 N115q
          refine Go.trans st115 ?_
          show Go p e below s _ _ _ (T115.setTop (mkF m 286 #[.val (.long q0), .second, .val (.int p1), .val (.int p2), .val (.int p3), .val (.int p4), .val (.long life), .second, .val (.int p8), .val (.ref se), .val (.ref ob), .val (.int kk), .val (.int (0 : Int32)), .val (.int (1 : Int32)), .val (.long (1 : Int64)), .second, .val (.ref zD), .val (.long (0 : Int64)), .second, .val (.ref zD)] [(.ref (own_end life (own_nc (1 : Int32) (own_nc (0 : Int32) (0 : Int64))) zD zC))]))
          rw [show own_end life (own_nc (1 : Int32) (own_nc (0 : Int32) (0 : Int64))) zD zC = zD from by rw [own_end, show (own_nc (1 : Int32) (own_nc (0 : Int32) (0 : Int64))) = (0 : Int64) from by decide, if_pos h253_104]]
          refine Go.pre (st' := T115.setTop (mkF m 296 #[.val (.long q0), .second, .val (.int p1), .val (.int p2), .val (.int p3), .val (.int p4), .val (.long life), .second, .val (.int p8), .val (.ref se), .val (.ref ob), .val (.int kk), .val (.int (0 : Int32)), .val (.int (1 : Int32)), .val (.long (1 : Int64)), .second, .val (.ref zD), .val (.long (0 : Int64)), .second, .val (.ref zD)] [(.int (1 : Int32))])) (fun target kt => ?_) ?_
          · show Steps p.tables e below (T115.setTop (mkF m 286 #[.val (.long q0), .second, .val (.int p1), .val (.int p2), .val (.int p3), .val (.int p4), .val (.long life), .second, .val (.int p8), .val (.ref se), .val (.ref ob), .val (.int kk), .val (.int (0 : Int32)), .val (.int (1 : Int32)), .val (.long (1 : Int64)), .second, .val (.ref zD), .val (.long (0 : Int64)), .second, .val (.ref zD)] [(.ref zD)])) _
            refine XS.aload X115.here hx rfl (hb hby at_286) rfl rfl ?_
            show Steps p.tables e below (T115.setTop (mkF m 288 #[.val (.long q0), .second, .val (.int p1), .val (.int p2), .val (.int p3), .val (.int p4), .val (.long life), .second, .val (.int p8), .val (.ref se), .val (.ref ob), .val (.int kk), .val (.int (0 : Int32)), .val (.int (1 : Int32)), .val (.long (1 : Int64)), .second, .val (.ref zD), .val (.long (0 : Int64)), .second, .val (.ref zD)] [(.ref zD), (.ref zD)])) _
            refine Jvm.RoadKit.acmp (g := (mkF m 288 #[.val (.long q0), .second, .val (.int p1), .val (.int p2), .val (.int p3), .val (.int p4), .val (.long life), .second, .val (.int p8), .val (.ref se), .val (.ref ob), .val (.int kk), .val (.int (0 : Int32)), .val (.int (1 : Int32)), .val (.long (1 : Int64)), .second, .val (.ref zD), .val (.long (0 : Int64)), .second, .val (.ref zD)] [(.ref zD), (.ref zD)])) X115 hx rfl rfl rfl (pc0 := 288) (pc' := 291) (same := true) rfl (hb hby at_288) rfl (decide_eq_true rfl) (by decide) (by decide) ?_
            show Steps p.tables e below (T115.setTop (mkF m 291 #[.val (.long q0), .second, .val (.int p1), .val (.int p2), .val (.int p3), .val (.int p4), .val (.long life), .second, .val (.int p8), .val (.ref se), .val (.ref ob), .val (.int kk), .val (.int (0 : Int32)), .val (.int (1 : Int32)), .val (.long (1 : Int64)), .second, .val (.ref zD), .val (.long (0 : Int64)), .second, .val (.ref zD)] [])) _
            refine XS.iconst X115.here hx rfl (hb hby at_291) ?_
            show Steps p.tables e below (T115.setTop (mkF m 292 #[.val (.long q0), .second, .val (.int p1), .val (.int p2), .val (.int p3), .val (.int p4), .val (.long life), .second, .val (.int p8), .val (.ref se), .val (.ref ob), .val (.int kk), .val (.int (0 : Int32)), .val (.int (1 : Int32)), .val (.long (1 : Int64)), .second, .val (.ref zD), .val (.long (0 : Int64)), .second, .val (.ref zD)] [(.int (1 : Int32))])) _
            refine XS.goto X115.here hx rfl (pc0 := 292) (pc' := 296) rfl (hb hby at_292) (by decide) (by decide) ?_
            exact kt
          exact Go.retN X115 hx hlk hrt (z' := (1 : Int32)) (by simp) (hb hby at_296) rfl (by decide) (by decide) (by exact ⟨rfl, N115⟩)
        · refine Go.pre (st' := T103.setTop (mkF m 256 #[.val (.long q0), .second, .val (.int p1), .val (.int p2), .val (.int p3), .val (.int p4), .val (.long life), .second, .val (.int p8), .val (.ref se), .val (.ref ob), .val (.int kk), .val (.int (0 : Int32)), .val (.int (1 : Int32)), .val (.long (1 : Int64)), .second, .val (.ref zD), .val (.long (0 : Int64)), .second, .unset] [])) (fun target kt => ?_) ?_
          · show Steps p.tables e below (T103.setTop (mkF m 253 #[.val (.long q0), .second, .val (.int p1), .val (.int p2), .val (.int p3), .val (.int p4), .val (.long life), .second, .val (.int p8), .val (.ref se), .val (.ref ob), .val (.int kk), .val (.int (0 : Int32)), .val (.int (1 : Int32)), .val (.long (1 : Int64)), .second, .val (.ref zD), .val (.long (0 : Int64)), .second, .unset] [(.int (lcmpW (0 : Int64) life))])) _
            refine XS.ifNo X103.here hx rfl (hb hby at_253) rfl ((if0 _ _).trans (flt (fun q => h253_104 ((lw_lt _ _).mp q))).1) ?_
            exact kt
          obtain ⟨T127, X127, e127, st127⟩ := getS2 X103 hx hZ hown (host := "") (Or.inl (hw _ (List.mem_of_getElem? (i := 194) rfl))) Via.refl e103 (S_CLOSE.ext Y102.2) (g := (mkF m 256 #[.val (.long q0), .second, .val (.int p1), .val (.int p2), .val (.int p3), .val (.int p4), .val (.long life), .second, .val (.int p8), .val (.ref se), .val (.ref ob), .val (.int kk), .val (.int (0 : Int32)), .val (.int (1 : Int32)), .val (.long (1 : Int64)), .second, .val (.ref zD), .val (.long (0 : Int64)), .second, .unset] [])) rfl (hb hby at_256)
          refine Go.pre st127 ?_
          show Go p e below s _ _ _ (T127.setTop (mkF m 259 #[.val (.long q0), .second, .val (.int p1), .val (.int p2), .val (.int p3), .val (.int p4), .val (.long life), .second, .val (.int p8), .val (.ref se), .val (.ref ob), .val (.int kk), .val (.int (0 : Int32)), .val (.int (1 : Int32)), .val (.long (1 : Int64)), .second, .val (.ref zD), .val (.long (0 : Int64)), .second, .unset] [(.ref zC)]))
          refine Go.pre (st' := T127.setTop (mkF m 271 #[.val (.long q0), .second, .val (.int p1), .val (.int p2), .val (.int p3), .val (.int p4), .val (.long life), .second, .val (.int p8), .val (.ref se), .val (.ref ob), .val (.int kk), .val (.int (0 : Int32)), .val (.int (1 : Int32)), .val (.long (1 : Int64)), .second, .val (.ref zD), .val (.long (0 : Int64)), .second, .val (.ref zC)] [(.int (0 : Int32)), (.ref ob)])) (fun target kt => ?_) ?_
          · show Steps p.tables e below (T127.setTop (mkF m 259 #[.val (.long q0), .second, .val (.int p1), .val (.int p2), .val (.int p3), .val (.int p4), .val (.long life), .second, .val (.int p8), .val (.ref se), .val (.ref ob), .val (.int kk), .val (.int (0 : Int32)), .val (.int (1 : Int32)), .val (.long (1 : Int64)), .second, .val (.ref zD), .val (.long (0 : Int64)), .second, .unset] [(.ref zC)])) _
            refine XS.goto X127.here hx rfl (pc0 := 259) (pc' := 265) rfl (hb hby at_259) (by decide) (by decide) ?_
            show Steps p.tables e below (T127.setTop (mkF m 265 #[.val (.long q0), .second, .val (.int p1), .val (.int p2), .val (.int p3), .val (.int p4), .val (.long life), .second, .val (.int p8), .val (.ref se), .val (.ref ob), .val (.int kk), .val (.int (0 : Int32)), .val (.int (1 : Int32)), .val (.long (1 : Int64)), .second, .val (.ref zD), .val (.long (0 : Int64)), .second, .unset] [(.ref zC)])) _
            refine XS.astore X127.here hx rfl (hb hby at_265) rfl rfl (l' := #[.val (.long q0), .second, .val (.int p1), .val (.int p2), .val (.int p3), .val (.int p4), .val (.long life), .second, .val (.int p8), .val (.ref se), .val (.ref ob), .val (.int kk), .val (.int (0 : Int32)), .val (.int (1 : Int32)), .val (.long (1 : Int64)), .second, .val (.ref zD), .val (.long (0 : Int64)), .second, .val (.ref zC)]) rfl ?_
            show Steps p.tables e below (T127.setTop (mkF m 267 #[.val (.long q0), .second, .val (.int p1), .val (.int p2), .val (.int p3), .val (.int p4), .val (.long life), .second, .val (.int p8), .val (.ref se), .val (.ref ob), .val (.int kk), .val (.int (0 : Int32)), .val (.int (1 : Int32)), .val (.long (1 : Int64)), .second, .val (.ref zD), .val (.long (0 : Int64)), .second, .val (.ref zC)] [])) _
            refine XS.aload X127.here hx rfl (hb hby at_267) rfl rfl ?_
            show Steps p.tables e below (T127.setTop (mkF m 269 #[.val (.long q0), .second, .val (.int p1), .val (.int p2), .val (.int p3), .val (.int p4), .val (.long life), .second, .val (.int p8), .val (.ref se), .val (.ref ob), .val (.int kk), .val (.int (0 : Int32)), .val (.int (1 : Int32)), .val (.long (1 : Int64)), .second, .val (.ref zD), .val (.long (0 : Int64)), .second, .val (.ref zC)] [(.ref ob)])) _
            refine XS.iload X127.here hx rfl (hb hby at_269) rfl ?_
            exact kt
          have Y129 : Fld Z T1.heap ob "com/example/pulsekeep/pulsekeep/core/Subscription" "settings" "Lcom/example/pulsekeep/pulsekeep/core/SubscriptionSettings;" (.ref se) := (KF1 _ _ _ _ _ F_settings (pallS (Or.inr (slot_ne (Or.inl (hw _ (List.mem_of_getElem? (i := 114) rfl))) (Or.inl (hw _ (List.mem_of_getElem? (i := 130) rfl))) (by decide) (t := (.object "com/example/pulsekeep/pulsekeep/core/SubscriptionSettings")) (t' := .boolean) (by decide) (by decide))) (pallS (Or.inr (slot_ne (Or.inl (hw _ (List.mem_of_getElem? (i := 114) rfl))) (Or.inl (hw _ (List.mem_of_getElem? (i := 139) rfl))) (by decide) (t := (.object "com/example/pulsekeep/pulsekeep/core/SubscriptionSettings")) (t' := .boolean) (by decide) (by decide))) (pallS (Or.inr (slot_ne (Or.inl (hw _ (List.mem_of_getElem? (i := 114) rfl))) (Or.inl (hw _ (List.mem_of_getElem? (i := 149) rfl))) (by decide) (t := (.object "com/example/pulsekeep/pulsekeep/core/SubscriptionSettings")) (t' := .long) (by decide) (by decide))) (pallS (Or.inr (slot_ne (Or.inl (hw _ (List.mem_of_getElem? (i := 114) rfl))) (Or.inl (hw _ (List.mem_of_getElem? (i := 132) rfl))) (by decide) (t := (.object "com/example/pulsekeep/pulsekeep/core/SubscriptionSettings")) (t' := .long) (by decide) (by decide))) pall0)))))
          have Y130 : Fld Z T1.heap ob "com/example/pulsekeep/pulsekeep/core/Subscription" "items" "Ljava/util/List;" (.ref il) := (KF1 _ _ _ _ _ F_items (pallS (Or.inr (slot_ne (Or.inr (hw _ (List.mem_of_getElem? (i := 88) rfl))) (Or.inl (hw _ (List.mem_of_getElem? (i := 130) rfl))) (by decide) (t := (.object "java/util/List")) (t' := .boolean) (by decide) (by decide))) (pallS (Or.inr (slot_ne (Or.inr (hw _ (List.mem_of_getElem? (i := 88) rfl))) (Or.inl (hw _ (List.mem_of_getElem? (i := 139) rfl))) (by decide) (t := (.object "java/util/List")) (t' := .boolean) (by decide) (by decide))) (pallS (Or.inr (slot_ne (Or.inr (hw _ (List.mem_of_getElem? (i := 88) rfl))) (Or.inl (hw _ (List.mem_of_getElem? (i := 149) rfl))) (by decide) (t := (.object "java/util/List")) (t' := .long) (by decide) (by decide))) (pallS (Or.inr (slot_ne (Or.inr (hw _ (List.mem_of_getElem? (i := 88) rfl))) (Or.inl (hw _ (List.mem_of_getElem? (i := 132) rfl))) (by decide) (t := (.object "java/util/List")) (t' := .long) (by decide) (by decide))) pall0)))))
          have Y131 : Exa Z T1.heap se "com/example/pulsekeep/pulsekeep/core/SubscriptionSettings" := (E_se.keep K1)
          have Y132 : Fld Z T1.heap se "com/example/pulsekeep/pulsekeep/core/SubscriptionSettings" "publishingEnabled" "Z" (.int en) := (F_en.keep K1 (ninS (ne_exa E_se E_o (by decide)) nin0))
          have Y133 : Exa Z T1.heap il "java/util/ArrayList" := (E_il.keep K1)
          have Y134 : Fld Z T1.heap il "java/util/AbstractList" "modCount" "I" (.int mc) := (F_mc.keep K1 (ninS (ne_exa E_il E_o (by decide)) nin0))
          have Y135 : Fld Z T1.heap il "java/util/ArrayList" "size" "I" (.int (0 : Int32)) := (F_size.keep K1 (ninS (ne_exa E_il E_o (by decide)) nin0))
          have Y136 : Fld Z T1.heap se "com/example/pulsekeep/pulsekeep/core/SubscriptionSettings" "lifetimeCount" "J" (.long life) := (F_life.keep K1 (ninS (ne_exa E_se E_o (by decide)) nin0))
          obtain ⟨cq128, kq128, q128a, q128b, q128c⟩ := isOf hZ e127 Y3
          obtain ⟨_, _, ⟨T128, L128, k128, n128⟩, -, X128, ⟨Lc128, hQ128, l128, y128, z128⟩, st128⟩ := X127.virtualBack hx (y := (⟨"com/example/pulsekeep/pulsekeep/core/Subscription", "endCycle", "(Z)Lcom/example/pulsekeep/pulsekeep/core/Subscription$CycleEnd;"⟩ : MethodName)) (z := (⟨"com/example/pulsekeep/pulsekeep/core/Subscription", "endCycle", "(Z)Lcom/example/pulsekeep/pulsekeep/core/Subscription$CycleEnd;"⟩ : MethodName)) hown (mvT hZ (hw _ (List.mem_of_getElem? (i := 115) rfl))) (mvT hZ (hw _ (List.mem_of_getElem? (i := 116) rfl))) (notFace_of_selects (args := #[]) (mvT hZ (hw _ (List.mem_of_getElem? (i := 118) rfl)))) (mvT hZ (hw _ (List.mem_of_getElem? (i := 118) rfl))) (mvT hZ (hw _ (List.mem_of_getElem? (i := 117) rfl))) (by decide) (backOf (W := 0) (rm11 l Z a0 hw [] ob (0 : Int32) se il en mc life (0 : Int64) (0 : Int32) zD zC T1.heap n0 (by omega) Y3 Y129 Y130 Y131 Y132 Y133 Y134 Y135 Y136 Y1_0 Y1_3 Y1_1 S_DUE S_CLOSE Y102 (by omega)) hZ (hw _ (List.mem_of_getElem? (i := 119) rfl)) (hw _ (List.mem_of_getElem? (i := 29) rfl)) (by decide) (by decide)) q128a q128c (g := (mkF m 271 #[.val (.long q0), .second, .val (.int p1), .val (.int p2), .val (.int p3), .val (.int p4), .val (.long life), .second, .val (.int p8), .val (.ref se), .val (.ref ob), .val (.int kk), .val (.int (0 : Int32)), .val (.int (1 : Int32)), .val (.long (1 : Int64)), .second, .val (.ref zD), .val (.long (0 : Int64)), .second, .val (.ref zC)] [(.int (0 : Int32)), (.ref ob)])) rfl (by rw [hml]; rfl) (Steps.refl _) (argsL := [(.int (0 : Int32))]) (rest := []) (lenOf pd159_2 rfl) rfl (by show 2 * 0 + _ ≤ _; exact Nat.le_of_eq rfl) (hb hby at_271) (fun vm₁ hvm => ⟨rfl, e127, (by decide : 15 + 1 ≤ _), (by decide : 112 + 4 ≤ _)⟩)
          dsimp only [Pt.U, Pt.locs, Pt.cells, Pt.slots] at X128 l128 y128 z128 st128 hQ128
          subst l128 y128 z128
          obtain ⟨rfl, N128q, K128, KF128, Fc128, Fd128⟩ := hQ128
          have sz128 : T1.heap.size ≤ T128.heap.size := K128.1
          have N128 := Fr.app N2 N128q
          refine Go.trans st128 ?_
          show Go p e below s _ _ _ (T128.setTop (mkF m 274 #[.val (.long q0), .second, .val (.int p1), .val (.int p2), .val (.int p3), .val (.int p4), .val (.long life), .second, .val (.int p8), .val (.ref se), .val (.ref ob), .val (.int kk), .val (.int (0 : Int32)), .val (.int (1 : Int32)), .val (.long (1 : Int64)), .second, .val (.ref zD), .val (.long (0 : Int64)), .second, .val (.ref zC)] [(.ref (own_end life (own_nc (0 : Int32) (0 : Int64)) zD zC))]))
          rw [show own_end life (own_nc (0 : Int32) (0 : Int64)) zD zC = zD from by rw [own_end, show (own_nc (0 : Int32) (0 : Int64)) = (1 : Int64) from by decide, if_pos h219_101]]
          refine Go.pre (st' := T128.setTop (mkF m 283 #[.val (.long q0), .second, .val (.int p1), .val (.int p2), .val (.int p3), .val (.int p4), .val (.long life), .second, .val (.int p8), .val (.ref se), .val (.ref ob), .val (.int kk), .val (.int (0 : Int32)), .val (.int (1 : Int32)), .val (.long (1 : Int64)), .second, .val (.ref zD), .val (.long (0 : Int64)), .second, .val (.ref zC)] [(.int (1 : Int32)), (.ref ob)])) (fun target kt => ?_) ?_
          · show Steps p.tables e below (T128.setTop (mkF m 274 #[.val (.long q0), .second, .val (.int p1), .val (.int p2), .val (.int p3), .val (.int p4), .val (.long life), .second, .val (.int p8), .val (.ref se), .val (.ref ob), .val (.int kk), .val (.int (0 : Int32)), .val (.int (1 : Int32)), .val (.long (1 : Int64)), .second, .val (.ref zD), .val (.long (0 : Int64)), .second, .val (.ref zC)] [(.ref zD)])) _
            refine XS.aload X128.here hx rfl (hb hby at_274) rfl rfl ?_
            show Steps p.tables e below (T128.setTop (mkF m 276 #[.val (.long q0), .second, .val (.int p1), .val (.int p2), .val (.int p3), .val (.int p4), .val (.long life), .second, .val (.int p8), .val (.ref se), .val (.ref ob), .val (.int kk), .val (.int (0 : Int32)), .val (.int (1 : Int32)), .val (.long (1 : Int64)), .second, .val (.ref zD), .val (.long (0 : Int64)), .second, .val (.ref zC)] [(.ref zD), (.ref zD)])) _
            refine Jvm.RoadKit.acmp (g := (mkF m 276 #[.val (.long q0), .second, .val (.int p1), .val (.int p2), .val (.int p3), .val (.int p4), .val (.long life), .second, .val (.int p8), .val (.ref se), .val (.ref ob), .val (.int kk), .val (.int (0 : Int32)), .val (.int (1 : Int32)), .val (.long (1 : Int64)), .second, .val (.ref zD), .val (.long (0 : Int64)), .second, .val (.ref zC)] [(.ref zD), (.ref zD)])) X128 hx rfl rfl rfl (pc0 := 276) (pc' := 279) (same := true) rfl (hb hby at_276) rfl (decide_eq_true rfl) (by decide) (by decide) ?_
            show Steps p.tables e below (T128.setTop (mkF m 279 #[.val (.long q0), .second, .val (.int p1), .val (.int p2), .val (.int p3), .val (.int p4), .val (.long life), .second, .val (.int p8), .val (.ref se), .val (.ref ob), .val (.int kk), .val (.int (0 : Int32)), .val (.int (1 : Int32)), .val (.long (1 : Int64)), .second, .val (.ref zD), .val (.long (0 : Int64)), .second, .val (.ref zC)] [])) _
            refine XS.aload X128.here hx rfl (hb hby at_279) rfl rfl ?_
            show Steps p.tables e below (T128.setTop (mkF m 281 #[.val (.long q0), .second, .val (.int p1), .val (.int p2), .val (.int p3), .val (.int p4), .val (.long life), .second, .val (.int p8), .val (.ref se), .val (.ref ob), .val (.int kk), .val (.int (0 : Int32)), .val (.int (1 : Int32)), .val (.long (1 : Int64)), .second, .val (.ref zD), .val (.long (0 : Int64)), .second, .val (.ref zC)] [(.ref ob)])) _
            refine XS.iload X128.here hx rfl (hb hby at_281) rfl ?_
            exact kt
          have Y138 : Exa Z T128.heap ob "com/example/pulsekeep/pulsekeep/core/Subscription" := (Y3.keep K128)
          have Y139 : Fld Z T128.heap ob "com/example/pulsekeep/pulsekeep/core/Subscription" "settings" "Lcom/example/pulsekeep/pulsekeep/core/SubscriptionSettings;" (.ref se) := (KF128 _ _ _ _ _ Y129 (pallS (Or.inr (slot_ne (Or.inl (hw _ (List.mem_of_getElem? (i := 114) rfl))) (Or.inl (hw _ (List.mem_of_getElem? (i := 132) rfl))) (by decide) (t := (.object "com/example/pulsekeep/pulsekeep/core/SubscriptionSettings")) (t' := .long) (by decide) (by decide))) (pallS (Or.inr (slot_ne (Or.inl (hw _ (List.mem_of_getElem? (i := 114) rfl))) (Or.inl (hw _ (List.mem_of_getElem? (i := 139) rfl))) (by decide) (t := (.object "com/example/pulsekeep/pulsekeep/core/SubscriptionSettings")) (t' := .boolean) (by decide) (by decide))) pall0)))
          have Y140 : Fld Z T128.heap ob "com/example/pulsekeep/pulsekeep/core/Subscription" "items" "Ljava/util/List;" (.ref il) := (KF128 _ _ _ _ _ Y130 (pallS (Or.inr (slot_ne (Or.inr (hw _ (List.mem_of_getElem? (i := 88) rfl))) (Or.inl (hw _ (List.mem_of_getElem? (i := 132) rfl))) (by decide) (t := (.object "java/util/List")) (t' := .long) (by decide) (by decide))) (pallS (Or.inr (slot_ne (Or.inr (hw _ (List.mem_of_getElem? (i := 88) rfl))) (Or.inl (hw _ (List.mem_of_getElem? (i := 139) rfl))) (by decide) (t := (.object "java/util/List")) (t' := .boolean) (by decide) (by decide))) pall0)))
          have Y141 : Exa Z T128.heap se "com/example/pulsekeep/pulsekeep/core/SubscriptionSettings" := (Y131.keep K128)
          have Y142 : Fld Z T128.heap se "com/example/pulsekeep/pulsekeep/core/SubscriptionSettings" "publishingEnabled" "Z" (.int en) := (Y132.keep K128 (ninS (ne_exa E_se E_o (by decide)) nin0))
          have Y143 : Exa Z T128.heap il "java/util/ArrayList" := (Y133.keep K128)
          have Y144 : Fld Z T128.heap il "java/util/AbstractList" "modCount" "I" (.int mc) := (Y134.keep K128 (ninS (ne_exa E_il E_o (by decide)) nin0))
          have Y145 : Fld Z T128.heap il "java/util/ArrayList" "size" "I" (.int (0 : Int32)) := (Y135.keep K128 (ninS (ne_exa E_il E_o (by decide)) nin0))
          have Y146 : Fld Z T128.heap se "com/example/pulsekeep/pulsekeep/core/SubscriptionSettings" "lifetimeCount" "J" (.long life) := (Y136.keep K128 (ninS (ne_exa E_se E_o (by decide)) nin0))
          have Y147 : Fld Z T128.heap ob "com/example/pulsekeep/pulsekeep/core/Subscription" "messageSent" "Z" (.int (0 : Int32)) := (KF128 _ _ _ _ _ Y1_0 (pallS (Or.inr (slot_ne (Or.inl (hw _ (List.mem_of_getElem? (i := 130) rfl))) (Or.inl (hw _ (List.mem_of_getElem? (i := 132) rfl))) (by decide) (t := .boolean) (t' := .long) (by decide) (by decide))) (pallS (Or.inr (slot_ne (Or.inl (hw _ (List.mem_of_getElem? (i := 130) rfl))) (Or.inl (hw _ (List.mem_of_getElem? (i := 139) rfl))) (by decide) (t := .boolean) (t' := .boolean) (by decide) (by decide))) pall0)))
          have Y148 : Old Z n0 T128.heap := (Y102.keep K128 (allS (by omega) all0))
          obtain ⟨cq137, kq137, q137a, q137b, q137c⟩ := isOf hZ rfl Y138
          obtain ⟨_, _, ⟨T137, L137, k137, n137⟩, -, X137, ⟨Lc137, hQ137, l137, y137, z137⟩, st137⟩ := X128.virtualBack hx (y := (⟨"com/example/pulsekeep/pulsekeep/core/Subscription", "endCycle", "(Z)Lcom/example/pulsekeep/pulsekeep/core/Subscription$CycleEnd;"⟩ : MethodName)) (z := (⟨"com/example/pulsekeep/pulsekeep/core/Subscription", "endCycle", "(Z)Lcom/example/pulsekeep/pulsekeep/core/Subscription$CycleEnd;"⟩ : MethodName)) hown (mvT hZ (hw _ (List.mem_of_getElem? (i := 115) rfl))) (mvT hZ (hw _ (List.mem_of_getElem? (i := 116) rfl))) (notFace_of_selects (args := #[]) (mvT hZ (hw _ (List.mem_of_getElem? (i := 118) rfl)))) (mvT hZ (hw _ (List.mem_of_getElem? (i := 118) rfl))) (mvT hZ (hw _ (List.mem_of_getElem? (i := 117) rfl))) (by decide) (backOf (W := 0) (rm11 l Z a0 hw [] ob (1 : Int32) se il en mc life (own_nc (0 : Int32) (0 : Int64)) (own_due life (own_nc (0 : Int32) (0 : Int64)) (0 : Int32)) zD zC T128.heap n0 (by omega) Y138 Y139 Y140 Y141 Y142 Y143 Y144 Y145 Y146 Y147 Fc128 Fd128 S_DUE S_CLOSE Y148 (by omega)) hZ (hw _ (List.mem_of_getElem? (i := 119) rfl)) (hw _ (List.mem_of_getElem? (i := 29) rfl)) (by decide) (by decide)) q137a q137c (g := (mkF m 283 #[.val (.long q0), .second, .val (.int p1), .val (.int p2), .val (.int p3), .val (.int p4), .val (.long life), .second, .val (.int p8), .val (.ref se), .val (.ref ob), .val (.int kk), .val (.int (0 : Int32)), .val (.int (1 : Int32)), .val (.long (1 : Int64)), .second, .val (.ref zD), .val (.long (0 : Int64)), .second, .val (.ref zC)] [(.int (1 : Int32)), (.ref ob)])) rfl (by rw [hml]; rfl) (Steps.refl _) (argsL := [(.int (1 : Int32))]) (rest := []) (lenOf pd159_2 rfl) rfl (by show 2 * 0 + _ ≤ _; exact Nat.le_of_eq rfl) (hb hby at_283) (fun vm₁ hvm => ⟨rfl, rfl, (by decide : 16 + 1 ≤ _), (by decide : 116 + 4 ≤ _)⟩)
          dsimp only [Pt.U, Pt.locs, Pt.cells, Pt.slots] at X137 l137 y137 z137 st137 hQ137
          subst l137 y137 z137
          obtain ⟨rfl, N137q, K137, KF137, Fc137, Fd137⟩ := hQ137
          have sz137 : T128.heap.size ≤ T137.heap.size := K137.1
          have N137 := Fr.app N128 N137q
          refine Go.trans st137 ?_
          show Go p e below s _ _ _ (T137.setTop (mkF m 286 #[.val (.long q0), .second, .val (.int p1), .val (.int p2), .val (.int p3), .val (.int p4), .val (.long life), .second, .val (.int p8), .val (.ref se), .val (.ref ob), .val (.int kk), .val (.int (0 : Int32)), .val (.int (1 : Int32)), .val (.long (1 : Int64)), .second, .val (.ref zD), .val (.long (0 : Int64)), .second, .val (.ref zC)] [(.ref (own_end life (own_nc (1 : Int32) (own_nc (0 : Int32) (0 : Int64))) zD zC))]))
          rw [show own_end life (own_nc (1 : Int32) (own_nc (0 : Int32) (0 : Int64))) zD zC = zC from by rw [own_end, show (own_nc (1 : Int32) (own_nc (0 : Int32) (0 : Int64))) = (0 : Int64) from by decide, if_neg h253_104]]
          refine Go.pre (st' := T137.setTop (mkF m 296 #[.val (.long q0), .second, .val (.int p1), .val (.int p2), .val (.int p3), .val (.int p4), .val (.long life), .second, .val (.int p8), .val (.ref se), .val (.ref ob), .val (.int kk), .val (.int (0 : Int32)), .val (.int (1 : Int32)), .val (.long (1 : Int64)), .second, .val (.ref zD), .val (.long (0 : Int64)), .second, .val (.ref zC)] [(.int (1 : Int32))])) (fun target kt => ?_) ?_
          · show Steps p.tables e below (T137.setTop (mkF m 286 #[.val (.long q0), .second, .val (.int p1), .val (.int p2), .val (.int p3), .val (.int p4), .val (.long life), .second, .val (.int p8), .val (.ref se), .val (.ref ob), .val (.int kk), .val (.int (0 : Int32)), .val (.int (1 : Int32)), .val (.long (1 : Int64)), .second, .val (.ref zD), .val (.long (0 : Int64)), .second, .val (.ref zC)] [(.ref zC)])) _
            refine XS.aload X137.here hx rfl (hb hby at_286) rfl rfl ?_
            show Steps p.tables e below (T137.setTop (mkF m 288 #[.val (.long q0), .second, .val (.int p1), .val (.int p2), .val (.int p3), .val (.int p4), .val (.long life), .second, .val (.int p8), .val (.ref se), .val (.ref ob), .val (.int kk), .val (.int (0 : Int32)), .val (.int (1 : Int32)), .val (.long (1 : Int64)), .second, .val (.ref zD), .val (.long (0 : Int64)), .second, .val (.ref zC)] [(.ref zC), (.ref zC)])) _
            refine Jvm.RoadKit.acmp (g := (mkF m 288 #[.val (.long q0), .second, .val (.int p1), .val (.int p2), .val (.int p3), .val (.int p4), .val (.long life), .second, .val (.int p8), .val (.ref se), .val (.ref ob), .val (.int kk), .val (.int (0 : Int32)), .val (.int (1 : Int32)), .val (.long (1 : Int64)), .second, .val (.ref zD), .val (.long (0 : Int64)), .second, .val (.ref zC)] [(.ref zC), (.ref zC)])) X137 hx rfl rfl rfl (pc0 := 288) (pc' := 291) (same := true) rfl (hb hby at_288) rfl (decide_eq_true rfl) (by decide) (by decide) ?_
            show Steps p.tables e below (T137.setTop (mkF m 291 #[.val (.long q0), .second, .val (.int p1), .val (.int p2), .val (.int p3), .val (.int p4), .val (.long life), .second, .val (.int p8), .val (.ref se), .val (.ref ob), .val (.int kk), .val (.int (0 : Int32)), .val (.int (1 : Int32)), .val (.long (1 : Int64)), .second, .val (.ref zD), .val (.long (0 : Int64)), .second, .val (.ref zC)] [])) _
            refine XS.iconst X137.here hx rfl (hb hby at_291) ?_
            show Steps p.tables e below (T137.setTop (mkF m 292 #[.val (.long q0), .second, .val (.int p1), .val (.int p2), .val (.int p3), .val (.int p4), .val (.long life), .second, .val (.int p8), .val (.ref se), .val (.ref ob), .val (.int kk), .val (.int (0 : Int32)), .val (.int (1 : Int32)), .val (.long (1 : Int64)), .second, .val (.ref zD), .val (.long (0 : Int64)), .second, .val (.ref zC)] [(.int (1 : Int32))])) _
            refine XS.goto X137.here hx rfl (pc0 := 292) (pc' := 296) rfl (hb hby at_292) (by decide) (by decide) ?_
            exact kt
          exact Go.retN X137 hx hlk hrt (z' := (1 : Int32)) (by simp) (hb hby at_296) rfl (by decide) (by decide) (by exact ⟨rfl, N137⟩)
      · refine Go.pre (st' := T2.setTop (mkF m 222 #[.val (.long q0), .second, .val (.int p1), .val (.int p2), .val (.int p3), .val (.int p4), .val (.long life), .second, .val (.int p8), .val (.ref se), .val (.ref ob), .val (.int kk), .val (.int (0 : Int32)), .val (.int (1 : Int32)), .val (.long (1 : Int64)), .second, .unset, .unset, .unset, .unset] [])) (fun target kt => ?_) ?_
        · show Steps p.tables e below (T2.setTop (mkF m 219 #[.val (.long q0), .second, .val (.int p1), .val (.int p2), .val (.int p3), .val (.int p4), .val (.long life), .second, .val (.int p8), .val (.ref se), .val (.ref ob), .val (.int kk), .val (.int (0 : Int32)), .val (.int (1 : Int32)), .val (.long (1 : Int64)), .second, .unset, .unset, .unset, .unset] [(.int (lcmpW (1 : Int64) life))])) _
          refine XS.ifNo X2.here hx rfl (hb hby at_219) rfl ((if0 _ _).trans (flt (fun q => h219_101 ((lw_lt _ _).mp q))).1) ?_
          exact kt
        have Y149 : Old Z n0 T1.heap := (Ol.keep K1 (allS (by omega) all0))
        obtain ⟨T150, X150, e150, st150⟩ := getS2 X2 hx hZ hown (host := "") (Or.inl (hw _ (List.mem_of_getElem? (i := 194) rfl))) Via.refl e2 (S_CLOSE.ext Y149.2) (g := (mkF m 222 #[.val (.long q0), .second, .val (.int p1), .val (.int p2), .val (.int p3), .val (.int p4), .val (.long life), .second, .val (.int p8), .val (.ref se), .val (.ref ob), .val (.int kk), .val (.int (0 : Int32)), .val (.int (1 : Int32)), .val (.long (1 : Int64)), .second, .unset, .unset, .unset, .unset] [])) rfl (hb hby at_222)
        refine Go.pre st150 ?_
        show Go p e below s _ _ _ (T150.setTop (mkF m 225 #[.val (.long q0), .second, .val (.int p1), .val (.int p2), .val (.int p3), .val (.int p4), .val (.long life), .second, .val (.int p8), .val (.ref se), .val (.ref ob), .val (.int kk), .val (.int (0 : Int32)), .val (.int (1 : Int32)), .val (.long (1 : Int64)), .second, .unset, .unset, .unset, .unset] [(.ref zC)]))
        refine Go.pre (st' := T150.setTop (mkF m 253 #[.val (.long q0), .second, .val (.int p1), .val (.int p2), .val (.int p3), .val (.int p4), .val (.long life), .second, .val (.int p8), .val (.ref se), .val (.ref ob), .val (.int kk), .val (.int (0 : Int32)), .val (.int (1 : Int32)), .val (.long (1 : Int64)), .second, .val (.ref zC), .val (.long (0 : Int64)), .second, .unset] [(.int (lcmpW (0 : Int64) life))])) (fun target kt => ?_) ?_
        · show Steps p.tables e below (T150.setTop (mkF m 225 #[.val (.long q0), .second, .val (.int p1), .val (.int p2), .val (.int p3), .val (.int p4), .val (.long life), .second, .val (.int p8), .val (.ref se), .val (.ref ob), .val (.int kk), .val (.int (0 : Int32)), .val (.int (1 : Int32)), .val (.long (1 : Int64)), .second, .unset, .unset, .unset, .unset] [(.ref zC)])) _
          refine XS.goto X150.here hx rfl (pc0 := 225) (pc' := 231) rfl (hb hby at_225) (by decide) (by decide) ?_
          show Steps p.tables e below (T150.setTop (mkF m 231 #[.val (.long q0), .second, .val (.int p1), .val (.int p2), .val (.int p3), .val (.int p4), .val (.long life), .second, .val (.int p8), .val (.ref se), .val (.ref ob), .val (.int kk), .val (.int (0 : Int32)), .val (.int (1 : Int32)), .val (.long (1 : Int64)), .second, .unset, .unset, .unset, .unset] [(.ref zC)])) _
          refine XS.astore X150.here hx rfl (hb hby at_231) rfl rfl (l' := #[.val (.long q0), .second, .val (.int p1), .val (.int p2), .val (.int p3), .val (.int p4), .val (.long life), .second, .val (.int p8), .val (.ref se), .val (.ref ob), .val (.int kk), .val (.int (0 : Int32)), .val (.int (1 : Int32)), .val (.long (1 : Int64)), .second, .val (.ref zC), .unset, .unset, .unset]) rfl ?_
          show Steps p.tables e below (T150.setTop (mkF m 233 #[.val (.long q0), .second, .val (.int p1), .val (.int p2), .val (.int p3), .val (.int p4), .val (.long life), .second, .val (.int p8), .val (.ref se), .val (.ref ob), .val (.int kk), .val (.int (0 : Int32)), .val (.int (1 : Int32)), .val (.long (1 : Int64)), .second, .val (.ref zC), .unset, .unset, .unset] [])) _
          refine XS.iload X150.here hx rfl (hb hby at_233) rfl ?_
          show Steps p.tables e below (T150.setTop (mkF m 235 #[.val (.long q0), .second, .val (.int p1), .val (.int p2), .val (.int p3), .val (.int p4), .val (.long life), .second, .val (.int p8), .val (.ref se), .val (.ref ob), .val (.int kk), .val (.int (0 : Int32)), .val (.int (1 : Int32)), .val (.long (1 : Int64)), .second, .val (.ref zC), .unset, .unset, .unset] [(.int (1 : Int32))])) _
          refine XS.ifNo X150.here hx rfl (hb hby at_235) rfl ((if0 _ _).trans (feq (by decide)).1) ?_
          show Steps p.tables e below (T150.setTop (mkF m 238 #[.val (.long q0), .second, .val (.int p1), .val (.int p2), .val (.int p3), .val (.int p4), .val (.long life), .second, .val (.int p8), .val (.ref se), .val (.ref ob), .val (.int kk), .val (.int (0 : Int32)), .val (.int (1 : Int32)), .val (.long (1 : Int64)), .second, .val (.ref zC), .unset, .unset, .unset] [])) _
          refine XS.lconst X150.here hx rfl (hb hby at_238) ?_
          show Steps p.tables e below (T150.setTop (mkF m 239 #[.val (.long q0), .second, .val (.int p1), .val (.int p2), .val (.int p3), .val (.int p4), .val (.long life), .second, .val (.int p8), .val (.ref se), .val (.ref ob), .val (.int kk), .val (.int (0 : Int32)), .val (.int (1 : Int32)), .val (.long (1 : Int64)), .second, .val (.ref zC), .unset, .unset, .unset] [(.long (0 : Int64))])) _
          refine XS.goto X150.here hx rfl (pc0 := 239) (pc' := 246) rfl (hb hby at_239) (by decide) (by decide) ?_
          show Steps p.tables e below (T150.setTop (mkF m 246 #[.val (.long q0), .second, .val (.int p1), .val (.int p2), .val (.int p3), .val (.int p4), .val (.long life), .second, .val (.int p8), .val (.ref se), .val (.ref ob), .val (.int kk), .val (.int (0 : Int32)), .val (.int (1 : Int32)), .val (.long (1 : Int64)), .second, .val (.ref zC), .unset, .unset, .unset] [(.long (0 : Int64))])) _
          refine XS.lstore X150.here hx rfl (hb hby at_246) rfl (l' := #[.val (.long q0), .second, .val (.int p1), .val (.int p2), .val (.int p3), .val (.int p4), .val (.long life), .second, .val (.int p8), .val (.ref se), .val (.ref ob), .val (.int kk), .val (.int (0 : Int32)), .val (.int (1 : Int32)), .val (.long (1 : Int64)), .second, .val (.ref zC), .val (.long (0 : Int64)), .second, .unset]) rfl ?_
          show Steps p.tables e below (T150.setTop (mkF m 248 #[.val (.long q0), .second, .val (.int p1), .val (.int p2), .val (.int p3), .val (.int p4), .val (.long life), .second, .val (.int p8), .val (.ref se), .val (.ref ob), .val (.int kk), .val (.int (0 : Int32)), .val (.int (1 : Int32)), .val (.long (1 : Int64)), .second, .val (.ref zC), .val (.long (0 : Int64)), .second, .unset] [])) _
          refine XS.lload X150.here hx rfl (hb hby at_248) rfl ?_
          show Steps p.tables e below (T150.setTop (mkF m 250 #[.val (.long q0), .second, .val (.int p1), .val (.int p2), .val (.int p3), .val (.int p4), .val (.long life), .second, .val (.int p8), .val (.ref se), .val (.ref ob), .val (.int kk), .val (.int (0 : Int32)), .val (.int (1 : Int32)), .val (.long (1 : Int64)), .second, .val (.ref zC), .val (.long (0 : Int64)), .second, .unset] [(.long (0 : Int64))])) _
          refine XS.lload X150.here hx rfl (hb hby at_250) rfl ?_
          show Steps p.tables e below (T150.setTop (mkF m 252 #[.val (.long q0), .second, .val (.int p1), .val (.int p2), .val (.int p3), .val (.int p4), .val (.long life), .second, .val (.int p8), .val (.ref se), .val (.ref ob), .val (.int kk), .val (.int (0 : Int32)), .val (.int (1 : Int32)), .val (.long (1 : Int64)), .second, .val (.ref zC), .val (.long (0 : Int64)), .second, .unset] [(.long life), (.long (0 : Int64))])) _
          refine XS.lcmp X150.here hx rfl (hb hby at_252) rfl ?_
          exact kt
        by_cases h253_151 : (0 : Int64) < life
        · refine Go.pre (st' := T150.setTop (mkF m 262 #[.val (.long q0), .second, .val (.int p1), .val (.int p2), .val (.int p3), .val (.int p4), .val (.long life), .second, .val (.int p8), .val (.ref se), .val (.ref ob), .val (.int kk), .val (.int (0 : Int32)), .val (.int (1 : Int32)), .val (.long (1 : Int64)), .second, .val (.ref zC), .val (.long (0 : Int64)), .second, .unset] [])) (fun target kt => ?_) ?_
          · show Steps p.tables e below (T150.setTop (mkF m 253 #[.val (.long q0), .second, .val (.int p1), .val (.int p2), .val (.int p3), .val (.int p4), .val (.long life), .second, .val (.int p8), .val (.ref se), .val (.ref ob), .val (.int kk), .val (.int (0 : Int32)), .val (.int (1 : Int32)), .val (.long (1 : Int64)), .second, .val (.ref zC), .val (.long (0 : Int64)), .second, .unset] [(.int (lcmpW (0 : Int64) life))])) _
            refine XS.ifYes X150.here hx rfl (pc0 := 253) (pc' := 262) rfl (hb hby at_253) rfl ((if0 _ _).trans (tlt ((lw_lt _ _).mpr h253_151)).1) (by decide) (by decide) ?_
            exact kt
          obtain ⟨T152, X152, e152, st152⟩ := getS2 X150 hx hZ hown (host := "") (Or.inl (hw _ (List.mem_of_getElem? (i := 155) rfl))) Via.refl e150 (S_DUE.ext Y149.2) (g := (mkF m 262 #[.val (.long q0), .second, .val (.int p1), .val (.int p2), .val (.int p3), .val (.int p4), .val (.long life), .second, .val (.int p8), .val (.ref se), .val (.ref ob), .val (.int kk), .val (.int (0 : Int32)), .val (.int (1 : Int32)), .val (.long (1 : Int64)), .second, .val (.ref zC), .val (.long (0 : Int64)), .second, .unset] [])) rfl (hb hby at_262)
          refine Go.pre st152 ?_
          show Go p e below s _ _ _ (T152.setTop (mkF m 265 #[.val (.long q0), .second, .val (.int p1), .val (.int p2), .val (.int p3), .val (.int p4), .val (.long life), .second, .val (.int p8), .val (.ref se), .val (.ref ob), .val (.int kk), .val (.int (0 : Int32)), .val (.int (1 : Int32)), .val (.long (1 : Int64)), .second, .val (.ref zC), .val (.long (0 : Int64)), .second, .unset] [(.ref zD)]))
          refine Go.pre (st' := T152.setTop (mkF m 271 #[.val (.long q0), .second, .val (.int p1), .val (.int p2), .val (.int p3), .val (.int p4), .val (.long life), .second, .val (.int p8), .val (.ref se), .val (.ref ob), .val (.int kk), .val (.int (0 : Int32)), .val (.int (1 : Int32)), .val (.long (1 : Int64)), .second, .val (.ref zC), .val (.long (0 : Int64)), .second, .val (.ref zD)] [(.int (0 : Int32)), (.ref ob)])) (fun target kt => ?_) ?_
          · show Steps p.tables e below (T152.setTop (mkF m 265 #[.val (.long q0), .second, .val (.int p1), .val (.int p2), .val (.int p3), .val (.int p4), .val (.long life), .second, .val (.int p8), .val (.ref se), .val (.ref ob), .val (.int kk), .val (.int (0 : Int32)), .val (.int (1 : Int32)), .val (.long (1 : Int64)), .second, .val (.ref zC), .val (.long (0 : Int64)), .second, .unset] [(.ref zD)])) _
            refine XS.astore X152.here hx rfl (hb hby at_265) rfl rfl (l' := #[.val (.long q0), .second, .val (.int p1), .val (.int p2), .val (.int p3), .val (.int p4), .val (.long life), .second, .val (.int p8), .val (.ref se), .val (.ref ob), .val (.int kk), .val (.int (0 : Int32)), .val (.int (1 : Int32)), .val (.long (1 : Int64)), .second, .val (.ref zC), .val (.long (0 : Int64)), .second, .val (.ref zD)]) rfl ?_
            show Steps p.tables e below (T152.setTop (mkF m 267 #[.val (.long q0), .second, .val (.int p1), .val (.int p2), .val (.int p3), .val (.int p4), .val (.long life), .second, .val (.int p8), .val (.ref se), .val (.ref ob), .val (.int kk), .val (.int (0 : Int32)), .val (.int (1 : Int32)), .val (.long (1 : Int64)), .second, .val (.ref zC), .val (.long (0 : Int64)), .second, .val (.ref zD)] [])) _
            refine XS.aload X152.here hx rfl (hb hby at_267) rfl rfl ?_
            show Steps p.tables e below (T152.setTop (mkF m 269 #[.val (.long q0), .second, .val (.int p1), .val (.int p2), .val (.int p3), .val (.int p4), .val (.long life), .second, .val (.int p8), .val (.ref se), .val (.ref ob), .val (.int kk), .val (.int (0 : Int32)), .val (.int (1 : Int32)), .val (.long (1 : Int64)), .second, .val (.ref zC), .val (.long (0 : Int64)), .second, .val (.ref zD)] [(.ref ob)])) _
            refine XS.iload X152.here hx rfl (hb hby at_269) rfl ?_
            exact kt
          have Y154 : Fld Z T1.heap ob "com/example/pulsekeep/pulsekeep/core/Subscription" "settings" "Lcom/example/pulsekeep/pulsekeep/core/SubscriptionSettings;" (.ref se) := (KF1 _ _ _ _ _ F_settings (pallS (Or.inr (slot_ne (Or.inl (hw _ (List.mem_of_getElem? (i := 114) rfl))) (Or.inl (hw _ (List.mem_of_getElem? (i := 130) rfl))) (by decide) (t := (.object "com/example/pulsekeep/pulsekeep/core/SubscriptionSettings")) (t' := .boolean) (by decide) (by decide))) (pallS (Or.inr (slot_ne (Or.inl (hw _ (List.mem_of_getElem? (i := 114) rfl))) (Or.inl (hw _ (List.mem_of_getElem? (i := 139) rfl))) (by decide) (t := (.object "com/example/pulsekeep/pulsekeep/core/SubscriptionSettings")) (t' := .boolean) (by decide) (by decide))) (pallS (Or.inr (slot_ne (Or.inl (hw _ (List.mem_of_getElem? (i := 114) rfl))) (Or.inl (hw _ (List.mem_of_getElem? (i := 149) rfl))) (by decide) (t := (.object "com/example/pulsekeep/pulsekeep/core/SubscriptionSettings")) (t' := .long) (by decide) (by decide))) (pallS (Or.inr (slot_ne (Or.inl (hw _ (List.mem_of_getElem? (i := 114) rfl))) (Or.inl (hw _ (List.mem_of_getElem? (i := 132) rfl))) (by decide) (t := (.object "com/example/pulsekeep/pulsekeep/core/SubscriptionSettings")) (t' := .long) (by decide) (by decide))) pall0)))))
          have Y155 : Fld Z T1.heap ob "com/example/pulsekeep/pulsekeep/core/Subscription" "items" "Ljava/util/List;" (.ref il) := (KF1 _ _ _ _ _ F_items (pallS (Or.inr (slot_ne (Or.inr (hw _ (List.mem_of_getElem? (i := 88) rfl))) (Or.inl (hw _ (List.mem_of_getElem? (i := 130) rfl))) (by decide) (t := (.object "java/util/List")) (t' := .boolean) (by decide) (by decide))) (pallS (Or.inr (slot_ne (Or.inr (hw _ (List.mem_of_getElem? (i := 88) rfl))) (Or.inl (hw _ (List.mem_of_getElem? (i := 139) rfl))) (by decide) (t := (.object "java/util/List")) (t' := .boolean) (by decide) (by decide))) (pallS (Or.inr (slot_ne (Or.inr (hw _ (List.mem_of_getElem? (i := 88) rfl))) (Or.inl (hw _ (List.mem_of_getElem? (i := 149) rfl))) (by decide) (t := (.object "java/util/List")) (t' := .long) (by decide) (by decide))) (pallS (Or.inr (slot_ne (Or.inr (hw _ (List.mem_of_getElem? (i := 88) rfl))) (Or.inl (hw _ (List.mem_of_getElem? (i := 132) rfl))) (by decide) (t := (.object "java/util/List")) (t' := .long) (by decide) (by decide))) pall0)))))
          have Y156 : Exa Z T1.heap se "com/example/pulsekeep/pulsekeep/core/SubscriptionSettings" := (E_se.keep K1)
          have Y157 : Fld Z T1.heap se "com/example/pulsekeep/pulsekeep/core/SubscriptionSettings" "publishingEnabled" "Z" (.int en) := (F_en.keep K1 (ninS (ne_exa E_se E_o (by decide)) nin0))
          have Y158 : Exa Z T1.heap il "java/util/ArrayList" := (E_il.keep K1)
          have Y159 : Fld Z T1.heap il "java/util/AbstractList" "modCount" "I" (.int mc) := (F_mc.keep K1 (ninS (ne_exa E_il E_o (by decide)) nin0))
          have Y160 : Fld Z T1.heap il "java/util/ArrayList" "size" "I" (.int (0 : Int32)) := (F_size.keep K1 (ninS (ne_exa E_il E_o (by decide)) nin0))
          have Y161 : Fld Z T1.heap se "com/example/pulsekeep/pulsekeep/core/SubscriptionSettings" "lifetimeCount" "J" (.long life) := (F_life.keep K1 (ninS (ne_exa E_se E_o (by decide)) nin0))
          obtain ⟨cq153, kq153, q153a, q153b, q153c⟩ := isOf hZ e152 Y3
          obtain ⟨_, _, ⟨T153, L153, k153, n153⟩, -, X153, ⟨Lc153, hQ153, l153, y153, z153⟩, st153⟩ := X152.virtualBack hx (y := (⟨"com/example/pulsekeep/pulsekeep/core/Subscription", "endCycle", "(Z)Lcom/example/pulsekeep/pulsekeep/core/Subscription$CycleEnd;"⟩ : MethodName)) (z := (⟨"com/example/pulsekeep/pulsekeep/core/Subscription", "endCycle", "(Z)Lcom/example/pulsekeep/pulsekeep/core/Subscription$CycleEnd;"⟩ : MethodName)) hown (mvT hZ (hw _ (List.mem_of_getElem? (i := 115) rfl))) (mvT hZ (hw _ (List.mem_of_getElem? (i := 116) rfl))) (notFace_of_selects (args := #[]) (mvT hZ (hw _ (List.mem_of_getElem? (i := 118) rfl)))) (mvT hZ (hw _ (List.mem_of_getElem? (i := 118) rfl))) (mvT hZ (hw _ (List.mem_of_getElem? (i := 117) rfl))) (by decide) (backOf (W := 0) (rm11 l Z a0 hw [] ob (0 : Int32) se il en mc life (0 : Int64) (0 : Int32) zD zC T1.heap n0 (by omega) Y3 Y154 Y155 Y156 Y157 Y158 Y159 Y160 Y161 Y1_0 Y1_3 Y1_1 S_DUE S_CLOSE Y149 (by omega)) hZ (hw _ (List.mem_of_getElem? (i := 119) rfl)) (hw _ (List.mem_of_getElem? (i := 29) rfl)) (by decide) (by decide)) q153a q153c (g := (mkF m 271 #[.val (.long q0), .second, .val (.int p1), .val (.int p2), .val (.int p3), .val (.int p4), .val (.long life), .second, .val (.int p8), .val (.ref se), .val (.ref ob), .val (.int kk), .val (.int (0 : Int32)), .val (.int (1 : Int32)), .val (.long (1 : Int64)), .second, .val (.ref zC), .val (.long (0 : Int64)), .second, .val (.ref zD)] [(.int (0 : Int32)), (.ref ob)])) rfl (by rw [hml]; rfl) (Steps.refl _) (argsL := [(.int (0 : Int32))]) (rest := []) (lenOf pd159_2 rfl) rfl (by show 2 * 0 + _ ≤ _; exact Nat.le_of_eq rfl) (hb hby at_271) (fun vm₁ hvm => ⟨rfl, e152, (by decide : 15 + 1 ≤ _), (by decide : 112 + 4 ≤ _)⟩)
          dsimp only [Pt.U, Pt.locs, Pt.cells, Pt.slots] at X153 l153 y153 z153 st153 hQ153
          subst l153 y153 z153
          obtain ⟨rfl, N153q, K153, KF153, Fc153, Fd153⟩ := hQ153
          have sz153 : T1.heap.size ≤ T153.heap.size := K153.1
          have N153 := Fr.app N2 N153q
          refine Go.trans st153 ?_
          show Go p e below s _ _ _ (T153.setTop (mkF m 274 #[.val (.long q0), .second, .val (.int p1), .val (.int p2), .val (.int p3), .val (.int p4), .val (.long life), .second, .val (.int p8), .val (.ref se), .val (.ref ob), .val (.int kk), .val (.int (0 : Int32)), .val (.int (1 : Int32)), .val (.long (1 : Int64)), .second, .val (.ref zC), .val (.long (0 : Int64)), .second, .val (.ref zD)] [(.ref (own_end life (own_nc (0 : Int32) (0 : Int64)) zD zC))]))
          rw [show own_end life (own_nc (0 : Int32) (0 : Int64)) zD zC = zC from by rw [own_end, show (own_nc (0 : Int32) (0 : Int64)) = (1 : Int64) from by decide, if_neg h219_101]]
          refine Go.pre (st' := T153.setTop (mkF m 283 #[.val (.long q0), .second, .val (.int p1), .val (.int p2), .val (.int p3), .val (.int p4), .val (.long life), .second, .val (.int p8), .val (.ref se), .val (.ref ob), .val (.int kk), .val (.int (0 : Int32)), .val (.int (1 : Int32)), .val (.long (1 : Int64)), .second, .val (.ref zC), .val (.long (0 : Int64)), .second, .val (.ref zD)] [(.int (1 : Int32)), (.ref ob)])) (fun target kt => ?_) ?_
          · show Steps p.tables e below (T153.setTop (mkF m 274 #[.val (.long q0), .second, .val (.int p1), .val (.int p2), .val (.int p3), .val (.int p4), .val (.long life), .second, .val (.int p8), .val (.ref se), .val (.ref ob), .val (.int kk), .val (.int (0 : Int32)), .val (.int (1 : Int32)), .val (.long (1 : Int64)), .second, .val (.ref zC), .val (.long (0 : Int64)), .second, .val (.ref zD)] [(.ref zC)])) _
            refine XS.aload X153.here hx rfl (hb hby at_274) rfl rfl ?_
            show Steps p.tables e below (T153.setTop (mkF m 276 #[.val (.long q0), .second, .val (.int p1), .val (.int p2), .val (.int p3), .val (.int p4), .val (.long life), .second, .val (.int p8), .val (.ref se), .val (.ref ob), .val (.int kk), .val (.int (0 : Int32)), .val (.int (1 : Int32)), .val (.long (1 : Int64)), .second, .val (.ref zC), .val (.long (0 : Int64)), .second, .val (.ref zD)] [(.ref zC), (.ref zC)])) _
            refine Jvm.RoadKit.acmp (g := (mkF m 276 #[.val (.long q0), .second, .val (.int p1), .val (.int p2), .val (.int p3), .val (.int p4), .val (.long life), .second, .val (.int p8), .val (.ref se), .val (.ref ob), .val (.int kk), .val (.int (0 : Int32)), .val (.int (1 : Int32)), .val (.long (1 : Int64)), .second, .val (.ref zC), .val (.long (0 : Int64)), .second, .val (.ref zD)] [(.ref zC), (.ref zC)])) X153 hx rfl rfl rfl (pc0 := 276) (pc' := 279) (same := true) rfl (hb hby at_276) rfl (decide_eq_true rfl) (by decide) (by decide) ?_
            show Steps p.tables e below (T153.setTop (mkF m 279 #[.val (.long q0), .second, .val (.int p1), .val (.int p2), .val (.int p3), .val (.int p4), .val (.long life), .second, .val (.int p8), .val (.ref se), .val (.ref ob), .val (.int kk), .val (.int (0 : Int32)), .val (.int (1 : Int32)), .val (.long (1 : Int64)), .second, .val (.ref zC), .val (.long (0 : Int64)), .second, .val (.ref zD)] [])) _
            refine XS.aload X153.here hx rfl (hb hby at_279) rfl rfl ?_
            show Steps p.tables e below (T153.setTop (mkF m 281 #[.val (.long q0), .second, .val (.int p1), .val (.int p2), .val (.int p3), .val (.int p4), .val (.long life), .second, .val (.int p8), .val (.ref se), .val (.ref ob), .val (.int kk), .val (.int (0 : Int32)), .val (.int (1 : Int32)), .val (.long (1 : Int64)), .second, .val (.ref zC), .val (.long (0 : Int64)), .second, .val (.ref zD)] [(.ref ob)])) _
            refine XS.iload X153.here hx rfl (hb hby at_281) rfl ?_
            exact kt
          have Y163 : Exa Z T153.heap ob "com/example/pulsekeep/pulsekeep/core/Subscription" := (Y3.keep K153)
          have Y164 : Fld Z T153.heap ob "com/example/pulsekeep/pulsekeep/core/Subscription" "settings" "Lcom/example/pulsekeep/pulsekeep/core/SubscriptionSettings;" (.ref se) := (KF153 _ _ _ _ _ Y154 (pallS (Or.inr (slot_ne (Or.inl (hw _ (List.mem_of_getElem? (i := 114) rfl))) (Or.inl (hw _ (List.mem_of_getElem? (i := 132) rfl))) (by decide) (t := (.object "com/example/pulsekeep/pulsekeep/core/SubscriptionSettings")) (t' := .long) (by decide) (by decide))) (pallS (Or.inr (slot_ne (Or.inl (hw _ (List.mem_of_getElem? (i := 114) rfl))) (Or.inl (hw _ (List.mem_of_getElem? (i := 139) rfl))) (by decide) (t := (.object "com/example/pulsekeep/pulsekeep/core/SubscriptionSettings")) (t' := .boolean) (by decide) (by decide))) pall0)))
          have Y165 : Fld Z T153.heap ob "com/example/pulsekeep/pulsekeep/core/Subscription" "items" "Ljava/util/List;" (.ref il) := (KF153 _ _ _ _ _ Y155 (pallS (Or.inr (slot_ne (Or.inr (hw _ (List.mem_of_getElem? (i := 88) rfl))) (Or.inl (hw _ (List.mem_of_getElem? (i := 132) rfl))) (by decide) (t := (.object "java/util/List")) (t' := .long) (by decide) (by decide))) (pallS (Or.inr (slot_ne (Or.inr (hw _ (List.mem_of_getElem? (i := 88) rfl))) (Or.inl (hw _ (List.mem_of_getElem? (i := 139) rfl))) (by decide) (t := (.object "java/util/List")) (t' := .boolean) (by decide) (by decide))) pall0)))
          have Y166 : Exa Z T153.heap se "com/example/pulsekeep/pulsekeep/core/SubscriptionSettings" := (Y156.keep K153)
          have Y167 : Fld Z T153.heap se "com/example/pulsekeep/pulsekeep/core/SubscriptionSettings" "publishingEnabled" "Z" (.int en) := (Y157.keep K153 (ninS (ne_exa E_se E_o (by decide)) nin0))
          have Y168 : Exa Z T153.heap il "java/util/ArrayList" := (Y158.keep K153)
          have Y169 : Fld Z T153.heap il "java/util/AbstractList" "modCount" "I" (.int mc) := (Y159.keep K153 (ninS (ne_exa E_il E_o (by decide)) nin0))
          have Y170 : Fld Z T153.heap il "java/util/ArrayList" "size" "I" (.int (0 : Int32)) := (Y160.keep K153 (ninS (ne_exa E_il E_o (by decide)) nin0))
          have Y171 : Fld Z T153.heap se "com/example/pulsekeep/pulsekeep/core/SubscriptionSettings" "lifetimeCount" "J" (.long life) := (Y161.keep K153 (ninS (ne_exa E_se E_o (by decide)) nin0))
          have Y172 : Fld Z T153.heap ob "com/example/pulsekeep/pulsekeep/core/Subscription" "messageSent" "Z" (.int (0 : Int32)) := (KF153 _ _ _ _ _ Y1_0 (pallS (Or.inr (slot_ne (Or.inl (hw _ (List.mem_of_getElem? (i := 130) rfl))) (Or.inl (hw _ (List.mem_of_getElem? (i := 132) rfl))) (by decide) (t := .boolean) (t' := .long) (by decide) (by decide))) (pallS (Or.inr (slot_ne (Or.inl (hw _ (List.mem_of_getElem? (i := 130) rfl))) (Or.inl (hw _ (List.mem_of_getElem? (i := 139) rfl))) (by decide) (t := .boolean) (t' := .boolean) (by decide) (by decide))) pall0)))
          have Y173 : Old Z n0 T153.heap := (Y149.keep K153 (allS (by omega) all0))
          obtain ⟨cq162, kq162, q162a, q162b, q162c⟩ := isOf hZ rfl Y163
          obtain ⟨_, _, ⟨T162, L162, k162, n162⟩, -, X162, ⟨Lc162, hQ162, l162, y162, z162⟩, st162⟩ := X153.virtualBack hx (y := (⟨"com/example/pulsekeep/pulsekeep/core/Subscription", "endCycle", "(Z)Lcom/example/pulsekeep/pulsekeep/core/Subscription$CycleEnd;"⟩ : MethodName)) (z := (⟨"com/example/pulsekeep/pulsekeep/core/Subscription", "endCycle", "(Z)Lcom/example/pulsekeep/pulsekeep/core/Subscription$CycleEnd;"⟩ : MethodName)) hown (mvT hZ (hw _ (List.mem_of_getElem? (i := 115) rfl))) (mvT hZ (hw _ (List.mem_of_getElem? (i := 116) rfl))) (notFace_of_selects (args := #[]) (mvT hZ (hw _ (List.mem_of_getElem? (i := 118) rfl)))) (mvT hZ (hw _ (List.mem_of_getElem? (i := 118) rfl))) (mvT hZ (hw _ (List.mem_of_getElem? (i := 117) rfl))) (by decide) (backOf (W := 0) (rm11 l Z a0 hw [] ob (1 : Int32) se il en mc life (own_nc (0 : Int32) (0 : Int64)) (own_due life (own_nc (0 : Int32) (0 : Int64)) (0 : Int32)) zD zC T153.heap n0 (by omega) Y163 Y164 Y165 Y166 Y167 Y168 Y169 Y170 Y171 Y172 Fc153 Fd153 S_DUE S_CLOSE Y173 (by omega)) hZ (hw _ (List.mem_of_getElem? (i := 119) rfl)) (hw _ (List.mem_of_getElem? (i := 29) rfl)) (by decide) (by decide)) q162a q162c (g := (mkF m 283 #[.val (.long q0), .second, .val (.int p1), .val (.int p2), .val (.int p3), .val (.int p4), .val (.long life), .second, .val (.int p8), .val (.ref se), .val (.ref ob), .val (.int kk), .val (.int (0 : Int32)), .val (.int (1 : Int32)), .val (.long (1 : Int64)), .second, .val (.ref zC), .val (.long (0 : Int64)), .second, .val (.ref zD)] [(.int (1 : Int32)), (.ref ob)])) rfl (by rw [hml]; rfl) (Steps.refl _) (argsL := [(.int (1 : Int32))]) (rest := []) (lenOf pd159_2 rfl) rfl (by show 2 * 0 + _ ≤ _; exact Nat.le_of_eq rfl) (hb hby at_283) (fun vm₁ hvm => ⟨rfl, rfl, (by decide : 16 + 1 ≤ _), (by decide : 116 + 4 ≤ _)⟩)
          dsimp only [Pt.U, Pt.locs, Pt.cells, Pt.slots] at X162 l162 y162 z162 st162 hQ162
          subst l162 y162 z162
          obtain ⟨rfl, N162q, K162, KF162, Fc162, Fd162⟩ := hQ162
          have sz162 : T153.heap.size ≤ T162.heap.size := K162.1
          have N162 := Fr.app N153 N162q
          refine Go.trans st162 ?_
          show Go p e below s _ _ _ (T162.setTop (mkF m 286 #[.val (.long q0), .second, .val (.int p1), .val (.int p2), .val (.int p3), .val (.int p4), .val (.long life), .second, .val (.int p8), .val (.ref se), .val (.ref ob), .val (.int kk), .val (.int (0 : Int32)), .val (.int (1 : Int32)), .val (.long (1 : Int64)), .second, .val (.ref zC), .val (.long (0 : Int64)), .second, .val (.ref zD)] [(.ref (own_end life (own_nc (1 : Int32) (own_nc (0 : Int32) (0 : Int64))) zD zC))]))
          rw [show own_end life (own_nc (1 : Int32) (own_nc (0 : Int32) (0 : Int64))) zD zC = zD from by rw [own_end, show (own_nc (1 : Int32) (own_nc (0 : Int32) (0 : Int64))) = (0 : Int64) from by decide, if_pos h253_151]]
          refine Go.pre (st' := T162.setTop (mkF m 296 #[.val (.long q0), .second, .val (.int p1), .val (.int p2), .val (.int p3), .val (.int p4), .val (.long life), .second, .val (.int p8), .val (.ref se), .val (.ref ob), .val (.int kk), .val (.int (0 : Int32)), .val (.int (1 : Int32)), .val (.long (1 : Int64)), .second, .val (.ref zC), .val (.long (0 : Int64)), .second, .val (.ref zD)] [(.int (1 : Int32))])) (fun target kt => ?_) ?_
          · show Steps p.tables e below (T162.setTop (mkF m 286 #[.val (.long q0), .second, .val (.int p1), .val (.int p2), .val (.int p3), .val (.int p4), .val (.long life), .second, .val (.int p8), .val (.ref se), .val (.ref ob), .val (.int kk), .val (.int (0 : Int32)), .val (.int (1 : Int32)), .val (.long (1 : Int64)), .second, .val (.ref zC), .val (.long (0 : Int64)), .second, .val (.ref zD)] [(.ref zD)])) _
            refine XS.aload X162.here hx rfl (hb hby at_286) rfl rfl ?_
            show Steps p.tables e below (T162.setTop (mkF m 288 #[.val (.long q0), .second, .val (.int p1), .val (.int p2), .val (.int p3), .val (.int p4), .val (.long life), .second, .val (.int p8), .val (.ref se), .val (.ref ob), .val (.int kk), .val (.int (0 : Int32)), .val (.int (1 : Int32)), .val (.long (1 : Int64)), .second, .val (.ref zC), .val (.long (0 : Int64)), .second, .val (.ref zD)] [(.ref zD), (.ref zD)])) _
            refine Jvm.RoadKit.acmp (g := (mkF m 288 #[.val (.long q0), .second, .val (.int p1), .val (.int p2), .val (.int p3), .val (.int p4), .val (.long life), .second, .val (.int p8), .val (.ref se), .val (.ref ob), .val (.int kk), .val (.int (0 : Int32)), .val (.int (1 : Int32)), .val (.long (1 : Int64)), .second, .val (.ref zC), .val (.long (0 : Int64)), .second, .val (.ref zD)] [(.ref zD), (.ref zD)])) X162 hx rfl rfl rfl (pc0 := 288) (pc' := 291) (same := true) rfl (hb hby at_288) rfl (decide_eq_true rfl) (by decide) (by decide) ?_
            show Steps p.tables e below (T162.setTop (mkF m 291 #[.val (.long q0), .second, .val (.int p1), .val (.int p2), .val (.int p3), .val (.int p4), .val (.long life), .second, .val (.int p8), .val (.ref se), .val (.ref ob), .val (.int kk), .val (.int (0 : Int32)), .val (.int (1 : Int32)), .val (.long (1 : Int64)), .second, .val (.ref zC), .val (.long (0 : Int64)), .second, .val (.ref zD)] [])) _
            refine XS.iconst X162.here hx rfl (hb hby at_291) ?_
            show Steps p.tables e below (T162.setTop (mkF m 292 #[.val (.long q0), .second, .val (.int p1), .val (.int p2), .val (.int p3), .val (.int p4), .val (.long life), .second, .val (.int p8), .val (.ref se), .val (.ref ob), .val (.int kk), .val (.int (0 : Int32)), .val (.int (1 : Int32)), .val (.long (1 : Int64)), .second, .val (.ref zC), .val (.long (0 : Int64)), .second, .val (.ref zD)] [(.int (1 : Int32))])) _
            refine XS.goto X162.here hx rfl (pc0 := 292) (pc' := 296) rfl (hb hby at_292) (by decide) (by decide) ?_
            exact kt
          exact Go.retN X162 hx hlk hrt (z' := (1 : Int32)) (by simp) (hb hby at_296) rfl (by decide) (by decide) (by exact ⟨rfl, N162⟩)
        · refine Go.pre (st' := T150.setTop (mkF m 256 #[.val (.long q0), .second, .val (.int p1), .val (.int p2), .val (.int p3), .val (.int p4), .val (.long life), .second, .val (.int p8), .val (.ref se), .val (.ref ob), .val (.int kk), .val (.int (0 : Int32)), .val (.int (1 : Int32)), .val (.long (1 : Int64)), .second, .val (.ref zC), .val (.long (0 : Int64)), .second, .unset] [])) (fun target kt => ?_) ?_
          · show Steps p.tables e below (T150.setTop (mkF m 253 #[.val (.long q0), .second, .val (.int p1), .val (.int p2), .val (.int p3), .val (.int p4), .val (.long life), .second, .val (.int p8), .val (.ref se), .val (.ref ob), .val (.int kk), .val (.int (0 : Int32)), .val (.int (1 : Int32)), .val (.long (1 : Int64)), .second, .val (.ref zC), .val (.long (0 : Int64)), .second, .unset] [(.int (lcmpW (0 : Int64) life))])) _
            refine XS.ifNo X150.here hx rfl (hb hby at_253) rfl ((if0 _ _).trans (flt (fun q => h253_151 ((lw_lt _ _).mp q))).1) ?_
            exact kt
          obtain ⟨T174, X174, e174, st174⟩ := getS2 X150 hx hZ hown (host := "") (Or.inl (hw _ (List.mem_of_getElem? (i := 194) rfl))) Via.refl e150 (S_CLOSE.ext Y149.2) (g := (mkF m 256 #[.val (.long q0), .second, .val (.int p1), .val (.int p2), .val (.int p3), .val (.int p4), .val (.long life), .second, .val (.int p8), .val (.ref se), .val (.ref ob), .val (.int kk), .val (.int (0 : Int32)), .val (.int (1 : Int32)), .val (.long (1 : Int64)), .second, .val (.ref zC), .val (.long (0 : Int64)), .second, .unset] [])) rfl (hb hby at_256)
          refine Go.pre st174 ?_
          show Go p e below s _ _ _ (T174.setTop (mkF m 259 #[.val (.long q0), .second, .val (.int p1), .val (.int p2), .val (.int p3), .val (.int p4), .val (.long life), .second, .val (.int p8), .val (.ref se), .val (.ref ob), .val (.int kk), .val (.int (0 : Int32)), .val (.int (1 : Int32)), .val (.long (1 : Int64)), .second, .val (.ref zC), .val (.long (0 : Int64)), .second, .unset] [(.ref zC)]))
          refine Go.pre (st' := T174.setTop (mkF m 271 #[.val (.long q0), .second, .val (.int p1), .val (.int p2), .val (.int p3), .val (.int p4), .val (.long life), .second, .val (.int p8), .val (.ref se), .val (.ref ob), .val (.int kk), .val (.int (0 : Int32)), .val (.int (1 : Int32)), .val (.long (1 : Int64)), .second, .val (.ref zC), .val (.long (0 : Int64)), .second, .val (.ref zC)] [(.int (0 : Int32)), (.ref ob)])) (fun target kt => ?_) ?_
          · show Steps p.tables e below (T174.setTop (mkF m 259 #[.val (.long q0), .second, .val (.int p1), .val (.int p2), .val (.int p3), .val (.int p4), .val (.long life), .second, .val (.int p8), .val (.ref se), .val (.ref ob), .val (.int kk), .val (.int (0 : Int32)), .val (.int (1 : Int32)), .val (.long (1 : Int64)), .second, .val (.ref zC), .val (.long (0 : Int64)), .second, .unset] [(.ref zC)])) _
            refine XS.goto X174.here hx rfl (pc0 := 259) (pc' := 265) rfl (hb hby at_259) (by decide) (by decide) ?_
            show Steps p.tables e below (T174.setTop (mkF m 265 #[.val (.long q0), .second, .val (.int p1), .val (.int p2), .val (.int p3), .val (.int p4), .val (.long life), .second, .val (.int p8), .val (.ref se), .val (.ref ob), .val (.int kk), .val (.int (0 : Int32)), .val (.int (1 : Int32)), .val (.long (1 : Int64)), .second, .val (.ref zC), .val (.long (0 : Int64)), .second, .unset] [(.ref zC)])) _
            refine XS.astore X174.here hx rfl (hb hby at_265) rfl rfl (l' := #[.val (.long q0), .second, .val (.int p1), .val (.int p2), .val (.int p3), .val (.int p4), .val (.long life), .second, .val (.int p8), .val (.ref se), .val (.ref ob), .val (.int kk), .val (.int (0 : Int32)), .val (.int (1 : Int32)), .val (.long (1 : Int64)), .second, .val (.ref zC), .val (.long (0 : Int64)), .second, .val (.ref zC)]) rfl ?_
            show Steps p.tables e below (T174.setTop (mkF m 267 #[.val (.long q0), .second, .val (.int p1), .val (.int p2), .val (.int p3), .val (.int p4), .val (.long life), .second, .val (.int p8), .val (.ref se), .val (.ref ob), .val (.int kk), .val (.int (0 : Int32)), .val (.int (1 : Int32)), .val (.long (1 : Int64)), .second, .val (.ref zC), .val (.long (0 : Int64)), .second, .val (.ref zC)] [])) _
            refine XS.aload X174.here hx rfl (hb hby at_267) rfl rfl ?_
            show Steps p.tables e below (T174.setTop (mkF m 269 #[.val (.long q0), .second, .val (.int p1), .val (.int p2), .val (.int p3), .val (.int p4), .val (.long life), .second, .val (.int p8), .val (.ref se), .val (.ref ob), .val (.int kk), .val (.int (0 : Int32)), .val (.int (1 : Int32)), .val (.long (1 : Int64)), .second, .val (.ref zC), .val (.long (0 : Int64)), .second, .val (.ref zC)] [(.ref ob)])) _
            refine XS.iload X174.here hx rfl (hb hby at_269) rfl ?_
            exact kt
          have Y176 : Fld Z T1.heap ob "com/example/pulsekeep/pulsekeep/core/Subscription" "settings" "Lcom/example/pulsekeep/pulsekeep/core/SubscriptionSettings;" (.ref se) := (KF1 _ _ _ _ _ F_settings (pallS (Or.inr (slot_ne (Or.inl (hw _ (List.mem_of_getElem? (i := 114) rfl))) (Or.inl (hw _ (List.mem_of_getElem? (i := 130) rfl))) (by decide) (t := (.object "com/example/pulsekeep/pulsekeep/core/SubscriptionSettings")) (t' := .boolean) (by decide) (by decide))) (pallS (Or.inr (slot_ne (Or.inl (hw _ (List.mem_of_getElem? (i := 114) rfl))) (Or.inl (hw _ (List.mem_of_getElem? (i := 139) rfl))) (by decide) (t := (.object "com/example/pulsekeep/pulsekeep/core/SubscriptionSettings")) (t' := .boolean) (by decide) (by decide))) (pallS (Or.inr (slot_ne (Or.inl (hw _ (List.mem_of_getElem? (i := 114) rfl))) (Or.inl (hw _ (List.mem_of_getElem? (i := 149) rfl))) (by decide) (t := (.object "com/example/pulsekeep/pulsekeep/core/SubscriptionSettings")) (t' := .long) (by decide) (by decide))) (pallS (Or.inr (slot_ne (Or.inl (hw _ (List.mem_of_getElem? (i := 114) rfl))) (Or.inl (hw _ (List.mem_of_getElem? (i := 132) rfl))) (by decide) (t := (.object "com/example/pulsekeep/pulsekeep/core/SubscriptionSettings")) (t' := .long) (by decide) (by decide))) pall0)))))
          have Y177 : Fld Z T1.heap ob "com/example/pulsekeep/pulsekeep/core/Subscription" "items" "Ljava/util/List;" (.ref il) := (KF1 _ _ _ _ _ F_items (pallS (Or.inr (slot_ne (Or.inr (hw _ (List.mem_of_getElem? (i := 88) rfl))) (Or.inl (hw _ (List.mem_of_getElem? (i := 130) rfl))) (by decide) (t := (.object "java/util/List")) (t' := .boolean) (by decide) (by decide))) (pallS (Or.inr (slot_ne (Or.inr (hw _ (List.mem_of_getElem? (i := 88) rfl))) (Or.inl (hw _ (List.mem_of_getElem? (i := 139) rfl))) (by decide) (t := (.object "java/util/List")) (t' := .boolean) (by decide) (by decide))) (pallS (Or.inr (slot_ne (Or.inr (hw _ (List.mem_of_getElem? (i := 88) rfl))) (Or.inl (hw _ (List.mem_of_getElem? (i := 149) rfl))) (by decide) (t := (.object "java/util/List")) (t' := .long) (by decide) (by decide))) (pallS (Or.inr (slot_ne (Or.inr (hw _ (List.mem_of_getElem? (i := 88) rfl))) (Or.inl (hw _ (List.mem_of_getElem? (i := 132) rfl))) (by decide) (t := (.object "java/util/List")) (t' := .long) (by decide) (by decide))) pall0)))))
          have Y178 : Exa Z T1.heap se "com/example/pulsekeep/pulsekeep/core/SubscriptionSettings" := (E_se.keep K1)
          have Y179 : Fld Z T1.heap se "com/example/pulsekeep/pulsekeep/core/SubscriptionSettings" "publishingEnabled" "Z" (.int en) := (F_en.keep K1 (ninS (ne_exa E_se E_o (by decide)) nin0))
          have Y180 : Exa Z T1.heap il "java/util/ArrayList" := (E_il.keep K1)
          have Y181 : Fld Z T1.heap il "java/util/AbstractList" "modCount" "I" (.int mc) := (F_mc.keep K1 (ninS (ne_exa E_il E_o (by decide)) nin0))
          have Y182 : Fld Z T1.heap il "java/util/ArrayList" "size" "I" (.int (0 : Int32)) := (F_size.keep K1 (ninS (ne_exa E_il E_o (by decide)) nin0))
          have Y183 : Fld Z T1.heap se "com/example/pulsekeep/pulsekeep/core/SubscriptionSettings" "lifetimeCount" "J" (.long life) := (F_life.keep K1 (ninS (ne_exa E_se E_o (by decide)) nin0))
          obtain ⟨cq175, kq175, q175a, q175b, q175c⟩ := isOf hZ e174 Y3
          obtain ⟨_, _, ⟨T175, L175, k175, n175⟩, -, X175, ⟨Lc175, hQ175, l175, y175, z175⟩, st175⟩ := X174.virtualBack hx (y := (⟨"com/example/pulsekeep/pulsekeep/core/Subscription", "endCycle", "(Z)Lcom/example/pulsekeep/pulsekeep/core/Subscription$CycleEnd;"⟩ : MethodName)) (z := (⟨"com/example/pulsekeep/pulsekeep/core/Subscription", "endCycle", "(Z)Lcom/example/pulsekeep/pulsekeep/core/Subscription$CycleEnd;"⟩ : MethodName)) hown (mvT hZ (hw _ (List.mem_of_getElem? (i := 115) rfl))) (mvT hZ (hw _ (List.mem_of_getElem? (i := 116) rfl))) (notFace_of_selects (args := #[]) (mvT hZ (hw _ (List.mem_of_getElem? (i := 118) rfl)))) (mvT hZ (hw _ (List.mem_of_getElem? (i := 118) rfl))) (mvT hZ (hw _ (List.mem_of_getElem? (i := 117) rfl))) (by decide) (backOf (W := 0) (rm11 l Z a0 hw [] ob (0 : Int32) se il en mc life (0 : Int64) (0 : Int32) zD zC T1.heap n0 (by omega) Y3 Y176 Y177 Y178 Y179 Y180 Y181 Y182 Y183 Y1_0 Y1_3 Y1_1 S_DUE S_CLOSE Y149 (by omega)) hZ (hw _ (List.mem_of_getElem? (i := 119) rfl)) (hw _ (List.mem_of_getElem? (i := 29) rfl)) (by decide) (by decide)) q175a q175c (g := (mkF m 271 #[.val (.long q0), .second, .val (.int p1), .val (.int p2), .val (.int p3), .val (.int p4), .val (.long life), .second, .val (.int p8), .val (.ref se), .val (.ref ob), .val (.int kk), .val (.int (0 : Int32)), .val (.int (1 : Int32)), .val (.long (1 : Int64)), .second, .val (.ref zC), .val (.long (0 : Int64)), .second, .val (.ref zC)] [(.int (0 : Int32)), (.ref ob)])) rfl (by rw [hml]; rfl) (Steps.refl _) (argsL := [(.int (0 : Int32))]) (rest := []) (lenOf pd159_2 rfl) rfl (by show 2 * 0 + _ ≤ _; exact Nat.le_of_eq rfl) (hb hby at_271) (fun vm₁ hvm => ⟨rfl, e174, (by decide : 15 + 1 ≤ _), (by decide : 112 + 4 ≤ _)⟩)
          dsimp only [Pt.U, Pt.locs, Pt.cells, Pt.slots] at X175 l175 y175 z175 st175 hQ175
          subst l175 y175 z175
          obtain ⟨rfl, N175q, K175, KF175, Fc175, Fd175⟩ := hQ175
          have sz175 : T1.heap.size ≤ T175.heap.size := K175.1
          have N175 := Fr.app N2 N175q
          refine Go.trans st175 ?_
          show Go p e below s _ _ _ (T175.setTop (mkF m 274 #[.val (.long q0), .second, .val (.int p1), .val (.int p2), .val (.int p3), .val (.int p4), .val (.long life), .second, .val (.int p8), .val (.ref se), .val (.ref ob), .val (.int kk), .val (.int (0 : Int32)), .val (.int (1 : Int32)), .val (.long (1 : Int64)), .second, .val (.ref zC), .val (.long (0 : Int64)), .second, .val (.ref zC)] [(.ref (own_end life (own_nc (0 : Int32) (0 : Int64)) zD zC))]))
          rw [show own_end life (own_nc (0 : Int32) (0 : Int64)) zD zC = zC from by rw [own_end, show (own_nc (0 : Int32) (0 : Int64)) = (1 : Int64) from by decide, if_neg h219_101]]
          refine Go.pre (st' := T175.setTop (mkF m 283 #[.val (.long q0), .second, .val (.int p1), .val (.int p2), .val (.int p3), .val (.int p4), .val (.long life), .second, .val (.int p8), .val (.ref se), .val (.ref ob), .val (.int kk), .val (.int (0 : Int32)), .val (.int (1 : Int32)), .val (.long (1 : Int64)), .second, .val (.ref zC), .val (.long (0 : Int64)), .second, .val (.ref zC)] [(.int (1 : Int32)), (.ref ob)])) (fun target kt => ?_) ?_
          · show Steps p.tables e below (T175.setTop (mkF m 274 #[.val (.long q0), .second, .val (.int p1), .val (.int p2), .val (.int p3), .val (.int p4), .val (.long life), .second, .val (.int p8), .val (.ref se), .val (.ref ob), .val (.int kk), .val (.int (0 : Int32)), .val (.int (1 : Int32)), .val (.long (1 : Int64)), .second, .val (.ref zC), .val (.long (0 : Int64)), .second, .val (.ref zC)] [(.ref zC)])) _
            refine XS.aload X175.here hx rfl (hb hby at_274) rfl rfl ?_
            show Steps p.tables e below (T175.setTop (mkF m 276 #[.val (.long q0), .second, .val (.int p1), .val (.int p2), .val (.int p3), .val (.int p4), .val (.long life), .second, .val (.int p8), .val (.ref se), .val (.ref ob), .val (.int kk), .val (.int (0 : Int32)), .val (.int (1 : Int32)), .val (.long (1 : Int64)), .second, .val (.ref zC), .val (.long (0 : Int64)), .second, .val (.ref zC)] [(.ref zC), (.ref zC)])) _
            refine Jvm.RoadKit.acmp (g := (mkF m 276 #[.val (.long q0), .second, .val (.int p1), .val (.int p2), .val (.int p3), .val (.int p4), .val (.long life), .second, .val (.int p8), .val (.ref se), .val (.ref ob), .val (.int kk), .val (.int (0 : Int32)), .val (.int (1 : Int32)), .val (.long (1 : Int64)), .second, .val (.ref zC), .val (.long (0 : Int64)), .second, .val (.ref zC)] [(.ref zC), (.ref zC)])) X175 hx rfl rfl rfl (pc0 := 276) (pc' := 279) (same := true) rfl (hb hby at_276) rfl (decide_eq_true rfl) (by decide) (by decide) ?_
            show Steps p.tables e below (T175.setTop (mkF m 279 #[.val (.long q0), .second, .val (.int p1), .val (.int p2), .val (.int p3), .val (.int p4), .val (.long life), .second, .val (.int p8), .val (.ref se), .val (.ref ob), .val (.int kk), .val (.int (0 : Int32)), .val (.int (1 : Int32)), .val (.long (1 : Int64)), .second, .val (.ref zC), .val (.long (0 : Int64)), .second, .val (.ref zC)] [])) _
            refine XS.aload X175.here hx rfl (hb hby at_279) rfl rfl ?_
            show Steps p.tables e below (T175.setTop (mkF m 281 #[.val (.long q0), .second, .val (.int p1), .val (.int p2), .val (.int p3), .val (.int p4), .val (.long life), .second, .val (.int p8), .val (.ref se), .val (.ref ob), .val (.int kk), .val (.int (0 : Int32)), .val (.int (1 : Int32)), .val (.long (1 : Int64)), .second, .val (.ref zC), .val (.long (0 : Int64)), .second, .val (.ref zC)] [(.ref ob)])) _
            refine XS.iload X175.here hx rfl (hb hby at_281) rfl ?_
            exact kt
          have Y185 : Exa Z T175.heap ob "com/example/pulsekeep/pulsekeep/core/Subscription" := (Y3.keep K175)
          have Y186 : Fld Z T175.heap ob "com/example/pulsekeep/pulsekeep/core/Subscription" "settings" "Lcom/example/pulsekeep/pulsekeep/core/SubscriptionSettings;" (.ref se) := (KF175 _ _ _ _ _ Y176 (pallS (Or.inr (slot_ne (Or.inl (hw _ (List.mem_of_getElem? (i := 114) rfl))) (Or.inl (hw _ (List.mem_of_getElem? (i := 132) rfl))) (by decide) (t := (.object "com/example/pulsekeep/pulsekeep/core/SubscriptionSettings")) (t' := .long) (by decide) (by decide))) (pallS (Or.inr (slot_ne (Or.inl (hw _ (List.mem_of_getElem? (i := 114) rfl))) (Or.inl (hw _ (List.mem_of_getElem? (i := 139) rfl))) (by decide) (t := (.object "com/example/pulsekeep/pulsekeep/core/SubscriptionSettings")) (t' := .boolean) (by decide) (by decide))) pall0)))
          have Y187 : Fld Z T175.heap ob "com/example/pulsekeep/pulsekeep/core/Subscription" "items" "Ljava/util/List;" (.ref il) := (KF175 _ _ _ _ _ Y177 (pallS (Or.inr (slot_ne (Or.inr (hw _ (List.mem_of_getElem? (i := 88) rfl))) (Or.inl (hw _ (List.mem_of_getElem? (i := 132) rfl))) (by decide) (t := (.object "java/util/List")) (t' := .long) (by decide) (by decide))) (pallS (Or.inr (slot_ne (Or.inr (hw _ (List.mem_of_getElem? (i := 88) rfl))) (Or.inl (hw _ (List.mem_of_getElem? (i := 139) rfl))) (by decide) (t := (.object "java/util/List")) (t' := .boolean) (by decide) (by decide))) pall0)))
          have Y188 : Exa Z T175.heap se "com/example/pulsekeep/pulsekeep/core/SubscriptionSettings" := (Y178.keep K175)
          have Y189 : Fld Z T175.heap se "com/example/pulsekeep/pulsekeep/core/SubscriptionSettings" "publishingEnabled" "Z" (.int en) := (Y179.keep K175 (ninS (ne_exa E_se E_o (by decide)) nin0))
          have Y190 : Exa Z T175.heap il "java/util/ArrayList" := (Y180.keep K175)
          have Y191 : Fld Z T175.heap il "java/util/AbstractList" "modCount" "I" (.int mc) := (Y181.keep K175 (ninS (ne_exa E_il E_o (by decide)) nin0))
          have Y192 : Fld Z T175.heap il "java/util/ArrayList" "size" "I" (.int (0 : Int32)) := (Y182.keep K175 (ninS (ne_exa E_il E_o (by decide)) nin0))
          have Y193 : Fld Z T175.heap se "com/example/pulsekeep/pulsekeep/core/SubscriptionSettings" "lifetimeCount" "J" (.long life) := (Y183.keep K175 (ninS (ne_exa E_se E_o (by decide)) nin0))
          have Y194 : Fld Z T175.heap ob "com/example/pulsekeep/pulsekeep/core/Subscription" "messageSent" "Z" (.int (0 : Int32)) := (KF175 _ _ _ _ _ Y1_0 (pallS (Or.inr (slot_ne (Or.inl (hw _ (List.mem_of_getElem? (i := 130) rfl))) (Or.inl (hw _ (List.mem_of_getElem? (i := 132) rfl))) (by decide) (t := .boolean) (t' := .long) (by decide) (by decide))) (pallS (Or.inr (slot_ne (Or.inl (hw _ (List.mem_of_getElem? (i := 130) rfl))) (Or.inl (hw _ (List.mem_of_getElem? (i := 139) rfl))) (by decide) (t := .boolean) (t' := .boolean) (by decide) (by decide))) pall0)))
          have Y195 : Old Z n0 T175.heap := (Y149.keep K175 (allS (by omega) all0))
          obtain ⟨cq184, kq184, q184a, q184b, q184c⟩ := isOf hZ rfl Y185
          obtain ⟨_, _, ⟨T184, L184, k184, n184⟩, -, X184, ⟨Lc184, hQ184, l184, y184, z184⟩, st184⟩ := X175.virtualBack hx (y := (⟨"com/example/pulsekeep/pulsekeep/core/Subscription", "endCycle", "(Z)Lcom/example/pulsekeep/pulsekeep/core/Subscription$CycleEnd;"⟩ : MethodName)) (z := (⟨"com/example/pulsekeep/pulsekeep/core/Subscription", "endCycle", "(Z)Lcom/example/pulsekeep/pulsekeep/core/Subscription$CycleEnd;"⟩ : MethodName)) hown (mvT hZ (hw _ (List.mem_of_getElem? (i := 115) rfl))) (mvT hZ (hw _ (List.mem_of_getElem? (i := 116) rfl))) (notFace_of_selects (args := #[]) (mvT hZ (hw _ (List.mem_of_getElem? (i := 118) rfl)))) (mvT hZ (hw _ (List.mem_of_getElem? (i := 118) rfl))) (mvT hZ (hw _ (List.mem_of_getElem? (i := 117) rfl))) (by decide) (backOf (W := 0) (rm11 l Z a0 hw [] ob (1 : Int32) se il en mc life (own_nc (0 : Int32) (0 : Int64)) (own_due life (own_nc (0 : Int32) (0 : Int64)) (0 : Int32)) zD zC T175.heap n0 (by omega) Y185 Y186 Y187 Y188 Y189 Y190 Y191 Y192 Y193 Y194 Fc175 Fd175 S_DUE S_CLOSE Y195 (by omega)) hZ (hw _ (List.mem_of_getElem? (i := 119) rfl)) (hw _ (List.mem_of_getElem? (i := 29) rfl)) (by decide) (by decide)) q184a q184c (g := (mkF m 283 #[.val (.long q0), .second, .val (.int p1), .val (.int p2), .val (.int p3), .val (.int p4), .val (.long life), .second, .val (.int p8), .val (.ref se), .val (.ref ob), .val (.int kk), .val (.int (0 : Int32)), .val (.int (1 : Int32)), .val (.long (1 : Int64)), .second, .val (.ref zC), .val (.long (0 : Int64)), .second, .val (.ref zC)] [(.int (1 : Int32)), (.ref ob)])) rfl (by rw [hml]; rfl) (Steps.refl _) (argsL := [(.int (1 : Int32))]) (rest := []) (lenOf pd159_2 rfl) rfl (by show 2 * 0 + _ ≤ _; exact Nat.le_of_eq rfl) (hb hby at_283) (fun vm₁ hvm => ⟨rfl, rfl, (by decide : 16 + 1 ≤ _), (by decide : 116 + 4 ≤ _)⟩)
          dsimp only [Pt.U, Pt.locs, Pt.cells, Pt.slots] at X184 l184 y184 z184 st184 hQ184
          subst l184 y184 z184
          obtain ⟨rfl, N184q, K184, KF184, Fc184, Fd184⟩ := hQ184
          have sz184 : T175.heap.size ≤ T184.heap.size := K184.1
          have N184 := Fr.app N175 N184q
          refine Go.trans st184 ?_
          show Go p e below s _ _ _ (T184.setTop (mkF m 286 #[.val (.long q0), .second, .val (.int p1), .val (.int p2), .val (.int p3), .val (.int p4), .val (.long life), .second, .val (.int p8), .val (.ref se), .val (.ref ob), .val (.int kk), .val (.int (0 : Int32)), .val (.int (1 : Int32)), .val (.long (1 : Int64)), .second, .val (.ref zC), .val (.long (0 : Int64)), .second, .val (.ref zC)] [(.ref (own_end life (own_nc (1 : Int32) (own_nc (0 : Int32) (0 : Int64))) zD zC))]))
          rw [show own_end life (own_nc (1 : Int32) (own_nc (0 : Int32) (0 : Int64))) zD zC = zC from by rw [own_end, show (own_nc (1 : Int32) (own_nc (0 : Int32) (0 : Int64))) = (0 : Int64) from by decide, if_neg h253_151]]
          refine Go.pre (st' := T184.setTop (mkF m 296 #[.val (.long q0), .second, .val (.int p1), .val (.int p2), .val (.int p3), .val (.int p4), .val (.long life), .second, .val (.int p8), .val (.ref se), .val (.ref ob), .val (.int kk), .val (.int (0 : Int32)), .val (.int (1 : Int32)), .val (.long (1 : Int64)), .second, .val (.ref zC), .val (.long (0 : Int64)), .second, .val (.ref zC)] [(.int (1 : Int32))])) (fun target kt => ?_) ?_
          · show Steps p.tables e below (T184.setTop (mkF m 286 #[.val (.long q0), .second, .val (.int p1), .val (.int p2), .val (.int p3), .val (.int p4), .val (.long life), .second, .val (.int p8), .val (.ref se), .val (.ref ob), .val (.int kk), .val (.int (0 : Int32)), .val (.int (1 : Int32)), .val (.long (1 : Int64)), .second, .val (.ref zC), .val (.long (0 : Int64)), .second, .val (.ref zC)] [(.ref zC)])) _
            refine XS.aload X184.here hx rfl (hb hby at_286) rfl rfl ?_
            show Steps p.tables e below (T184.setTop (mkF m 288 #[.val (.long q0), .second, .val (.int p1), .val (.int p2), .val (.int p3), .val (.int p4), .val (.long life), .second, .val (.int p8), .val (.ref se), .val (.ref ob), .val (.int kk), .val (.int (0 : Int32)), .val (.int (1 : Int32)), .val (.long (1 : Int64)), .second, .val (.ref zC), .val (.long (0 : Int64)), .second, .val (.ref zC)] [(.ref zC), (.ref zC)])) _
            refine Jvm.RoadKit.acmp (g := (mkF m 288 #[.val (.long q0), .second, .val (.int p1), .val (.int p2), .val (.int p3), .val (.int p4), .val (.long life), .second, .val (.int p8), .val (.ref se), .val (.ref ob), .val (.int kk), .val (.int (0 : Int32)), .val (.int (1 : Int32)), .val (.long (1 : Int64)), .second, .val (.ref zC), .val (.long (0 : Int64)), .second, .val (.ref zC)] [(.ref zC), (.ref zC)])) X184 hx rfl rfl rfl (pc0 := 288) (pc' := 291) (same := true) rfl (hb hby at_288) rfl (decide_eq_true rfl) (by decide) (by decide) ?_
            show Steps p.tables e below (T184.setTop (mkF m 291 #[.val (.long q0), .second, .val (.int p1), .val (.int p2), .val (.int p3), .val (.int p4), .val (.long life), .second, .val (.int p8), .val (.ref se), .val (.ref ob), .val (.int kk), .val (.int (0 : Int32)), .val (.int (1 : Int32)), .val (.long (1 : Int64)), .second, .val (.ref zC), .val (.long (0 : Int64)), .second, .val (.ref zC)] [])) _
            refine XS.iconst X184.here hx rfl (hb hby at_291) ?_
            show Steps p.tables e below (T184.setTop (mkF m 292 #[.val (.long q0), .second, .val (.int p1), .val (.int p2), .val (.int p3), .val (.int p4), .val (.long life), .second, .val (.int p8), .val (.ref se), .val (.ref ob), .val (.int kk), .val (.int (0 : Int32)), .val (.int (1 : Int32)), .val (.long (1 : Int64)), .second, .val (.ref zC), .val (.long (0 : Int64)), .second, .val (.ref zC)] [(.int (1 : Int32))])) _
            refine XS.goto X184.here hx rfl (pc0 := 292) (pc' := 296) rfl (hb hby at_292) (by decide) (by decide) ?_
            exact kt
          exact Go.retN X184 hx hlk hrt (z' := (1 : Int32)) (by simp) (hb hby at_296) rfl (by decide) (by decide) (by exact ⟨rfl, N184⟩)
  · refine Go.pre (st' := T2.setTop (mkF m 181 #[.val (.long q0), .second, .val (.int p1), .val (.int p2), .val (.int p3), .val (.int p4), .val (.long life), .second, .val (.int p8), .val (.ref se), .val (.ref ob), .val (.int kk), .unset, .unset, .unset, .unset, .unset, .unset, .unset, .unset] [])) (fun target kt => ?_) ?_
    · show Steps p.tables e below (T2.setTop (mkF m 178 #[.val (.long q0), .second, .val (.int p1), .val (.int p2), .val (.int p3), .val (.int p4), .val (.long life), .second, .val (.int p8), .val (.ref se), .val (.ref ob), .val (.int kk), .unset, .unset, .unset, .unset, .unset, .unset, .unset, .unset] [(.int (p3 &&& (1 : Int32)))])) _
      refine XS.ifNo X2.here hx rfl (hb hby at_178) rfl ((if0 _ _).trans (feq h178_4).1) ?_
      exact kt
    refine Go.pre (st' := T2.setTop (mkF m 192 #[.val (.long q0), .second, .val (.int p1), .val (.int p2), .val (.int p3), .val (.int p4), .val (.long life), .second, .val (.int p8), .val (.ref se), .val (.ref ob), .val (.int kk), .val (.int (1 : Int32)), .unset, .unset, .unset, .unset, .unset, .unset, .unset] [(.int (p3 &&& (2 : Int32)))])) (fun target kt => ?_) ?_
    · show Steps p.tables e below (T2.setTop (mkF m 181 #[.val (.long q0), .second, .val (.int p1), .val (.int p2), .val (.int p3), .val (.int p4), .val (.long life), .second, .val (.int p8), .val (.ref se), .val (.ref ob), .val (.int kk), .unset, .unset, .unset, .unset, .unset, .unset, .unset, .unset] [])) _
      refine XS.iconst X2.here hx rfl (hb hby at_181) ?_
      show Steps p.tables e below (T2.setTop (mkF m 182 #[.val (.long q0), .second, .val (.int p1), .val (.int p2), .val (.int p3), .val (.int p4), .val (.long life), .second, .val (.int p8), .val (.ref se), .val (.ref ob), .val (.int kk), .unset, .unset, .unset, .unset, .unset, .unset, .unset, .unset] [(.int (1 : Int32))])) _
      refine XS.goto X2.here hx rfl (pc0 := 182) (pc' := 186) rfl (hb hby at_182) (by decide) (by decide) ?_
      show Steps p.tables e below (T2.setTop (mkF m 186 #[.val (.long q0), .second, .val (.int p1), .val (.int p2), .val (.int p3), .val (.int p4), .val (.long life), .second, .val (.int p8), .val (.ref se), .val (.ref ob), .val (.int kk), .unset, .unset, .unset, .unset, .unset, .unset, .unset, .unset] [(.int (1 : Int32))])) _
      refine XS.istore X2.here hx rfl (hb hby at_186) rfl (l' := #[.val (.long q0), .second, .val (.int p1), .val (.int p2), .val (.int p3), .val (.int p4), .val (.long life), .second, .val (.int p8), .val (.ref se), .val (.ref ob), .val (.int kk), .val (.int (1 : Int32)), .unset, .unset, .unset, .unset, .unset, .unset, .unset]) rfl ?_
      show Steps p.tables e below (T2.setTop (mkF m 188 #[.val (.long q0), .second, .val (.int p1), .val (.int p2), .val (.int p3), .val (.int p4), .val (.long life), .second, .val (.int p8), .val (.ref se), .val (.ref ob), .val (.int kk), .val (.int (1 : Int32)), .unset, .unset, .unset, .unset, .unset, .unset, .unset] [])) _
      refine XS.iload X2.here hx rfl (hb hby at_188) rfl ?_
      show Steps p.tables e below (T2.setTop (mkF m 190 #[.val (.long q0), .second, .val (.int p1), .val (.int p2), .val (.int p3), .val (.int p4), .val (.long life), .second, .val (.int p8), .val (.ref se), .val (.ref ob), .val (.int kk), .val (.int (1 : Int32)), .unset, .unset, .unset, .unset, .unset, .unset, .unset] [(.int p3)])) _
      refine XS.iconst X2.here hx rfl (hb hby at_190) ?_
      show Steps p.tables e below (T2.setTop (mkF m 191 #[.val (.long q0), .second, .val (.int p1), .val (.int p2), .val (.int p3), .val (.int p4), .val (.long life), .second, .val (.int p8), .val (.ref se), .val (.ref ob), .val (.int kk), .val (.int (1 : Int32)), .unset, .unset, .unset, .unset, .unset, .unset, .unset] [(.int (2 : Int32)), (.int p3)])) _
      refine XS.iand X2.here hx rfl (hb hby at_191) rfl ?_
      exact kt
    by_cases h192_196 : (p3 &&& (2 : Int32)) = (0 : Int32)
    · refine Go.pre (st' := T2.setTop (mkF m 199 #[.val (.long q0), .second, .val (.int p1), .val (.int p2), .val (.int p3), .val (.int p4), .val (.long life), .second, .val (.int p8), .val (.ref se), .val (.ref ob), .val (.int kk), .val (.int (1 : Int32)), .unset, .unset, .unset, .unset, .unset, .unset, .unset] [])) (fun target kt => ?_) ?_
      · show Steps p.tables e below (T2.setTop (mkF m 192 #[.val (.long q0), .second, .val (.int p1), .val (.int p2), .val (.int p3), .val (.int p4), .val (.long life), .second, .val (.int p8), .val (.ref se), .val (.ref ob), .val (.int kk), .val (.int (1 : Int32)), .unset, .unset, .unset, .unset, .unset, .unset, .unset] [(.int (p3 &&& (2 : Int32)))])) _
        refine XS.ifYes X2.here hx rfl (pc0 := 192) (pc' := 199) rfl (hb hby at_192) rfl ((if0 _ _).trans (teq h192_196).1) (by decide) (by decide) ?_
        exact kt
      refine Go.pre (st' := T2.setTop (mkF m 219 #[.val (.long q0), .second, .val (.int p1), .val (.int p2), .val (.int p3), .val (.int p4), .val (.long life), .second, .val (.int p8), .val (.ref se), .val (.ref ob), .val (.int kk), .val (.int (1 : Int32)), .val (.int (0 : Int32)), .val (.long (0 : Int64)), .second, .unset, .unset, .unset, .unset] [(.int (lcmpW (0 : Int64) life))])) (fun target kt => ?_) ?_
      · show Steps p.tables e below (T2.setTop (mkF m 199 #[.val (.long q0), .second, .val (.int p1), .val (.int p2), .val (.int p3), .val (.int p4), .val (.long life), .second, .val (.int p8), .val (.ref se), .val (.ref ob), .val (.int kk), .val (.int (1 : Int32)), .unset, .unset, .unset, .unset, .unset, .unset, .unset] [])) _
        refine XS.iconst X2.here hx rfl (hb hby at_199) ?_
        show Steps p.tables e below (T2.setTop (mkF m 200 #[.val (.long q0), .second, .val (.int p1), .val (.int p2), .val (.int p3), .val (.int p4), .val (.long life), .second, .val (.int p8), .val (.ref se), .val (.ref ob), .val (.int kk), .val (.int (1 : Int32)), .unset, .unset, .unset, .unset, .unset, .unset, .unset] [(.int (0 : Int32))])) _
        refine XS.istore X2.here hx rfl (hb hby at_200) rfl (l' := #[.val (.long q0), .second, .val (.int p1), .val (.int p2), .val (.int p3), .val (.int p4), .val (.long life), .second, .val (.int p8), .val (.ref se), .val (.ref ob), .val (.int kk), .val (.int (1 : Int32)), .val (.int (0 : Int32)), .unset, .unset, .unset, .unset, .unset, .unset]) rfl ?_
        show Steps p.tables e below (T2.setTop (mkF m 202 #[.val (.long q0), .second, .val (.int p1), .val (.int p2), .val (.int p3), .val (.int p4), .val (.long life), .second, .val (.int p8), .val (.ref se), .val (.ref ob), .val (.int kk), .val (.int (1 : Int32)), .val (.int (0 : Int32)), .unset, .unset, .unset, .unset, .unset, .unset] [])) _
        refine XS.iload X2.here hx rfl (hb hby at_202) rfl ?_
        show Steps p.tables e below (T2.setTop (mkF m 204 #[.val (.long q0), .second, .val (.int p1), .val (.int p2), .val (.int p3), .val (.int p4), .val (.long life), .second, .val (.int p8), .val (.ref se), .val (.ref ob), .val (.int kk), .val (.int (1 : Int32)), .val (.int (0 : Int32)), .unset, .unset, .unset, .unset, .unset, .unset] [(.int (1 : Int32))])) _
        refine XS.ifNo X2.here hx rfl (hb hby at_204) rfl ((if0 _ _).trans (feq (by decide)).1) ?_
        show Steps p.tables e below (T2.setTop (mkF m 207 #[.val (.long q0), .second, .val (.int p1), .val (.int p2), .val (.int p3), .val (.int p4), .val (.long life), .second, .val (.int p8), .val (.ref se), .val (.ref ob), .val (.int kk), .val (.int (1 : Int32)), .val (.int (0 : Int32)), .unset, .unset, .unset, .unset, .unset, .unset] [])) _
        refine XS.lconst X2.here hx rfl (hb hby at_207) ?_
        show Steps p.tables e below (T2.setTop (mkF m 208 #[.val (.long q0), .second, .val (.int p1), .val (.int p2), .val (.int p3), .val (.int p4), .val (.long life), .second, .val (.int p8), .val (.ref se), .val (.ref ob), .val (.int kk), .val (.int (1 : Int32)), .val (.int (0 : Int32)), .unset, .unset, .unset, .unset, .unset, .unset] [(.long (0 : Int64))])) _
        refine XS.goto X2.here hx rfl (pc0 := 208) (pc' := 212) rfl (hb hby at_208) (by decide) (by decide) ?_
        show Steps p.tables e below (T2.setTop (mkF m 212 #[.val (.long q0), .second, .val (.int p1), .val (.int p2), .val (.int p3), .val (.int p4), .val (.long life), .second, .val (.int p8), .val (.ref se), .val (.ref ob), .val (.int kk), .val (.int (1 : Int32)), .val (.int (0 : Int32)), .unset, .unset, .unset, .unset, .unset, .unset] [(.long (0 : Int64))])) _
        refine XS.lstore X2.here hx rfl (hb hby at_212) rfl (l' := #[.val (.long q0), .second, .val (.int p1), .val (.int p2), .val (.int p3), .val (.int p4), .val (.long life), .second, .val (.int p8), .val (.ref se), .val (.ref ob), .val (.int kk), .val (.int (1 : Int32)), .val (.int (0 : Int32)), .val (.long (0 : Int64)), .second, .unset, .unset, .unset, .unset]) rfl ?_
        show Steps p.tables e below (T2.setTop (mkF m 214 #[.val (.long q0), .second, .val (.int p1), .val (.int p2), .val (.int p3), .val (.int p4), .val (.long life), .second, .val (.int p8), .val (.ref se), .val (.ref ob), .val (.int kk), .val (.int (1 : Int32)), .val (.int (0 : Int32)), .val (.long (0 : Int64)), .second, .unset, .unset, .unset, .unset] [])) _
        refine XS.lload X2.here hx rfl (hb hby at_214) rfl ?_
        show Steps p.tables e below (T2.setTop (mkF m 216 #[.val (.long q0), .second, .val (.int p1), .val (.int p2), .val (.int p3), .val (.int p4), .val (.long life), .second, .val (.int p8), .val (.ref se), .val (.ref ob), .val (.int kk), .val (.int (1 : Int32)), .val (.int (0 : Int32)), .val (.long (0 : Int64)), .second, .unset, .unset, .unset, .unset] [(.long (0 : Int64))])) _
        refine XS.lload X2.here hx rfl (hb hby at_216) rfl ?_
        show Steps p.tables e below (T2.setTop (mkF m 218 #[.val (.long q0), .second, .val (.int p1), .val (.int p2), .val (.int p3), .val (.int p4), .val (.long life), .second, .val (.int p8), .val (.ref se), .val (.ref ob), .val (.int kk), .val (.int (1 : Int32)), .val (.int (0 : Int32)), .val (.long (0 : Int64)), .second, .unset, .unset, .unset, .unset] [(.long life), (.long (0 : Int64))])) _
        refine XS.lcmp X2.here hx rfl (hb hby at_218) rfl ?_
        exact kt
      by_cases h219_197 : (0 : Int64) < life
      · refine Go.pre (st' := T2.setTop (mkF m 228 #[.val (.long q0), .second, .val (.int p1), .val (.int p2), .val (.int p3), .val (.int p4), .val (.long life), .second, .val (.int p8), .val (.ref se), .val (.ref ob), .val (.int kk), .val (.int (1 : Int32)), .val (.int (0 : Int32)), .val (.long (0 : Int64)), .second, .unset, .unset, .unset, .unset] [])) (fun target kt => ?_) ?_
        · show Steps p.tables e below (T2.setTop (mkF m 219 #[.val (.long q0), .second, .val (.int p1), .val (.int p2), .val (.int p3), .val (.int p4), .val (.long life), .second, .val (.int p8), .val (.ref se), .val (.ref ob), .val (.int kk), .val (.int (1 : Int32)), .val (.int (0 : Int32)), .val (.long (0 : Int64)), .second, .unset, .unset, .unset, .unset] [(.int (lcmpW (0 : Int64) life))])) _
          refine XS.ifYes X2.here hx rfl (pc0 := 219) (pc' := 228) rfl (hb hby at_219) rfl ((if0 _ _).trans (tlt ((lw_lt _ _).mpr h219_197)).1) (by decide) (by decide) ?_
          exact kt
        have Y198 : Old Z n0 T1.heap := (Ol.keep K1 (allS (by omega) all0))
        obtain ⟨T199, X199, e199, st199⟩ := getS2 X2 hx hZ hown (host := "") (Or.inl (hw _ (List.mem_of_getElem? (i := 155) rfl))) Via.refl e2 (S_DUE.ext Y198.2) (g := (mkF m 228 #[.val (.long q0), .second, .val (.int p1), .val (.int p2), .val (.int p3), .val (.int p4), .val (.long life), .second, .val (.int p8), .val (.ref se), .val (.ref ob), .val (.int kk), .val (.int (1 : Int32)), .val (.int (0 : Int32)), .val (.long (0 : Int64)), .second, .unset, .unset, .unset, .unset] [])) rfl (hb hby at_228)
        refine Go.pre st199 ?_
        show Go p e below s _ _ _ (T199.setTop (mkF m 231 #[.val (.long q0), .second, .val (.int p1), .val (.int p2), .val (.int p3), .val (.int p4), .val (.long life), .second, .val (.int p8), .val (.ref se), .val (.ref ob), .val (.int kk), .val (.int (1 : Int32)), .val (.int (0 : Int32)), .val (.long (0 : Int64)), .second, .unset, .unset, .unset, .unset] [(.ref zD)]))
        refine Go.pre (st' := T199.setTop (mkF m 253 #[.val (.long q0), .second, .val (.int p1), .val (.int p2), .val (.int p3), .val (.int p4), .val (.long life), .second, .val (.int p8), .val (.ref se), .val (.ref ob), .val (.int kk), .val (.int (1 : Int32)), .val (.int (0 : Int32)), .val (.long (0 : Int64)), .second, .val (.ref zD), .val (.long ((0 : Int64) + (1 : Int64))), .second, .unset] [(.int (lcmpW ((0 : Int64) + (1 : Int64)) life))])) (fun target kt => ?_) ?_
        · show Steps p.tables e below (T199.setTop (mkF m 231 #[.val (.long q0), .second, .val (.int p1), .val (.int p2), .val (.int p3), .val (.int p4), .val (.long life), .second, .val (.int p8), .val (.ref se), .val (.ref ob), .val (.int kk), .val (.int (1 : Int32)), .val (.int (0 : Int32)), .val (.long (0 : Int64)), .second, .unset, .unset, .unset, .unset] [(.ref zD)])) _
          refine XS.astore X199.here hx rfl (hb hby at_231) rfl rfl (l' := #[.val (.long q0), .second, .val (.int p1), .val (.int p2), .val (.int p3), .val (.int p4), .val (.long life), .second, .val (.int p8), .val (.ref se), .val (.ref ob), .val (.int kk), .val (.int (1 : Int32)), .val (.int (0 : Int32)), .val (.long (0 : Int64)), .second, .val (.ref zD), .unset, .unset, .unset]) rfl ?_
          show Steps p.tables e below (T199.setTop (mkF m 233 #[.val (.long q0), .second, .val (.int p1), .val (.int p2), .val (.int p3), .val (.int p4), .val (.long life), .second, .val (.int p8), .val (.ref se), .val (.ref ob), .val (.int kk), .val (.int (1 : Int32)), .val (.int (0 : Int32)), .val (.long (0 : Int64)), .second, .val (.ref zD), .unset, .unset, .unset] [])) _
          refine XS.iload X199.here hx rfl (hb hby at_233) rfl ?_
          show Steps p.tables e below (T199.setTop (mkF m 235 #[.val (.long q0), .second, .val (.int p1), .val (.int p2), .val (.int p3), .val (.int p4), .val (.long life), .second, .val (.int p8), .val (.ref se), .val (.ref ob), .val (.int kk), .val (.int (1 : Int32)), .val (.int (0 : Int32)), .val (.long (0 : Int64)), .second, .val (.ref zD), .unset, .unset, .unset] [(.int (0 : Int32))])) _
          refine XS.ifYes X199.here hx rfl (pc0 := 235) (pc' := 242) rfl (hb hby at_235) rfl ((if0 _ _).trans (teq (by decide)).1) (by decide) (by decide) ?_
          show Steps p.tables e below (T199.setTop (mkF m 242 #[.val (.long q0), .second, .val (.int p1), .val (.int p2), .val (.int p3), .val (.int p4), .val (.long life), .second, .val (.int p8), .val (.ref se), .val (.ref ob), .val (.int kk), .val (.int (1 : Int32)), .val (.int (0 : Int32)), .val (.long (0 : Int64)), .second, .val (.ref zD), .unset, .unset, .unset] [])) _
          refine XS.lload X199.here hx rfl (hb hby at_242) rfl ?_
          show Steps p.tables e below (T199.setTop (mkF m 244 #[.val (.long q0), .second, .val (.int p1), .val (.int p2), .val (.int p3), .val (.int p4), .val (.long life), .second, .val (.int p8), .val (.ref se), .val (.ref ob), .val (.int kk), .val (.int (1 : Int32)), .val (.int (0 : Int32)), .val (.long (0 : Int64)), .second, .val (.ref zD), .unset, .unset, .unset] [(.long (0 : Int64))])) _
          refine XS.lconst X199.here hx rfl (hb hby at_244) ?_
          show Steps p.tables e below (T199.setTop (mkF m 245 #[.val (.long q0), .second, .val (.int p1), .val (.int p2), .val (.int p3), .val (.int p4), .val (.long life), .second, .val (.int p8), .val (.ref se), .val (.ref ob), .val (.int kk), .val (.int (1 : Int32)), .val (.int (0 : Int32)), .val (.long (0 : Int64)), .second, .val (.ref zD), .unset, .unset, .unset] [(.long (1 : Int64)), (.long (0 : Int64))])) _
          refine XS.ladd X199.here hx rfl (hb hby at_245) rfl ?_
          show Steps p.tables e below (T199.setTop (mkF m 246 #[.val (.long q0), .second, .val (.int p1), .val (.int p2), .val (.int p3), .val (.int p4), .val (.long life), .second, .val (.int p8), .val (.ref se), .val (.ref ob), .val (.int kk), .val (.int (1 : Int32)), .val (.int (0 : Int32)), .val (.long (0 : Int64)), .second, .val (.ref zD), .unset, .unset, .unset] [(.long ((0 : Int64) + (1 : Int64)))])) _
          refine XS.lstore X199.here hx rfl (hb hby at_246) rfl (l' := #[.val (.long q0), .second, .val (.int p1), .val (.int p2), .val (.int p3), .val (.int p4), .val (.long life), .second, .val (.int p8), .val (.ref se), .val (.ref ob), .val (.int kk), .val (.int (1 : Int32)), .val (.int (0 : Int32)), .val (.long (0 : Int64)), .second, .val (.ref zD), .val (.long ((0 : Int64) + (1 : Int64))), .second, .unset]) rfl ?_
          show Steps p.tables e below (T199.setTop (mkF m 248 #[.val (.long q0), .second, .val (.int p1), .val (.int p2), .val (.int p3), .val (.int p4), .val (.long life), .second, .val (.int p8), .val (.ref se), .val (.ref ob), .val (.int kk), .val (.int (1 : Int32)), .val (.int (0 : Int32)), .val (.long (0 : Int64)), .second, .val (.ref zD), .val (.long ((0 : Int64) + (1 : Int64))), .second, .unset] [])) _
          refine XS.lload X199.here hx rfl (hb hby at_248) rfl ?_
          show Steps p.tables e below (T199.setTop (mkF m 250 #[.val (.long q0), .second, .val (.int p1), .val (.int p2), .val (.int p3), .val (.int p4), .val (.long life), .second, .val (.int p8), .val (.ref se), .val (.ref ob), .val (.int kk), .val (.int (1 : Int32)), .val (.int (0 : Int32)), .val (.long (0 : Int64)), .second, .val (.ref zD), .val (.long ((0 : Int64) + (1 : Int64))), .second, .unset] [(.long ((0 : Int64) + (1 : Int64)))])) _
          refine XS.lload X199.here hx rfl (hb hby at_250) rfl ?_
          show Steps p.tables e below (T199.setTop (mkF m 252 #[.val (.long q0), .second, .val (.int p1), .val (.int p2), .val (.int p3), .val (.int p4), .val (.long life), .second, .val (.int p8), .val (.ref se), .val (.ref ob), .val (.int kk), .val (.int (1 : Int32)), .val (.int (0 : Int32)), .val (.long (0 : Int64)), .second, .val (.ref zD), .val (.long ((0 : Int64) + (1 : Int64))), .second, .unset] [(.long life), (.long ((0 : Int64) + (1 : Int64)))])) _
          refine XS.lcmp X199.here hx rfl (hb hby at_252) rfl ?_
          exact kt
        by_cases h253_200 : ((0 : Int64) + (1 : Int64)) < life
        · refine Go.pre (st' := T199.setTop (mkF m 262 #[.val (.long q0), .second, .val (.int p1), .val (.int p2), .val (.int p3), .val (.int p4), .val (.long life), .second, .val (.int p8), .val (.ref se), .val (.ref ob), .val (.int kk), .val (.int (1 : Int32)), .val (.int (0 : Int32)), .val (.long (0 : Int64)), .second, .val (.ref zD), .val (.long ((0 : Int64) + (1 : Int64))), .second, .unset] [])) (fun target kt => ?_) ?_
          · show Steps p.tables e below (T199.setTop (mkF m 253 #[.val (.long q0), .second, .val (.int p1), .val (.int p2), .val (.int p3), .val (.int p4), .val (.long life), .second, .val (.int p8), .val (.ref se), .val (.ref ob), .val (.int kk), .val (.int (1 : Int32)), .val (.int (0 : Int32)), .val (.long (0 : Int64)), .second, .val (.ref zD), .val (.long ((0 : Int64) + (1 : Int64))), .second, .unset] [(.int (lcmpW ((0 : Int64) + (1 : Int64)) life))])) _
            refine XS.ifYes X199.here hx rfl (pc0 := 253) (pc' := 262) rfl (hb hby at_253) rfl ((if0 _ _).trans (tlt ((lw_lt _ _).mpr h253_200)).1) (by decide) (by decide) ?_
            exact kt
          obtain ⟨T201, X201, e201, st201⟩ := getS2 X199 hx hZ hown (host := "") (Or.inl (hw _ (List.mem_of_getElem? (i := 155) rfl))) Via.refl e199 (S_DUE.ext Y198.2) (g := (mkF m 262 #[.val (.long q0), .second, .val (.int p1), .val (.int p2), .val (.int p3), .val (.int p4), .val (.long life), .second, .val (.int p8), .val (.ref se), .val (.ref ob), .val (.int kk), .val (.int (1 : Int32)), .val (.int (0 : Int32)), .val (.long (0 : Int64)), .second, .val (.ref zD), .val (.long ((0 : Int64) + (1 : Int64))), .second, .unset] [])) rfl (hb hby at_262)
          refine Go.pre st201 ?_
          show Go p e below s _ _ _ (T201.setTop (mkF m 265 #[.val (.long q0), .second, .val (.int p1), .val (.int p2), .val (.int p3), .val (.int p4), .val (.long life), .second, .val (.int p8), .val (.ref se), .val (.ref ob), .val (.int kk), .val (.int (1 : Int32)), .val (.int (0 : Int32)), .val (.long (0 : Int64)), .second, .val (.ref zD), .val (.long ((0 : Int64) + (1 : Int64))), .second, .unset] [(.ref zD)]))
          refine Go.pre (st' := T201.setTop (mkF m 271 #[.val (.long q0), .second, .val (.int p1), .val (.int p2), .val (.int p3), .val (.int p4), .val (.long life), .second, .val (.int p8), .val (.ref se), .val (.ref ob), .val (.int kk), .val (.int (1 : Int32)), .val (.int (0 : Int32)), .val (.long (0 : Int64)), .second, .val (.ref zD), .val (.long ((0 : Int64) + (1 : Int64))), .second, .val (.ref zD)] [(.int (1 : Int32)), (.ref ob)])) (fun target kt => ?_) ?_
          · show Steps p.tables e below (T201.setTop (mkF m 265 #[.val (.long q0), .second, .val (.int p1), .val (.int p2), .val (.int p3), .val (.int p4), .val (.long life), .second, .val (.int p8), .val (.ref se), .val (.ref ob), .val (.int kk), .val (.int (1 : Int32)), .val (.int (0 : Int32)), .val (.long (0 : Int64)), .second, .val (.ref zD), .val (.long ((0 : Int64) + (1 : Int64))), .second, .unset] [(.ref zD)])) _
            refine XS.astore X201.here hx rfl (hb hby at_265) rfl rfl (l' := #[.val (.long q0), .second, .val (.int p1), .val (.int p2), .val (.int p3), .val (.int p4), .val (.long life), .second, .val (.int p8), .val (.ref se), .val (.ref ob), .val (.int kk), .val (.int (1 : Int32)), .val (.int (0 : Int32)), .val (.long (0 : Int64)), .second, .val (.ref zD), .val (.long ((0 : Int64) + (1 : Int64))), .second, .val (.ref zD)]) rfl ?_
            show Steps p.tables e below (T201.setTop (mkF m 267 #[.val (.long q0), .second, .val (.int p1), .val (.int p2), .val (.int p3), .val (.int p4), .val (.long life), .second, .val (.int p8), .val (.ref se), .val (.ref ob), .val (.int kk), .val (.int (1 : Int32)), .val (.int (0 : Int32)), .val (.long (0 : Int64)), .second, .val (.ref zD), .val (.long ((0 : Int64) + (1 : Int64))), .second, .val (.ref zD)] [])) _
            refine XS.aload X201.here hx rfl (hb hby at_267) rfl rfl ?_
            show Steps p.tables e below (T201.setTop (mkF m 269 #[.val (.long q0), .second, .val (.int p1), .val (.int p2), .val (.int p3), .val (.int p4), .val (.long life), .second, .val (.int p8), .val (.ref se), .val (.ref ob), .val (.int kk), .val (.int (1 : Int32)), .val (.int (0 : Int32)), .val (.long (0 : Int64)), .second, .val (.ref zD), .val (.long ((0 : Int64) + (1 : Int64))), .second, .val (.ref zD)] [(.ref ob)])) _
            refine XS.iload X201.here hx rfl (hb hby at_269) rfl ?_
            exact kt
          have Y203 : Fld Z T1.heap ob "com/example/pulsekeep/pulsekeep/core/Subscription" "settings" "Lcom/example/pulsekeep/pulsekeep/core/SubscriptionSettings;" (.ref se) := (KF1 _ _ _ _ _ F_settings (pallS (Or.inr (slot_ne (Or.inl (hw _ (List.mem_of_getElem? (i := 114) rfl))) (Or.inl (hw _ (List.mem_of_getElem? (i := 130) rfl))) (by decide) (t := (.object "com/example/pulsekeep/pulsekeep/core/SubscriptionSettings")) (t' := .boolean) (by decide) (by decide))) (pallS (Or.inr (slot_ne (Or.inl (hw _ (List.mem_of_getElem? (i := 114) rfl))) (Or.inl (hw _ (List.mem_of_getElem? (i := 139) rfl))) (by decide) (t := (.object "com/example/pulsekeep/pulsekeep/core/SubscriptionSettings")) (t' := .boolean) (by decide) (by decide))) (pallS (Or.inr (slot_ne (Or.inl (hw _ (List.mem_of_getElem? (i := 114) rfl))) (Or.inl (hw _ (List.mem_of_getElem? (i := 149) rfl))) (by decide) (t := (.object "com/example/pulsekeep/pulsekeep/core/SubscriptionSettings")) (t' := .long) (by decide) (by decide))) (pallS (Or.inr (slot_ne (Or.inl (hw _ (List.mem_of_getElem? (i := 114) rfl))) (Or.inl (hw _ (List.mem_of_getElem? (i := 132) rfl))) (by decide) (t := (.object "com/example/pulsekeep/pulsekeep/core/SubscriptionSettings")) (t' := .long) (by decide) (by decide))) pall0)))))
          have Y204 : Fld Z T1.heap ob "com/example/pulsekeep/pulsekeep/core/Subscription" "items" "Ljava/util/List;" (.ref il) := (KF1 _ _ _ _ _ F_items (pallS (Or.inr (slot_ne (Or.inr (hw _ (List.mem_of_getElem? (i := 88) rfl))) (Or.inl (hw _ (List.mem_of_getElem? (i := 130) rfl))) (by decide) (t := (.object "java/util/List")) (t' := .boolean) (by decide) (by decide))) (pallS (Or.inr (slot_ne (Or.inr (hw _ (List.mem_of_getElem? (i := 88) rfl))) (Or.inl (hw _ (List.mem_of_getElem? (i := 139) rfl))) (by decide) (t := (.object "java/util/List")) (t' := .boolean) (by decide) (by decide))) (pallS (Or.inr (slot_ne (Or.inr (hw _ (List.mem_of_getElem? (i := 88) rfl))) (Or.inl (hw _ (List.mem_of_getElem? (i := 149) rfl))) (by decide) (t := (.object "java/util/List")) (t' := .long) (by decide) (by decide))) (pallS (Or.inr (slot_ne (Or.inr (hw _ (List.mem_of_getElem? (i := 88) rfl))) (Or.inl (hw _ (List.mem_of_getElem? (i := 132) rfl))) (by decide) (t := (.object "java/util/List")) (t' := .long) (by decide) (by decide))) pall0)))))
          have Y205 : Exa Z T1.heap se "com/example/pulsekeep/pulsekeep/core/SubscriptionSettings" := (E_se.keep K1)
          have Y206 : Fld Z T1.heap se "com/example/pulsekeep/pulsekeep/core/SubscriptionSettings" "publishingEnabled" "Z" (.int en) := (F_en.keep K1 (ninS (ne_exa E_se E_o (by decide)) nin0))
          have Y207 : Exa Z T1.heap il "java/util/ArrayList" := (E_il.keep K1)
          have Y208 : Fld Z T1.heap il "java/util/AbstractList" "modCount" "I" (.int mc) := (F_mc.keep K1 (ninS (ne_exa E_il E_o (by decide)) nin0))
          have Y209 : Fld Z T1.heap il "java/util/ArrayList" "size" "I" (.int (0 : Int32)) := (F_size.keep K1 (ninS (ne_exa E_il E_o (by decide)) nin0))
          have Y210 : Fld Z T1.heap se "com/example/pulsekeep/pulsekeep/core/SubscriptionSettings" "lifetimeCount" "J" (.long life) := (F_life.keep K1 (ninS (ne_exa E_se E_o (by decide)) nin0))
          obtain ⟨cq202, kq202, q202a, q202b, q202c⟩ := isOf hZ e201 Y3
          obtain ⟨_, _, ⟨T202, L202, k202, n202⟩, -, X202, ⟨Lc202, hQ202, l202, y202, z202⟩, st202⟩ := X201.virtualBack hx (y := (⟨"com/example/pulsekeep/pulsekeep/core/Subscription", "endCycle", "(Z)Lcom/example/pulsekeep/pulsekeep/core/Subscription$CycleEnd;"⟩ : MethodName)) (z := (⟨"com/example/pulsekeep/pulsekeep/core/Subscription", "endCycle", "(Z)Lcom/example/pulsekeep/pulsekeep/core/Subscription$CycleEnd;"⟩ : MethodName)) hown (mvT hZ (hw _ (List.mem_of_getElem? (i := 115) rfl))) (mvT hZ (hw _ (List.mem_of_getElem? (i := 116) rfl))) (notFace_of_selects (args := #[]) (mvT hZ (hw _ (List.mem_of_getElem? (i := 118) rfl)))) (mvT hZ (hw _ (List.mem_of_getElem? (i := 118) rfl))) (mvT hZ (hw _ (List.mem_of_getElem? (i := 117) rfl))) (by decide) (backOf (W := 0) (rm11 l Z a0 hw [] ob (1 : Int32) se il en mc life (0 : Int64) (0 : Int32) zD zC T1.heap n0 (by omega) Y3 Y203 Y204 Y205 Y206 Y207 Y208 Y209 Y210 Y1_0 Y1_3 Y1_1 S_DUE S_CLOSE Y198 (by omega)) hZ (hw _ (List.mem_of_getElem? (i := 119) rfl)) (hw _ (List.mem_of_getElem? (i := 29) rfl)) (by decide) (by decide)) q202a q202c (g := (mkF m 271 #[.val (.long q0), .second, .val (.int p1), .val (.int p2), .val (.int p3), .val (.int p4), .val (.long life), .second, .val (.int p8), .val (.ref se), .val (.ref ob), .val (.int kk), .val (.int (1 : Int32)), .val (.int (0 : Int32)), .val (.long (0 : Int64)), .second, .val (.ref zD), .val (.long ((0 : Int64) + (1 : Int64))), .second, .val (.ref zD)] [(.int (1 : Int32)), (.ref ob)])) rfl (by rw [hml]; rfl) (Steps.refl _) (argsL := [(.int (1 : Int32))]) (rest := []) (lenOf pd159_2 rfl) rfl (by show 2 * 0 + _ ≤ _; exact Nat.le_of_eq rfl) (hb hby at_271) (fun vm₁ hvm => ⟨rfl, e201, (by decide : 15 + 1 ≤ _), (by decide : 112 + 4 ≤ _)⟩)
          dsimp only [Pt.U, Pt.locs, Pt.cells, Pt.slots] at X202 l202 y202 z202 st202 hQ202
          subst l202 y202 z202
          obtain ⟨rfl, N202q, K202, KF202, Fc202, Fd202⟩ := hQ202
          have sz202 : T1.heap.size ≤ T202.heap.size := K202.1
          have N202 := Fr.app N2 N202q
          refine Go.trans st202 ?_
          show Go p e below s _ _ _ (T202.setTop (mkF m 274 #[.val (.long q0), .second, .val (.int p1), .val (.int p2), .val (.int p3), .val (.int p4), .val (.long life), .second, .val (.int p8), .val (.ref se), .val (.ref ob), .val (.int kk), .val (.int (1 : Int32)), .val (.int (0 : Int32)), .val (.long (0 : Int64)), .second, .val (.ref zD), .val (.long ((0 : Int64) + (1 : Int64))), .second, .val (.ref zD)] [(.ref (own_end life (own_nc (1 : Int32) (0 : Int64)) zD zC))]))
          rw [show own_end life (own_nc (1 : Int32) (0 : Int64)) zD zC = zD from by rw [own_end, show (own_nc (1 : Int32) (0 : Int64)) = (0 : Int64) from by decide, if_pos h219_197]]
          refine Go.pre (st' := T202.setTop (mkF m 283 #[.val (.long q0), .second, .val (.int p1), .val (.int p2), .val (.int p3), .val (.int p4), .val (.long life), .second, .val (.int p8), .val (.ref se), .val (.ref ob), .val (.int kk), .val (.int (1 : Int32)), .val (.int (0 : Int32)), .val (.long (0 : Int64)), .second, .val (.ref zD), .val (.long ((0 : Int64) + (1 : Int64))), .second, .val (.ref zD)] [(.int (0 : Int32)), (.ref ob)])) (fun target kt => ?_) ?_
          · show Steps p.tables e below (T202.setTop (mkF m 274 #[.val (.long q0), .second, .val (.int p1), .val (.int p2), .val (.int p3), .val (.int p4), .val (.long life), .second, .val (.int p8), .val (.ref se), .val (.ref ob), .val (.int kk), .val (.int (1 : Int32)), .val (.int (0 : Int32)), .val (.long (0 : Int64)), .second, .val (.ref zD), .val (.long ((0 : Int64) + (1 : Int64))), .second, .val (.ref zD)] [(.ref zD)])) _
            refine XS.aload X202.here hx rfl (hb hby at_274) rfl rfl ?_
            show Steps p.tables e below (T202.setTop (mkF m 276 #[.val (.long q0), .second, .val (.int p1), .val (.int p2), .val (.int p3), .val (.int p4), .val (.long life), .second, .val (.int p8), .val (.ref se), .val (.ref ob), .val (.int kk), .val (.int (1 : Int32)), .val (.int (0 : Int32)), .val (.long (0 : Int64)), .second, .val (.ref zD), .val (.long ((0 : Int64) + (1 : Int64))), .second, .val (.ref zD)] [(.ref zD), (.ref zD)])) _
            refine Jvm.RoadKit.acmp (g := (mkF m 276 #[.val (.long q0), .second, .val (.int p1), .val (.int p2), .val (.int p3), .val (.int p4), .val (.long life), .second, .val (.int p8), .val (.ref se), .val (.ref ob), .val (.int kk), .val (.int (1 : Int32)), .val (.int (0 : Int32)), .val (.long (0 : Int64)), .second, .val (.ref zD), .val (.long ((0 : Int64) + (1 : Int64))), .second, .val (.ref zD)] [(.ref zD), (.ref zD)])) X202 hx rfl rfl rfl (pc0 := 276) (pc' := 279) (same := true) rfl (hb hby at_276) rfl (decide_eq_true rfl) (by decide) (by decide) ?_
            show Steps p.tables e below (T202.setTop (mkF m 279 #[.val (.long q0), .second, .val (.int p1), .val (.int p2), .val (.int p3), .val (.int p4), .val (.long life), .second, .val (.int p8), .val (.ref se), .val (.ref ob), .val (.int kk), .val (.int (1 : Int32)), .val (.int (0 : Int32)), .val (.long (0 : Int64)), .second, .val (.ref zD), .val (.long ((0 : Int64) + (1 : Int64))), .second, .val (.ref zD)] [])) _
            refine XS.aload X202.here hx rfl (hb hby at_279) rfl rfl ?_
            show Steps p.tables e below (T202.setTop (mkF m 281 #[.val (.long q0), .second, .val (.int p1), .val (.int p2), .val (.int p3), .val (.int p4), .val (.long life), .second, .val (.int p8), .val (.ref se), .val (.ref ob), .val (.int kk), .val (.int (1 : Int32)), .val (.int (0 : Int32)), .val (.long (0 : Int64)), .second, .val (.ref zD), .val (.long ((0 : Int64) + (1 : Int64))), .second, .val (.ref zD)] [(.ref ob)])) _
            refine XS.iload X202.here hx rfl (hb hby at_281) rfl ?_
            exact kt
          have Y212 : Exa Z T202.heap ob "com/example/pulsekeep/pulsekeep/core/Subscription" := (Y3.keep K202)
          have Y213 : Fld Z T202.heap ob "com/example/pulsekeep/pulsekeep/core/Subscription" "settings" "Lcom/example/pulsekeep/pulsekeep/core/SubscriptionSettings;" (.ref se) := (KF202 _ _ _ _ _ Y203 (pallS (Or.inr (slot_ne (Or.inl (hw _ (List.mem_of_getElem? (i := 114) rfl))) (Or.inl (hw _ (List.mem_of_getElem? (i := 132) rfl))) (by decide) (t := (.object "com/example/pulsekeep/pulsekeep/core/SubscriptionSettings")) (t' := .long) (by decide) (by decide))) (pallS (Or.inr (slot_ne (Or.inl (hw _ (List.mem_of_getElem? (i := 114) rfl))) (Or.inl (hw _ (List.mem_of_getElem? (i := 139) rfl))) (by decide) (t := (.object "com/example/pulsekeep/pulsekeep/core/SubscriptionSettings")) (t' := .boolean) (by decide) (by decide))) pall0)))
          have Y214 : Fld Z T202.heap ob "com/example/pulsekeep/pulsekeep/core/Subscription" "items" "Ljava/util/List;" (.ref il) := (KF202 _ _ _ _ _ Y204 (pallS (Or.inr (slot_ne (Or.inr (hw _ (List.mem_of_getElem? (i := 88) rfl))) (Or.inl (hw _ (List.mem_of_getElem? (i := 132) rfl))) (by decide) (t := (.object "java/util/List")) (t' := .long) (by decide) (by decide))) (pallS (Or.inr (slot_ne (Or.inr (hw _ (List.mem_of_getElem? (i := 88) rfl))) (Or.inl (hw _ (List.mem_of_getElem? (i := 139) rfl))) (by decide) (t := (.object "java/util/List")) (t' := .boolean) (by decide) (by decide))) pall0)))
          have Y215 : Exa Z T202.heap se "com/example/pulsekeep/pulsekeep/core/SubscriptionSettings" := (Y205.keep K202)
          have Y216 : Fld Z T202.heap se "com/example/pulsekeep/pulsekeep/core/SubscriptionSettings" "publishingEnabled" "Z" (.int en) := (Y206.keep K202 (ninS (ne_exa E_se E_o (by decide)) nin0))
          have Y217 : Exa Z T202.heap il "java/util/ArrayList" := (Y207.keep K202)
          have Y218 : Fld Z T202.heap il "java/util/AbstractList" "modCount" "I" (.int mc) := (Y208.keep K202 (ninS (ne_exa E_il E_o (by decide)) nin0))
          have Y219 : Fld Z T202.heap il "java/util/ArrayList" "size" "I" (.int (0 : Int32)) := (Y209.keep K202 (ninS (ne_exa E_il E_o (by decide)) nin0))
          have Y220 : Fld Z T202.heap se "com/example/pulsekeep/pulsekeep/core/SubscriptionSettings" "lifetimeCount" "J" (.long life) := (Y210.keep K202 (ninS (ne_exa E_se E_o (by decide)) nin0))
          have Y221 : Fld Z T202.heap ob "com/example/pulsekeep/pulsekeep/core/Subscription" "messageSent" "Z" (.int (0 : Int32)) := (KF202 _ _ _ _ _ Y1_0 (pallS (Or.inr (slot_ne (Or.inl (hw _ (List.mem_of_getElem? (i := 130) rfl))) (Or.inl (hw _ (List.mem_of_getElem? (i := 132) rfl))) (by decide) (t := .boolean) (t' := .long) (by decide) (by decide))) (pallS (Or.inr (slot_ne (Or.inl (hw _ (List.mem_of_getElem? (i := 130) rfl))) (Or.inl (hw _ (List.mem_of_getElem? (i := 139) rfl))) (by decide) (t := .boolean) (t' := .boolean) (by decide) (by decide))) pall0)))
          have Y222 : Old Z n0 T202.heap := (Y198.keep K202 (allS (by omega) all0))
          obtain ⟨cq211, kq211, q211a, q211b, q211c⟩ := isOf hZ rfl Y212
          obtain ⟨_, _, ⟨T211, L211, k211, n211⟩, -, X211, ⟨Lc211, hQ211, l211, y211, z211⟩, st211⟩ := X202.virtualBack hx (y := (⟨"com/example/pulsekeep/pulsekeep/core/Subscription", "endCycle", "(Z)Lcom/example/pulsekeep/pulsekeep/core/Subscription$CycleEnd;"⟩ : MethodName)) (z := (⟨"com/example/pulsekeep/pulsekeep/core/Subscription", "endCycle", "(Z)Lcom/example/pulsekeep/pulsekeep/core/Subscription$CycleEnd;"⟩ : MethodName)) hown (mvT hZ (hw _ (List.mem_of_getElem? (i := 115) rfl))) (mvT hZ (hw _ (List.mem_of_getElem? (i := 116) rfl))) (notFace_of_selects (args := #[]) (mvT hZ (hw _ (List.mem_of_getElem? (i := 118) rfl)))) (mvT hZ (hw _ (List.mem_of_getElem? (i := 118) rfl))) (mvT hZ (hw _ (List.mem_of_getElem? (i := 117) rfl))) (by decide) (backOf (W := 0) (rm11 l Z a0 hw [] ob (0 : Int32) se il en mc life (own_nc (1 : Int32) (0 : Int64)) (own_due life (own_nc (1 : Int32) (0 : Int64)) (0 : Int32)) zD zC T202.heap n0 (by omega) Y212 Y213 Y214 Y215 Y216 Y217 Y218 Y219 Y220 Y221 Fc202 Fd202 S_DUE S_CLOSE Y222 (by omega)) hZ (hw _ (List.mem_of_getElem? (i := 119) rfl)) (hw _ (List.mem_of_getElem? (i := 29) rfl)) (by decide) (by decide)) q211a q211c (g := (mkF m 283 #[.val (.long q0), .second, .val (.int p1), .val (.int p2), .val (.int p3), .val (.int p4), .val (.long life), .second, .val (.int p8), .val (.ref se), .val (.ref ob), .val (.int kk), .val (.int (1 : Int32)), .val (.int (0 : Int32)), .val (.long (0 : Int64)), .second, .val (.ref zD), .val (.long ((0 : Int64) + (1 : Int64))), .second, .val (.ref zD)] [(.int (0 : Int32)), (.ref ob)])) rfl (by rw [hml]; rfl) (Steps.refl _) (argsL := [(.int (0 : Int32))]) (rest := []) (lenOf pd159_2 rfl) rfl (by show 2 * 0 + _ ≤ _; exact Nat.le_of_eq rfl) (hb hby at_283) (fun vm₁ hvm => ⟨rfl, rfl, (by decide : 16 + 1 ≤ _), (by decide : 116 + 4 ≤ _)⟩)
          dsimp only [Pt.U, Pt.locs, Pt.cells, Pt.slots] at X211 l211 y211 z211 st211 hQ211
          subst l211 y211 z211
          obtain ⟨rfl, N211q, K211, KF211, Fc211, Fd211⟩ := hQ211
          have sz211 : T202.heap.size ≤ T211.heap.size := K211.1
          have N211 := Fr.app N202 N211q
          refine Go.trans st211 ?_
          show Go p e below s _ _ _ (T211.setTop (mkF m 286 #[.val (.long q0), .second, .val (.int p1), .val (.int p2), .val (.int p3), .val (.int p4), .val (.long life), .second, .val (.int p8), .val (.ref se), .val (.ref ob), .val (.int kk), .val (.int (1 : Int32)), .val (.int (0 : Int32)), .val (.long (0 : Int64)), .second, .val (.ref zD), .val (.long ((0 : Int64) + (1 : Int64))), .second, .val (.ref zD)] [(.ref (own_end life (own_nc (0 : Int32) (own_nc (1 : Int32) (0 : Int64))) zD zC))]))
          rw [show own_end life (own_nc (0 : Int32) (own_nc (1 : Int32) (0 : Int64))) zD zC = zD from by rw [own_end, show (own_nc (0 : Int32) (own_nc (1 : Int32) (0 : Int64))) = ((0 : Int64) + (1 : Int64)) from by decide, if_pos h253_200]]
          refine Go.pre (st' := T211.setTop (mkF m 296 #[.val (.long q0), .second, .val (.int p1), .val (.int p2), .val (.int p3), .val (.int p4), .val (.long life), .second, .val (.int p8), .val (.ref se), .val (.ref ob), .val (.int kk), .val (.int (1 : Int32)), .val (.int (0 : Int32)), .val (.long (0 : Int64)), .second, .val (.ref zD), .val (.long ((0 : Int64) + (1 : Int64))), .second, .val (.ref zD)] [(.int (1 : Int32))])) (fun target kt => ?_) ?_
          · show Steps p.tables e below (T211.setTop (mkF m 286 #[.val (.long q0), .second, .val (.int p1), .val (.int p2), .val (.int p3), .val (.int p4), .val (.long life), .second, .val (.int p8), .val (.ref se), .val (.ref ob), .val (.int kk), .val (.int (1 : Int32)), .val (.int (0 : Int32)), .val (.long (0 : Int64)), .second, .val (.ref zD), .val (.long ((0 : Int64) + (1 : Int64))), .second, .val (.ref zD)] [(.ref zD)])) _
            refine XS.aload X211.here hx rfl (hb hby at_286) rfl rfl ?_
            show Steps p.tables e below (T211.setTop (mkF m 288 #[.val (.long q0), .second, .val (.int p1), .val (.int p2), .val (.int p3), .val (.int p4), .val (.long life), .second, .val (.int p8), .val (.ref se), .val (.ref ob), .val (.int kk), .val (.int (1 : Int32)), .val (.int (0 : Int32)), .val (.long (0 : Int64)), .second, .val (.ref zD), .val (.long ((0 : Int64) + (1 : Int64))), .second, .val (.ref zD)] [(.ref zD), (.ref zD)])) _
            refine Jvm.RoadKit.acmp (g := (mkF m 288 #[.val (.long q0), .second, .val (.int p1), .val (.int p2), .val (.int p3), .val (.int p4), .val (.long life), .second, .val (.int p8), .val (.ref se), .val (.ref ob), .val (.int kk), .val (.int (1 : Int32)), .val (.int (0 : Int32)), .val (.long (0 : Int64)), .second, .val (.ref zD), .val (.long ((0 : Int64) + (1 : Int64))), .second, .val (.ref zD)] [(.ref zD), (.ref zD)])) X211 hx rfl rfl rfl (pc0 := 288) (pc' := 291) (same := true) rfl (hb hby at_288) rfl (decide_eq_true rfl) (by decide) (by decide) ?_
            show Steps p.tables e below (T211.setTop (mkF m 291 #[.val (.long q0), .second, .val (.int p1), .val (.int p2), .val (.int p3), .val (.int p4), .val (.long life), .second, .val (.int p8), .val (.ref se), .val (.ref ob), .val (.int kk), .val (.int (1 : Int32)), .val (.int (0 : Int32)), .val (.long (0 : Int64)), .second, .val (.ref zD), .val (.long ((0 : Int64) + (1 : Int64))), .second, .val (.ref zD)] [])) _
            refine XS.iconst X211.here hx rfl (hb hby at_291) ?_
            show Steps p.tables e below (T211.setTop (mkF m 292 #[.val (.long q0), .second, .val (.int p1), .val (.int p2), .val (.int p3), .val (.int p4), .val (.long life), .second, .val (.int p8), .val (.ref se), .val (.ref ob), .val (.int kk), .val (.int (1 : Int32)), .val (.int (0 : Int32)), .val (.long (0 : Int64)), .second, .val (.ref zD), .val (.long ((0 : Int64) + (1 : Int64))), .second, .val (.ref zD)] [(.int (1 : Int32))])) _
            refine XS.goto X211.here hx rfl (pc0 := 292) (pc' := 296) rfl (hb hby at_292) (by decide) (by decide) ?_
            exact kt
          exact Go.retN X211 hx hlk hrt (z' := (1 : Int32)) (by simp) (hb hby at_296) rfl (by decide) (by decide) (by exact ⟨rfl, N211⟩)
        · refine Go.pre (st' := T199.setTop (mkF m 256 #[.val (.long q0), .second, .val (.int p1), .val (.int p2), .val (.int p3), .val (.int p4), .val (.long life), .second, .val (.int p8), .val (.ref se), .val (.ref ob), .val (.int kk), .val (.int (1 : Int32)), .val (.int (0 : Int32)), .val (.long (0 : Int64)), .second, .val (.ref zD), .val (.long ((0 : Int64) + (1 : Int64))), .second, .unset] [])) (fun target kt => ?_) ?_
          · show Steps p.tables e below (T199.setTop (mkF m 253 #[.val (.long q0), .second, .val (.int p1), .val (.int p2), .val (.int p3), .val (.int p4), .val (.long life), .second, .val (.int p8), .val (.ref se), .val (.ref ob), .val (.int kk), .val (.int (1 : Int32)), .val (.int (0 : Int32)), .val (.long (0 : Int64)), .second, .val (.ref zD), .val (.long ((0 : Int64) + (1 : Int64))), .second, .unset] [(.int (lcmpW ((0 : Int64) + (1 : Int64)) life))])) _
            refine XS.ifNo X199.here hx rfl (hb hby at_253) rfl ((if0 _ _).trans (flt (fun q => h253_200 ((lw_lt _ _).mp q))).1) ?_
            exact kt
          obtain ⟨T223, X223, e223, st223⟩ := getS2 X199 hx hZ hown (host := "") (Or.inl (hw _ (List.mem_of_getElem? (i := 194) rfl))) Via.refl e199 (S_CLOSE.ext Y198.2) (g := (mkF m 256 #[.val (.long q0), .second, .val (.int p1), .val (.int p2), .val (.int p3), .val (.int p4), .val (.long life), .second, .val (.int p8), .val (.ref se), .val (.ref ob), .val (.int kk), .val (.int (1 : Int32)), .val (.int (0 : Int32)), .val (.long (0 : Int64)), .second, .val (.ref zD), .val (.long ((0 : Int64) + (1 : Int64))), .second, .unset] [])) rfl (hb hby at_256)
          refine Go.pre st223 ?_
          show Go p e below s _ _ _ (T223.setTop (mkF m 259 #[.val (.long q0), .second, .val (.int p1), .val (.int p2), .val (.int p3), .val (.int p4), .val (.long life), .second, .val (.int p8), .val (.ref se), .val (.ref ob), .val (.int kk), .val (.int (1 : Int32)), .val (.int (0 : Int32)), .val (.long (0 : Int64)), .second, .val (.ref zD), .val (.long ((0 : Int64) + (1 : Int64))), .second, .unset] [(.ref zC)]))
          refine Go.pre (st' := T223.setTop (mkF m 271 #[.val (.long q0), .second, .val (.int p1), .val (.int p2), .val (.int p3), .val (.int p4), .val (.long life), .second, .val (.int p8), .val (.ref se), .val (.ref ob), .val (.int kk), .val (.int (1 : Int32)), .val (.int (0 : Int32)), .val (.long (0 : Int64)), .second, .val (.ref zD), .val (.long ((0 : Int64) + (1 : Int64))), .second, .val (.ref zC)] [(.int (1 : Int32)), (.ref ob)])) (fun target kt => ?_) ?_
          · show Steps p.tables e below (T223.setTop (mkF m 259 #[.val (.long q0), .second, .val (.int p1), .val (.int p2), .val (.int p3), .val (.int p4), .val (.long life), .second, .val (.int p8), .val (.ref se), .val (.ref ob), .val (.int kk), .val (.int (1 : Int32)), .val (.int (0 : Int32)), .val (.long (0 : Int64)), .second, .val (.ref zD), .val (.long ((0 : Int64) + (1 : Int64))), .second, .unset] [(.ref zC)])) _
            refine XS.goto X223.here hx rfl (pc0 := 259) (pc' := 265) rfl (hb hby at_259) (by decide) (by decide) ?_
            show Steps p.tables e below (T223.setTop (mkF m 265 #[.val (.long q0), .second, .val (.int p1), .val (.int p2), .val (.int p3), .val (.int p4), .val (.long life), .second, .val (.int p8), .val (.ref se), .val (.ref ob), .val (.int kk), .val (.int (1 : Int32)), .val (.int (0 : Int32)), .val (.long (0 : Int64)), .second, .val (.ref zD), .val (.long ((0 : Int64) + (1 : Int64))), .second, .unset] [(.ref zC)])) _
            refine XS.astore X223.here hx rfl (hb hby at_265) rfl rfl (l' := #[.val (.long q0), .second, .val (.int p1), .val (.int p2), .val (.int p3), .val (.int p4), .val (.long life), .second, .val (.int p8), .val (.ref se), .val (.ref ob), .val (.int kk), .val (.int (1 : Int32)), .val (.int (0 : Int32)), .val (.long (0 : Int64)), .second, .val (.ref zD), .val (.long ((0 : Int64) + (1 : Int64))), .second, .val (.ref zC)]) rfl ?_
            show Steps p.tables e below (T223.setTop (mkF m 267 #[.val (.long q0), .second, .val (.int p1), .val (.int p2), .val (.int p3), .val (.int p4), .val (.long life), .second, .val (.int p8), .val (.ref se), .val (.ref ob), .val (.int kk), .val (.int (1 : Int32)), .val (.int (0 : Int32)), .val (.long (0 : Int64)), .second, .val (.ref zD), .val (.long ((0 : Int64) + (1 : Int64))), .second, .val (.ref zC)] [])) _
            refine XS.aload X223.here hx rfl (hb hby at_267) rfl rfl ?_
            show Steps p.tables e below (T223.setTop (mkF m 269 #[.val (.long q0), .second, .val (.int p1), .val (.int p2), .val (.int p3), .val (.int p4), .val (.long life), .second, .val (.int p8), .val (.ref se), .val (.ref ob), .val (.int kk), .val (.int (1 : Int32)), .val (.int (0 : Int32)), .val (.long (0 : Int64)), .second, .val (.ref zD), .val (.long ((0 : Int64) + (1 : Int64))), .second, .val (.ref zC)] [(.ref ob)])) _
            refine XS.iload X223.here hx rfl (hb hby at_269) rfl ?_
            exact kt
          have Y225 : Fld Z T1.heap ob "com/example/pulsekeep/pulsekeep/core/Subscription" "settings" "Lcom/example/pulsekeep/pulsekeep/core/SubscriptionSettings;" (.ref se) := (KF1 _ _ _ _ _ F_settings (pallS (Or.inr (slot_ne (Or.inl (hw _ (List.mem_of_getElem? (i := 114) rfl))) (Or.inl (hw _ (List.mem_of_getElem? (i := 130) rfl))) (by decide) (t := (.object "com/example/pulsekeep/pulsekeep/core/SubscriptionSettings")) (t' := .boolean) (by decide) (by decide))) (pallS (Or.inr (slot_ne (Or.inl (hw _ (List.mem_of_getElem? (i := 114) rfl))) (Or.inl (hw _ (List.mem_of_getElem? (i := 139) rfl))) (by decide) (t := (.object "com/example/pulsekeep/pulsekeep/core/SubscriptionSettings")) (t' := .boolean) (by decide) (by decide))) (pallS (Or.inr (slot_ne (Or.inl (hw _ (List.mem_of_getElem? (i := 114) rfl))) (Or.inl (hw _ (List.mem_of_getElem? (i := 149) rfl))) (by decide) (t := (.object "com/example/pulsekeep/pulsekeep/core/SubscriptionSettings")) (t' := .long) (by decide) (by decide))) (pallS (Or.inr (slot_ne (Or.inl (hw _ (List.mem_of_getElem? (i := 114) rfl))) (Or.inl (hw _ (List.mem_of_getElem? (i := 132) rfl))) (by decide) (t := (.object "com/example/pulsekeep/pulsekeep/core/SubscriptionSettings")) (t' := .long) (by decide) (by decide))) pall0)))))
          have Y226 : Fld Z T1.heap ob "com/example/pulsekeep/pulsekeep/core/Subscription" "items" "Ljava/util/List;" (.ref il) := (KF1 _ _ _ _ _ F_items (pallS (Or.inr (slot_ne (Or.inr (hw _ (List.mem_of_getElem? (i := 88) rfl))) (Or.inl (hw _ (List.mem_of_getElem? (i := 130) rfl))) (by decide) (t := (.object "java/util/List")) (t' := .boolean) (by decide) (by decide))) (pallS (Or.inr (slot_ne (Or.inr (hw _ (List.mem_of_getElem? (i := 88) rfl))) (Or.inl (hw _ (List.mem_of_getElem? (i := 139) rfl))) (by decide) (t := (.object "java/util/List")) (t' := .boolean) (by decide) (by decide))) (pallS (Or.inr (slot_ne (Or.inr (hw _ (List.mem_of_getElem? (i := 88) rfl))) (Or.inl (hw _ (List.mem_of_getElem? (i := 149) rfl))) (by decide) (t := (.object "java/util/List")) (t' := .long) (by decide) (by decide))) (pallS (Or.inr (slot_ne (Or.inr (hw _ (List.mem_of_getElem? (i := 88) rfl))) (Or.inl (hw _ (List.mem_of_getElem? (i := 132) rfl))) (by decide) (t := (.object "java/util/List")) (t' := .long) (by decide) (by decide))) pall0)))))
          have Y227 : Exa Z T1.heap se "com/example/pulsekeep/pulsekeep/core/SubscriptionSettings" := (E_se.keep K1)
          have Y228 : Fld Z T1.heap se "com/example/pulsekeep/pulsekeep/core/SubscriptionSettings" "publishingEnabled" "Z" (.int en) := (F_en.keep K1 (ninS (ne_exa E_se E_o (by decide)) nin0))
          have Y229 : Exa Z T1.heap il "java/util/ArrayList" := (E_il.keep K1)
          have Y230 : Fld Z T1.heap il "java/util/AbstractList" "modCount" "I" (.int mc) := (F_mc.keep K1 (ninS (ne_exa E_il E_o (by decide)) nin0))
          have Y231 : Fld Z T1.heap il "java/util/ArrayList" "size" "I" (.int (0 : Int32)) := (F_size.keep K1 (ninS (ne_exa E_il E_o (by decide)) nin0))
          have Y232 : Fld Z T1.heap se "com/example/pulsekeep/pulsekeep/core/SubscriptionSettings" "lifetimeCount" "J" (.long life) := (F_life.keep K1 (ninS (ne_exa E_se E_o (by decide)) nin0))
          obtain ⟨cq224, kq224, q224a, q224b, q224c⟩ := isOf hZ e223 Y3
          obtain ⟨_, _, ⟨T224, L224, k224, n224⟩, -, X224, ⟨Lc224, hQ224, l224, y224, z224⟩, st224⟩ := X223.virtualBack hx (y := (⟨"com/example/pulsekeep/pulsekeep/core/Subscription", "endCycle", "(Z)Lcom/example/pulsekeep/pulsekeep/core/Subscription$CycleEnd;"⟩ : MethodName)) (z := (⟨"com/example/pulsekeep/pulsekeep/core/Subscription", "endCycle", "(Z)Lcom/example/pulsekeep/pulsekeep/core/Subscription$CycleEnd;"⟩ : MethodName)) hown (mvT hZ (hw _ (List.mem_of_getElem? (i := 115) rfl))) (mvT hZ (hw _ (List.mem_of_getElem? (i := 116) rfl))) (notFace_of_selects (args := #[]) (mvT hZ (hw _ (List.mem_of_getElem? (i := 118) rfl)))) (mvT hZ (hw _ (List.mem_of_getElem? (i := 118) rfl))) (mvT hZ (hw _ (List.mem_of_getElem? (i := 117) rfl))) (by decide) (backOf (W := 0) (rm11 l Z a0 hw [] ob (1 : Int32) se il en mc life (0 : Int64) (0 : Int32) zD zC T1.heap n0 (by omega) Y3 Y225 Y226 Y227 Y228 Y229 Y230 Y231 Y232 Y1_0 Y1_3 Y1_1 S_DUE S_CLOSE Y198 (by omega)) hZ (hw _ (List.mem_of_getElem? (i := 119) rfl)) (hw _ (List.mem_of_getElem? (i := 29) rfl)) (by decide) (by decide)) q224a q224c (g := (mkF m 271 #[.val (.long q0), .second, .val (.int p1), .val (.int p2), .val (.int p3), .val (.int p4), .val (.long life), .second, .val (.int p8), .val (.ref se), .val (.ref ob), .val (.int kk), .val (.int (1 : Int32)), .val (.int (0 : Int32)), .val (.long (0 : Int64)), .second, .val (.ref zD), .val (.long ((0 : Int64) + (1 : Int64))), .second, .val (.ref zC)] [(.int (1 : Int32)), (.ref ob)])) rfl (by rw [hml]; rfl) (Steps.refl _) (argsL := [(.int (1 : Int32))]) (rest := []) (lenOf pd159_2 rfl) rfl (by show 2 * 0 + _ ≤ _; exact Nat.le_of_eq rfl) (hb hby at_271) (fun vm₁ hvm => ⟨rfl, e223, (by decide : 15 + 1 ≤ _), (by decide : 112 + 4 ≤ _)⟩)
          dsimp only [Pt.U, Pt.locs, Pt.cells, Pt.slots] at X224 l224 y224 z224 st224 hQ224
          subst l224 y224 z224
          obtain ⟨rfl, N224q, K224, KF224, Fc224, Fd224⟩ := hQ224
          have sz224 : T1.heap.size ≤ T224.heap.size := K224.1
          have N224 := Fr.app N2 N224q
          refine Go.trans st224 ?_
          show Go p e below s _ _ _ (T224.setTop (mkF m 274 #[.val (.long q0), .second, .val (.int p1), .val (.int p2), .val (.int p3), .val (.int p4), .val (.long life), .second, .val (.int p8), .val (.ref se), .val (.ref ob), .val (.int kk), .val (.int (1 : Int32)), .val (.int (0 : Int32)), .val (.long (0 : Int64)), .second, .val (.ref zD), .val (.long ((0 : Int64) + (1 : Int64))), .second, .val (.ref zC)] [(.ref (own_end life (own_nc (1 : Int32) (0 : Int64)) zD zC))]))
          rw [show own_end life (own_nc (1 : Int32) (0 : Int64)) zD zC = zD from by rw [own_end, show (own_nc (1 : Int32) (0 : Int64)) = (0 : Int64) from by decide, if_pos h219_197]]
          refine Go.pre (st' := T224.setTop (mkF m 283 #[.val (.long q0), .second, .val (.int p1), .val (.int p2), .val (.int p3), .val (.int p4), .val (.long life), .second, .val (.int p8), .val (.ref se), .val (.ref ob), .val (.int kk), .val (.int (1 : Int32)), .val (.int (0 : Int32)), .val (.long (0 : Int64)), .second, .val (.ref zD), .val (.long ((0 : Int64) + (1 : Int64))), .second, .val (.ref zC)] [(.int (0 : Int32)), (.ref ob)])) (fun target kt => ?_) ?_
          · show Steps p.tables e below (T224.setTop (mkF m 274 #[.val (.long q0), .second, .val (.int p1), .val (.int p2), .val (.int p3), .val (.int p4), .val (.long life), .second, .val (.int p8), .val (.ref se), .val (.ref ob), .val (.int kk), .val (.int (1 : Int32)), .val (.int (0 : Int32)), .val (.long (0 : Int64)), .second, .val (.ref zD), .val (.long ((0 : Int64) + (1 : Int64))), .second, .val (.ref zC)] [(.ref zD)])) _
            refine XS.aload X224.here hx rfl (hb hby at_274) rfl rfl ?_
            show Steps p.tables e below (T224.setTop (mkF m 276 #[.val (.long q0), .second, .val (.int p1), .val (.int p2), .val (.int p3), .val (.int p4), .val (.long life), .second, .val (.int p8), .val (.ref se), .val (.ref ob), .val (.int kk), .val (.int (1 : Int32)), .val (.int (0 : Int32)), .val (.long (0 : Int64)), .second, .val (.ref zD), .val (.long ((0 : Int64) + (1 : Int64))), .second, .val (.ref zC)] [(.ref zD), (.ref zD)])) _
            refine Jvm.RoadKit.acmp (g := (mkF m 276 #[.val (.long q0), .second, .val (.int p1), .val (.int p2), .val (.int p3), .val (.int p4), .val (.long life), .second, .val (.int p8), .val (.ref se), .val (.ref ob), .val (.int kk), .val (.int (1 : Int32)), .val (.int (0 : Int32)), .val (.long (0 : Int64)), .second, .val (.ref zD), .val (.long ((0 : Int64) + (1 : Int64))), .second, .val (.ref zC)] [(.ref zD), (.ref zD)])) X224 hx rfl rfl rfl (pc0 := 276) (pc' := 279) (same := true) rfl (hb hby at_276) rfl (decide_eq_true rfl) (by decide) (by decide) ?_
            show Steps p.tables e below (T224.setTop (mkF m 279 #[.val (.long q0), .second, .val (.int p1), .val (.int p2), .val (.int p3), .val (.int p4), .val (.long life), .second, .val (.int p8), .val (.ref se), .val (.ref ob), .val (.int kk), .val (.int (1 : Int32)), .val (.int (0 : Int32)), .val (.long (0 : Int64)), .second, .val (.ref zD), .val (.long ((0 : Int64) + (1 : Int64))), .second, .val (.ref zC)] [])) _
            refine XS.aload X224.here hx rfl (hb hby at_279) rfl rfl ?_
            show Steps p.tables e below (T224.setTop (mkF m 281 #[.val (.long q0), .second, .val (.int p1), .val (.int p2), .val (.int p3), .val (.int p4), .val (.long life), .second, .val (.int p8), .val (.ref se), .val (.ref ob), .val (.int kk), .val (.int (1 : Int32)), .val (.int (0 : Int32)), .val (.long (0 : Int64)), .second, .val (.ref zD), .val (.long ((0 : Int64) + (1 : Int64))), .second, .val (.ref zC)] [(.ref ob)])) _
            refine XS.iload X224.here hx rfl (hb hby at_281) rfl ?_
            exact kt
          have Y234 : Exa Z T224.heap ob "com/example/pulsekeep/pulsekeep/core/Subscription" := (Y3.keep K224)
          have Y235 : Fld Z T224.heap ob "com/example/pulsekeep/pulsekeep/core/Subscription" "settings" "Lcom/example/pulsekeep/pulsekeep/core/SubscriptionSettings;" (.ref se) := (KF224 _ _ _ _ _ Y225 (pallS (Or.inr (slot_ne (Or.inl (hw _ (List.mem_of_getElem? (i := 114) rfl))) (Or.inl (hw _ (List.mem_of_getElem? (i := 132) rfl))) (by decide) (t := (.object "com/example/pulsekeep/pulsekeep/core/SubscriptionSettings")) (t' := .long) (by decide) (by decide))) (pallS (Or.inr (slot_ne (Or.inl (hw _ (List.mem_of_getElem? (i := 114) rfl))) (Or.inl (hw _ (List.mem_of_getElem? (i := 139) rfl))) (by decide) (t := (.object "com/example/pulsekeep/pulsekeep/core/SubscriptionSettings")) (t' := .boolean) (by decide) (by decide))) pall0)))
          have Y236 : Fld Z T224.heap ob "com/example/pulsekeep/pulsekeep/core/Subscription" "items" "Ljava/util/List;" (.ref il) := (KF224 _ _ _ _ _ Y226 (pallS (Or.inr (slot_ne (Or.inr (hw _ (List.mem_of_getElem? (i := 88) rfl))) (Or.inl (hw _ (List.mem_of_getElem? (i := 132) rfl))) (by decide) (t := (.object "java/util/List")) (t' := .long) (by decide) (by decide))) (pallS (Or.inr (slot_ne (Or.inr (hw _ (List.mem_of_getElem? (i := 88) rfl))) (Or.inl (hw _ (List.mem_of_getElem? (i := 139) rfl))) (by decide) (t := (.object "java/util/List")) (t' := .boolean) (by decide) (by decide))) pall0)))
          have Y237 : Exa Z T224.heap se "com/example/pulsekeep/pulsekeep/core/SubscriptionSettings" := (Y227.keep K224)
          have Y238 : Fld Z T224.heap se "com/example/pulsekeep/pulsekeep/core/SubscriptionSettings" "publishingEnabled" "Z" (.int en) := (Y228.keep K224 (ninS (ne_exa E_se E_o (by decide)) nin0))
          have Y239 : Exa Z T224.heap il "java/util/ArrayList" := (Y229.keep K224)
          have Y240 : Fld Z T224.heap il "java/util/AbstractList" "modCount" "I" (.int mc) := (Y230.keep K224 (ninS (ne_exa E_il E_o (by decide)) nin0))
          have Y241 : Fld Z T224.heap il "java/util/ArrayList" "size" "I" (.int (0 : Int32)) := (Y231.keep K224 (ninS (ne_exa E_il E_o (by decide)) nin0))
          have Y242 : Fld Z T224.heap se "com/example/pulsekeep/pulsekeep/core/SubscriptionSettings" "lifetimeCount" "J" (.long life) := (Y232.keep K224 (ninS (ne_exa E_se E_o (by decide)) nin0))
          have Y243 : Fld Z T224.heap ob "com/example/pulsekeep/pulsekeep/core/Subscription" "messageSent" "Z" (.int (0 : Int32)) := (KF224 _ _ _ _ _ Y1_0 (pallS (Or.inr (slot_ne (Or.inl (hw _ (List.mem_of_getElem? (i := 130) rfl))) (Or.inl (hw _ (List.mem_of_getElem? (i := 132) rfl))) (by decide) (t := .boolean) (t' := .long) (by decide) (by decide))) (pallS (Or.inr (slot_ne (Or.inl (hw _ (List.mem_of_getElem? (i := 130) rfl))) (Or.inl (hw _ (List.mem_of_getElem? (i := 139) rfl))) (by decide) (t := .boolean) (t' := .boolean) (by decide) (by decide))) pall0)))
          have Y244 : Old Z n0 T224.heap := (Y198.keep K224 (allS (by omega) all0))
          obtain ⟨cq233, kq233, q233a, q233b, q233c⟩ := isOf hZ rfl Y234
          obtain ⟨_, _, ⟨T233, L233, k233, n233⟩, -, X233, ⟨Lc233, hQ233, l233, y233, z233⟩, st233⟩ := X224.virtualBack hx (y := (⟨"com/example/pulsekeep/pulsekeep/core/Subscription", "endCycle", "(Z)Lcom/example/pulsekeep/pulsekeep/core/Subscription$CycleEnd;"⟩ : MethodName)) (z := (⟨"com/example/pulsekeep/pulsekeep/core/Subscription", "endCycle", "(Z)Lcom/example/pulsekeep/pulsekeep/core/Subscription$CycleEnd;"⟩ : MethodName)) hown (mvT hZ (hw _ (List.mem_of_getElem? (i := 115) rfl))) (mvT hZ (hw _ (List.mem_of_getElem? (i := 116) rfl))) (notFace_of_selects (args := #[]) (mvT hZ (hw _ (List.mem_of_getElem? (i := 118) rfl)))) (mvT hZ (hw _ (List.mem_of_getElem? (i := 118) rfl))) (mvT hZ (hw _ (List.mem_of_getElem? (i := 117) rfl))) (by decide) (backOf (W := 0) (rm11 l Z a0 hw [] ob (0 : Int32) se il en mc life (own_nc (1 : Int32) (0 : Int64)) (own_due life (own_nc (1 : Int32) (0 : Int64)) (0 : Int32)) zD zC T224.heap n0 (by omega) Y234 Y235 Y236 Y237 Y238 Y239 Y240 Y241 Y242 Y243 Fc224 Fd224 S_DUE S_CLOSE Y244 (by omega)) hZ (hw _ (List.mem_of_getElem? (i := 119) rfl)) (hw _ (List.mem_of_getElem? (i := 29) rfl)) (by decide) (by decide)) q233a q233c (g := (mkF m 283 #[.val (.long q0), .second, .val (.int p1), .val (.int p2), .val (.int p3), .val (.int p4), .val (.long life), .second, .val (.int p8), .val (.ref se), .val (.ref ob), .val (.int kk), .val (.int (1 : Int32)), .val (.int (0 : Int32)), .val (.long (0 : Int64)), .second, .val (.ref zD), .val (.long ((0 : Int64) + (1 : Int64))), .second, .val (.ref zC)] [(.int (0 : Int32)), (.ref ob)])) rfl (by rw [hml]; rfl) (Steps.refl _) (argsL := [(.int (0 : Int32))]) (rest := []) (lenOf pd159_2 rfl) rfl (by show 2 * 0 + _ ≤ _; exact Nat.le_of_eq rfl) (hb hby at_283) (fun vm₁ hvm => ⟨rfl, rfl, (by decide : 16 + 1 ≤ _), (by decide : 116 + 4 ≤ _)⟩)
          dsimp only [Pt.U, Pt.locs, Pt.cells, Pt.slots] at X233 l233 y233 z233 st233 hQ233
          subst l233 y233 z233
          obtain ⟨rfl, N233q, K233, KF233, Fc233, Fd233⟩ := hQ233
          have sz233 : T224.heap.size ≤ T233.heap.size := K233.1
          have N233 := Fr.app N224 N233q
          refine Go.trans st233 ?_
          show Go p e below s _ _ _ (T233.setTop (mkF m 286 #[.val (.long q0), .second, .val (.int p1), .val (.int p2), .val (.int p3), .val (.int p4), .val (.long life), .second, .val (.int p8), .val (.ref se), .val (.ref ob), .val (.int kk), .val (.int (1 : Int32)), .val (.int (0 : Int32)), .val (.long (0 : Int64)), .second, .val (.ref zD), .val (.long ((0 : Int64) + (1 : Int64))), .second, .val (.ref zC)] [(.ref (own_end life (own_nc (0 : Int32) (own_nc (1 : Int32) (0 : Int64))) zD zC))]))
          rw [show own_end life (own_nc (0 : Int32) (own_nc (1 : Int32) (0 : Int64))) zD zC = zC from by rw [own_end, show (own_nc (0 : Int32) (own_nc (1 : Int32) (0 : Int64))) = ((0 : Int64) + (1 : Int64)) from by decide, if_neg h253_200]]
          refine Go.pre (st' := T233.setTop (mkF m 296 #[.val (.long q0), .second, .val (.int p1), .val (.int p2), .val (.int p3), .val (.int p4), .val (.long life), .second, .val (.int p8), .val (.ref se), .val (.ref ob), .val (.int kk), .val (.int (1 : Int32)), .val (.int (0 : Int32)), .val (.long (0 : Int64)), .second, .val (.ref zD), .val (.long ((0 : Int64) + (1 : Int64))), .second, .val (.ref zC)] [(.int (1 : Int32))])) (fun target kt => ?_) ?_
          · show Steps p.tables e below (T233.setTop (mkF m 286 #[.val (.long q0), .second, .val (.int p1), .val (.int p2), .val (.int p3), .val (.int p4), .val (.long life), .second, .val (.int p8), .val (.ref se), .val (.ref ob), .val (.int kk), .val (.int (1 : Int32)), .val (.int (0 : Int32)), .val (.long (0 : Int64)), .second, .val (.ref zD), .val (.long ((0 : Int64) + (1 : Int64))), .second, .val (.ref zC)] [(.ref zC)])) _
            refine XS.aload X233.here hx rfl (hb hby at_286) rfl rfl ?_
            show Steps p.tables e below (T233.setTop (mkF m 288 #[.val (.long q0), .second, .val (.int p1), .val (.int p2), .val (.int p3), .val (.int p4), .val (.long life), .second, .val (.int p8), .val (.ref se), .val (.ref ob), .val (.int kk), .val (.int (1 : Int32)), .val (.int (0 : Int32)), .val (.long (0 : Int64)), .second, .val (.ref zD), .val (.long ((0 : Int64) + (1 : Int64))), .second, .val (.ref zC)] [(.ref zC), (.ref zC)])) _
            refine Jvm.RoadKit.acmp (g := (mkF m 288 #[.val (.long q0), .second, .val (.int p1), .val (.int p2), .val (.int p3), .val (.int p4), .val (.long life), .second, .val (.int p8), .val (.ref se), .val (.ref ob), .val (.int kk), .val (.int (1 : Int32)), .val (.int (0 : Int32)), .val (.long (0 : Int64)), .second, .val (.ref zD), .val (.long ((0 : Int64) + (1 : Int64))), .second, .val (.ref zC)] [(.ref zC), (.ref zC)])) X233 hx rfl rfl rfl (pc0 := 288) (pc' := 291) (same := true) rfl (hb hby at_288) rfl (decide_eq_true rfl) (by decide) (by decide) ?_
            show Steps p.tables e below (T233.setTop (mkF m 291 #[.val (.long q0), .second, .val (.int p1), .val (.int p2), .val (.int p3), .val (.int p4), .val (.long life), .second, .val (.int p8), .val (.ref se), .val (.ref ob), .val (.int kk), .val (.int (1 : Int32)), .val (.int (0 : Int32)), .val (.long (0 : Int64)), .second, .val (.ref zD), .val (.long ((0 : Int64) + (1 : Int64))), .second, .val (.ref zC)] [])) _
            refine XS.iconst X233.here hx rfl (hb hby at_291) ?_
            show Steps p.tables e below (T233.setTop (mkF m 292 #[.val (.long q0), .second, .val (.int p1), .val (.int p2), .val (.int p3), .val (.int p4), .val (.long life), .second, .val (.int p8), .val (.ref se), .val (.ref ob), .val (.int kk), .val (.int (1 : Int32)), .val (.int (0 : Int32)), .val (.long (0 : Int64)), .second, .val (.ref zD), .val (.long ((0 : Int64) + (1 : Int64))), .second, .val (.ref zC)] [(.int (1 : Int32))])) _
            refine XS.goto X233.here hx rfl (pc0 := 292) (pc' := 296) rfl (hb hby at_292) (by decide) (by decide) ?_
            exact kt
          exact Go.retN X233 hx hlk hrt (z' := (1 : Int32)) (by simp) (hb hby at_296) rfl (by decide) (by decide) (by exact ⟨rfl, N233⟩)
      · refine Go.pre (st' := T2.setTop (mkF m 222 #[.val (.long q0), .second, .val (.int p1), .val (.int p2), .val (.int p3), .val (.int p4), .val (.long life), .second, .val (.int p8), .val (.ref se), .val (.ref ob), .val (.int kk), .val (.int (1 : Int32)), .val (.int (0 : Int32)), .val (.long (0 : Int64)), .second, .unset, .unset, .unset, .unset] [])) (fun target kt => ?_) ?_
        · show Steps p.tables e below (T2.setTop (mkF m 219 #[.val (.long q0), .second, .val (.int p1), .val (.int p2), .val (.int p3), .val (.int p4), .val (.long life), .second, .val (.int p8), .val (.ref se), .val (.ref ob), .val (.int kk), .val (.int (1 : Int32)), .val (.int (0 : Int32)), .val (.long (0 : Int64)), .second, .unset, .unset, .unset, .unset] [(.int (lcmpW (0 : Int64) life))])) _
          refine XS.ifNo X2.here hx rfl (hb hby at_219) rfl ((if0 _ _).trans (flt (fun q => h219_197 ((lw_lt _ _).mp q))).1) ?_
          exact kt
        have Y245 : Old Z n0 T1.heap := (Ol.keep K1 (allS (by omega) all0))
        obtain ⟨T246, X246, e246, st246⟩ := getS2 X2 hx hZ hown (host := "") (Or.inl (hw _ (List.mem_of_getElem? (i := 194) rfl))) Via.refl e2 (S_CLOSE.ext Y245.2) (g := (mkF m 222 #[.val (.long q0), .second, .val (.int p1), .val (.int p2), .val (.int p3), .val (.int p4), .val (.long life), .second, .val (.int p8), .val (.ref se), .val (.ref ob), .val (.int kk), .val (.int (1 : Int32)), .val (.int (0 : Int32)), .val (.long (0 : Int64)), .second, .unset, .unset, .unset, .unset] [])) rfl (hb hby at_222)
        refine Go.pre st246 ?_
        show Go p e below s _ _ _ (T246.setTop (mkF m 225 #[.val (.long q0), .second, .val (.int p1), .val (.int p2), .val (.int p3), .val (.int p4), .val (.long life), .second, .val (.int p8), .val (.ref se), .val (.ref ob), .val (.int kk), .val (.int (1 : Int32)), .val (.int (0 : Int32)), .val (.long (0 : Int64)), .second, .unset, .unset, .unset, .unset] [(.ref zC)]))
        refine Go.pre (st' := T246.setTop (mkF m 253 #[.val (.long q0), .second, .val (.int p1), .val (.int p2), .val (.int p3), .val (.int p4), .val (.long life), .second, .val (.int p8), .val (.ref se), .val (.ref ob), .val (.int kk), .val (.int (1 : Int32)), .val (.int (0 : Int32)), .val (.long (0 : Int64)), .second, .val (.ref zC), .val (.long ((0 : Int64) + (1 : Int64))), .second, .unset] [(.int (lcmpW ((0 : Int64) + (1 : Int64)) life))])) (fun target kt => ?_) ?_
        · show Steps p.tables e below (T246.setTop (mkF m 225 #[.val (.long q0), .second, .val (.int p1), .val (.int p2), .val (.int p3), .val (.int p4), .val (.long life), .second, .val (.int p8), .val (.ref se), .val (.ref ob), .val (.int kk), .val (.int (1 : Int32)), .val (.int (0 : Int32)), .val (.long (0 : Int64)), .second, .unset, .unset, .unset, .unset] [(.ref zC)])) _
          refine XS.goto X246.here hx rfl (pc0 := 225) (pc' := 231) rfl (hb hby at_225) (by decide) (by decide) ?_
          show Steps p.tables e below (T246.setTop (mkF m 231 #[.val (.long q0), .second, .val (.int p1), .val (.int p2), .val (.int p3), .val (.int p4), .val (.long life), .second, .val (.int p8), .val (.ref se), .val (.ref ob), .val (.int kk), .val (.int (1 : Int32)), .val (.int (0 : Int32)), .val (.long (0 : Int64)), .second, .unset, .unset, .unset, .unset] [(.ref zC)])) _
          refine XS.astore X246.here hx rfl (hb hby at_231) rfl rfl (l' := #[.val (.long q0), .second, .val (.int p1), .val (.int p2), .val (.int p3), .val (.int p4), .val (.long life), .second, .val (.int p8), .val (.ref se), .val (.ref ob), .val (.int kk), .val (.int (1 : Int32)), .val (.int (0 : Int32)), .val (.long (0 : Int64)), .second, .val (.ref zC), .unset, .unset, .unset]) rfl ?_
          show Steps p.tables e below (T246.setTop (mkF m 233 #[.val (.long q0), .second, .val (.int p1), .val (.int p2), .val (.int p3), .val (.int p4), .val (.long life), .second, .val (.int p8), .val (.ref se), .val (.ref ob), .val (.int kk), .val (.int (1 : Int32)), .val (.int (0 : Int32)), .val (.long (0 : Int64)), .second, .val (.ref zC), .unset, .unset, .unset] [])) _
          refine XS.iload X246.here hx rfl (hb hby at_233) rfl ?_
          show Steps p.tables e below (T246.setTop (mkF m 235 #[.val (.long q0), .second, .val (.int p1), .val (.int p2), .val (.int p3), .val (.int p4), .val (.long life), .second, .val (.int p8), .val (.ref se), .val (.ref ob), .val (.int kk), .val (.int (1 : Int32)), .val (.int (0 : Int32)), .val (.long (0 : Int64)), .second, .val (.ref zC), .unset, .unset, .unset] [(.int (0 : Int32))])) _
          refine XS.ifYes X246.here hx rfl (pc0 := 235) (pc' := 242) rfl (hb hby at_235) rfl ((if0 _ _).trans (teq (by decide)).1) (by decide) (by decide) ?_
          show Steps p.tables e below (T246.setTop (mkF m 242 #[.val (.long q0), .second, .val (.int p1), .val (.int p2), .val (.int p3), .val (.int p4), .val (.long life), .second, .val (.int p8), .val (.ref se), .val (.ref ob), .val (.int kk), .val (.int (1 : Int32)), .val (.int (0 : Int32)), .val (.long (0 : Int64)), .second, .val (.ref zC), .unset, .unset, .unset] [])) _
          refine XS.lload X246.here hx rfl (hb hby at_242) rfl ?_
          show Steps p.tables e below (T246.setTop (mkF m 244 #[.val (.long q0), .second, .val (.int p1), .val (.int p2), .val (.int p3), .val (.int p4), .val (.long life), .second, .val (.int p8), .val (.ref se), .val (.ref ob), .val (.int kk), .val (.int (1 : Int32)), .val (.int (0 : Int32)), .val (.long (0 : Int64)), .second, .val (.ref zC), .unset, .unset, .unset] [(.long (0 : Int64))])) _
          refine XS.lconst X246.here hx rfl (hb hby at_244) ?_
          show Steps p.tables e below (T246.setTop (mkF m 245 #[.val (.long q0), .second, .val (.int p1), .val (.int p2), .val (.int p3), .val (.int p4), .val (.long life), .second, .val (.int p8), .val (.ref se), .val (.ref ob), .val (.int kk), .val (.int (1 : Int32)), .val (.int (0 : Int32)), .val (.long (0 : Int64)), .second, .val (.ref zC), .unset, .unset, .unset] [(.long (1 : Int64)), (.long (0 : Int64))])) _
          refine XS.ladd X246.here hx rfl (hb hby at_245) rfl ?_
          show Steps p.tables e below (T246.setTop (mkF m 246 #[.val (.long q0), .second, .val (.int p1), .val (.int p2), .val (.int p3), .val (.int p4), .val (.long life), .second, .val (.int p8), .val (.ref se), .val (.ref ob), .val (.int kk), .val (.int (1 : Int32)), .val (.int (0 : Int32)), .val (.long (0 : Int64)), .second, .val (.ref zC), .unset, .unset, .unset] [(.long ((0 : Int64) + (1 : Int64)))])) _
          refine XS.lstore X246.here hx rfl (hb hby at_246) rfl (l' := #[.val (.long q0), .second, .val (.int p1), .val (.int p2), .val (.int p3), .val (.int p4), .val (.long life), .second, .val (.int p8), .val (.ref se), .val (.ref ob), .val (.int kk), .val (.int (1 : Int32)), .val (.int (0 : Int32)), .val (.long (0 : Int64)), .second, .val (.ref zC), .val (.long ((0 : Int64) + (1 : Int64))), .second, .unset]) rfl ?_
          show Steps p.tables e below (T246.setTop (mkF m 248 #[.val (.long q0), .second, .val (.int p1), .val (.int p2), .val (.int p3), .val (.int p4), .val (.long life), .second, .val (.int p8), .val (.ref se), .val (.ref ob), .val (.int kk), .val (.int (1 : Int32)), .val (.int (0 : Int32)), .val (.long (0 : Int64)), .second, .val (.ref zC), .val (.long ((0 : Int64) + (1 : Int64))), .second, .unset] [])) _
          refine XS.lload X246.here hx rfl (hb hby at_248) rfl ?_
          show Steps p.tables e below (T246.setTop (mkF m 250 #[.val (.long q0), .second, .val (.int p1), .val (.int p2), .val (.int p3), .val (.int p4), .val (.long life), .second, .val (.int p8), .val (.ref se), .val (.ref ob), .val (.int kk), .val (.int (1 : Int32)), .val (.int (0 : Int32)), .val (.long (0 : Int64)), .second, .val (.ref zC), .val (.long ((0 : Int64) + (1 : Int64))), .second, .unset] [(.long ((0 : Int64) + (1 : Int64)))])) _
          refine XS.lload X246.here hx rfl (hb hby at_250) rfl ?_
          show Steps p.tables e below (T246.setTop (mkF m 252 #[.val (.long q0), .second, .val (.int p1), .val (.int p2), .val (.int p3), .val (.int p4), .val (.long life), .second, .val (.int p8), .val (.ref se), .val (.ref ob), .val (.int kk), .val (.int (1 : Int32)), .val (.int (0 : Int32)), .val (.long (0 : Int64)), .second, .val (.ref zC), .val (.long ((0 : Int64) + (1 : Int64))), .second, .unset] [(.long life), (.long ((0 : Int64) + (1 : Int64)))])) _
          refine XS.lcmp X246.here hx rfl (hb hby at_252) rfl ?_
          exact kt
        by_cases h253_247 : ((0 : Int64) + (1 : Int64)) < life
        · refine Go.pre (st' := T246.setTop (mkF m 262 #[.val (.long q0), .second, .val (.int p1), .val (.int p2), .val (.int p3), .val (.int p4), .val (.long life), .second, .val (.int p8), .val (.ref se), .val (.ref ob), .val (.int kk), .val (.int (1 : Int32)), .val (.int (0 : Int32)), .val (.long (0 : Int64)), .second, .val (.ref zC), .val (.long ((0 : Int64) + (1 : Int64))), .second, .unset] [])) (fun target kt => ?_) ?_
          · show Steps p.tables e below (T246.setTop (mkF m 253 #[.val (.long q0), .second, .val (.int p1), .val (.int p2), .val (.int p3), .val (.int p4), .val (.long life), .second, .val (.int p8), .val (.ref se), .val (.ref ob), .val (.int kk), .val (.int (1 : Int32)), .val (.int (0 : Int32)), .val (.long (0 : Int64)), .second, .val (.ref zC), .val (.long ((0 : Int64) + (1 : Int64))), .second, .unset] [(.int (lcmpW ((0 : Int64) + (1 : Int64)) life))])) _
            refine XS.ifYes X246.here hx rfl (pc0 := 253) (pc' := 262) rfl (hb hby at_253) rfl ((if0 _ _).trans (tlt ((lw_lt _ _).mpr h253_247)).1) (by decide) (by decide) ?_
            exact kt
          obtain ⟨T248, X248, e248, st248⟩ := getS2 X246 hx hZ hown (host := "") (Or.inl (hw _ (List.mem_of_getElem? (i := 155) rfl))) Via.refl e246 (S_DUE.ext Y245.2) (g := (mkF m 262 #[.val (.long q0), .second, .val (.int p1), .val (.int p2), .val (.int p3), .val (.int p4), .val (.long life), .second, .val (.int p8), .val (.ref se), .val (.ref ob), .val (.int kk), .val (.int (1 : Int32)), .val (.int (0 : Int32)), .val (.long (0 : Int64)), .second, .val (.ref zC), .val (.long ((0 : Int64) + (1 : Int64))), .second, .unset] [])) rfl (hb hby at_262)
          refine Go.pre st248 ?_
          show Go p e below s _ _ _ (T248.setTop (mkF m 265 #[.val (.long q0), .second, .val (.int p1), .val (.int p2), .val (.int p3), .val (.int p4), .val (.long life), .second, .val (.int p8), .val (.ref se), .val (.ref ob), .val (.int kk), .val (.int (1 : Int32)), .val (.int (0 : Int32)), .val (.long (0 : Int64)), .second, .val (.ref zC), .val (.long ((0 : Int64) + (1 : Int64))), .second, .unset] [(.ref zD)]))
          refine Go.pre (st' := T248.setTop (mkF m 271 #[.val (.long q0), .second, .val (.int p1), .val (.int p2), .val (.int p3), .val (.int p4), .val (.long life), .second, .val (.int p8), .val (.ref se), .val (.ref ob), .val (.int kk), .val (.int (1 : Int32)), .val (.int (0 : Int32)), .val (.long (0 : Int64)), .second, .val (.ref zC), .val (.long ((0 : Int64) + (1 : Int64))), .second, .val (.ref zD)] [(.int (1 : Int32)), (.ref ob)])) (fun target kt => ?_) ?_
          · show Steps p.tables e below (T248.setTop (mkF m 265 #[.val (.long q0), .second, .val (.int p1), .val (.int p2), .val (.int p3), .val (.int p4), .val (.long life), .second, .val (.int p8), .val (.ref se), .val (.ref ob), .val (.int kk), .val (.int (1 : Int32)), .val (.int (0 : Int32)), .val (.long (0 : Int64)), .second, .val (.ref zC), .val (.long ((0 : Int64) + (1 : Int64))), .second, .unset] [(.ref zD)])) _
            refine XS.astore X248.here hx rfl (hb hby at_265) rfl rfl (l' := #[.val (.long q0), .second, .val (.int p1), .val (.int p2), .val (.int p3), .val (.int p4), .val (.long life), .second, .val (.int p8), .val (.ref se), .val (.ref ob), .val (.int kk), .val (.int (1 : Int32)), .val (.int (0 : Int32)), .val (.long (0 : Int64)), .second, .val (.ref zC), .val (.long ((0 : Int64) + (1 : Int64))), .second, .val (.ref zD)]) rfl ?_
            show Steps p.tables e below (T248.setTop (mkF m 267 #[.val (.long q0), .second, .val (.int p1), .val (.int p2), .val (.int p3), .val (.int p4), .val (.long life), .second, .val (.int p8), .val (.ref se), .val (.ref ob), .val (.int kk), .val (.int (1 : Int32)), .val (.int (0 : Int32)), .val (.long (0 : Int64)), .second, .val (.ref zC), .val (.long ((0 : Int64) + (1 : Int64))), .second, .val (.ref zD)] [])) _
            refine XS.aload X248.here hx rfl (hb hby at_267) rfl rfl ?_
            show Steps p.tables e below (T248.setTop (mkF m 269 #[.val (.long q0), .second, .val (.int p1), .val (.int p2), .val (.int p3), .val (.int p4), .val (.long life), .second, .val (.int p8), .val (.ref se), .val (.ref ob), .val (.int kk), .val (.int (1 : Int32)), .val (.int (0 : Int32)), .val (.long (0 : Int64)), .second, .val (.ref zC), .val (.long ((0 : Int64) + (1 : Int64))), .second, .val (.ref zD)] [(.ref ob)])) _
            refine XS.iload X248.here hx rfl (hb hby at_269) rfl ?_
            exact kt
          have Y250 : Fld Z T1.heap ob "com/example/pulsekeep/pulsekeep/core/Subscription" "settings" "Lcom/example/pulsekeep/pulsekeep/core/SubscriptionSettings;" (.ref se) := (KF1 _ _ _ _ _ F_settings (pallS (Or.inr (slot_ne (Or.inl (hw _ (List.mem_of_getElem? (i := 114) rfl))) (Or.inl (hw _ (List.mem_of_getElem? (i := 130) rfl))) (by decide) (t := (.object "com/example/pulsekeep/pulsekeep/core/SubscriptionSettings")) (t' := .boolean) (by decide) (by decide))) (pallS (Or.inr (slot_ne (Or.inl (hw _ (List.mem_of_getElem? (i := 114) rfl))) (Or.inl (hw _ (List.mem_of_getElem? (i := 139) rfl))) (by decide) (t := (.object "com/example/pulsekeep/pulsekeep/core/SubscriptionSettings")) (t' := .boolean) (by decide) (by decide))) (pallS (Or.inr (slot_ne (Or.inl (hw _ (List.mem_of_getElem? (i := 114) rfl))) (Or.inl (hw _ (List.mem_of_getElem? (i := 149) rfl))) (by decide) (t := (.object "com/example/pulsekeep/pulsekeep/core/SubscriptionSettings")) (t' := .long) (by decide) (by decide))) (pallS (Or.inr (slot_ne (Or.inl (hw _ (List.mem_of_getElem? (i := 114) rfl))) (Or.inl (hw _ (List.mem_of_getElem? (i := 132) rfl))) (by decide) (t := (.object "com/example/pulsekeep/pulsekeep/core/SubscriptionSettings")) (t' := .long) (by decide) (by decide))) pall0)))))
          have Y251 : Fld Z T1.heap ob "com/example/pulsekeep/pulsekeep/core/Subscription" "items" "Ljava/util/List;" (.ref il) := (KF1 _ _ _ _ _ F_items (pallS (Or.inr (slot_ne (Or.inr (hw _ (List.mem_of_getElem? (i := 88) rfl))) (Or.inl (hw _ (List.mem_of_getElem? (i := 130) rfl))) (by decide) (t := (.object "java/util/List")) (t' := .boolean) (by decide) (by decide))) (pallS (Or.inr (slot_ne (Or.inr (hw _ (List.mem_of_getElem? (i := 88) rfl))) (Or.inl (hw _ (List.mem_of_getElem? (i := 139) rfl))) (by decide) (t := (.object "java/util/List")) (t' := .boolean) (by decide) (by decide))) (pallS (Or.inr (slot_ne (Or.inr (hw _ (List.mem_of_getElem? (i := 88) rfl))) (Or.inl (hw _ (List.mem_of_getElem? (i := 149) rfl))) (by decide) (t := (.object "java/util/List")) (t' := .long) (by decide) (by decide))) (pallS (Or.inr (slot_ne (Or.inr (hw _ (List.mem_of_getElem? (i := 88) rfl))) (Or.inl (hw _ (List.mem_of_getElem? (i := 132) rfl))) (by decide) (t := (.object "java/util/List")) (t' := .long) (by decide) (by decide))) pall0)))))
          have Y252 : Exa Z T1.heap se "com/example/pulsekeep/pulsekeep/core/SubscriptionSettings" := (E_se.keep K1)
          have Y253 : Fld Z T1.heap se "com/example/pulsekeep/pulsekeep/core/SubscriptionSettings" "publishingEnabled" "Z" (.int en) := (F_en.keep K1 (ninS (ne_exa E_se E_o (by decide)) nin0))
          have Y254 : Exa Z T1.heap il "java/util/ArrayList" := (E_il.keep K1)
          have Y255 : Fld Z T1.heap il "java/util/AbstractList" "modCount" "I" (.int mc) := (F_mc.keep K1 (ninS (ne_exa E_il E_o (by decide)) nin0))
          have Y256 : Fld Z T1.heap il "java/util/ArrayList" "size" "I" (.int (0 : Int32)) := (F_size.keep K1 (ninS (ne_exa E_il E_o (by decide)) nin0))
          have Y257 : Fld Z T1.heap se "com/example/pulsekeep/pulsekeep/core/SubscriptionSettings" "lifetimeCount" "J" (.long life) := (F_life.keep K1 (ninS (ne_exa E_se E_o (by decide)) nin0))
          obtain ⟨cq249, kq249, q249a, q249b, q249c⟩ := isOf hZ e248 Y3
          obtain ⟨_, _, ⟨T249, L249, k249, n249⟩, -, X249, ⟨Lc249, hQ249, l249, y249, z249⟩, st249⟩ := X248.virtualBack hx (y := (⟨"com/example/pulsekeep/pulsekeep/core/Subscription", "endCycle", "(Z)Lcom/example/pulsekeep/pulsekeep/core/Subscription$CycleEnd;"⟩ : MethodName)) (z := (⟨"com/example/pulsekeep/pulsekeep/core/Subscription", "endCycle", "(Z)Lcom/example/pulsekeep/pulsekeep/core/Subscription$CycleEnd;"⟩ : MethodName)) hown (mvT hZ (hw _ (List.mem_of_getElem? (i := 115) rfl))) (mvT hZ (hw _ (List.mem_of_getElem? (i := 116) rfl))) (notFace_of_selects (args := #[]) (mvT hZ (hw _ (List.mem_of_getElem? (i := 118) rfl)))) (mvT hZ (hw _ (List.mem_of_getElem? (i := 118) rfl))) (mvT hZ (hw _ (List.mem_of_getElem? (i := 117) rfl))) (by decide) (backOf (W := 0) (rm11 l Z a0 hw [] ob (1 : Int32) se il en mc life (0 : Int64) (0 : Int32) zD zC T1.heap n0 (by omega) Y3 Y250 Y251 Y252 Y253 Y254 Y255 Y256 Y257 Y1_0 Y1_3 Y1_1 S_DUE S_CLOSE Y245 (by omega)) hZ (hw _ (List.mem_of_getElem? (i := 119) rfl)) (hw _ (List.mem_of_getElem? (i := 29) rfl)) (by decide) (by decide)) q249a q249c (g := (mkF m 271 #[.val (.long q0), .second, .val (.int p1), .val (.int p2), .val (.int p3), .val (.int p4), .val (.long life), .second, .val (.int p8), .val (.ref se), .val (.ref ob), .val (.int kk), .val (.int (1 : Int32)), .val (.int (0 : Int32)), .val (.long (0 : Int64)), .second, .val (.ref zC), .val (.long ((0 : Int64) + (1 : Int64))), .second, .val (.ref zD)] [(.int (1 : Int32)), (.ref ob)])) rfl (by rw [hml]; rfl) (Steps.refl _) (argsL := [(.int (1 : Int32))]) (rest := []) (lenOf pd159_2 rfl) rfl (by show 2 * 0 + _ ≤ _; exact Nat.le_of_eq rfl) (hb hby at_271) (fun vm₁ hvm => ⟨rfl, e248, (by decide : 15 + 1 ≤ _), (by decide : 112 + 4 ≤ _)⟩)
          dsimp only [Pt.U, Pt.locs, Pt.cells, Pt.slots] at X249 l249 y249 z249 st249 hQ249
          subst l249 y249 z249
          obtain ⟨rfl, N249q, K249, KF249, Fc249, Fd249⟩ := hQ249
          have sz249 : T1.heap.size ≤ T249.heap.size := K249.1
          have N249 := Fr.app N2 N249q
          refine Go.trans st249 ?_
          show Go p e below s _ _ _ (T249.setTop (mkF m 274 #[.val (.long q0), .second, .val (.int p1), .val (.int p2), .val (.int p3), .val (.int p4), .val (.long life), .second, .val (.int p8), .val (.ref se), .val (.ref ob), .val (.int kk), .val (.int (1 : Int32)), .val (.int (0 : Int32)), .val (.long (0 : Int64)), .second, .val (.ref zC), .val (.long ((0 : Int64) + (1 : Int64))), .second, .val (.ref zD)] [(.ref (own_end life (own_nc (1 : Int32) (0 : Int64)) zD zC))]))
          rw [show own_end life (own_nc (1 : Int32) (0 : Int64)) zD zC = zC from by rw [own_end, show (own_nc (1 : Int32) (0 : Int64)) = (0 : Int64) from by decide, if_neg h219_197]]
          refine Go.pre (st' := T249.setTop (mkF m 283 #[.val (.long q0), .second, .val (.int p1), .val (.int p2), .val (.int p3), .val (.int p4), .val (.long life), .second, .val (.int p8), .val (.ref se), .val (.ref ob), .val (.int kk), .val (.int (1 : Int32)), .val (.int (0 : Int32)), .val (.long (0 : Int64)), .second, .val (.ref zC), .val (.long ((0 : Int64) + (1 : Int64))), .second, .val (.ref zD)] [(.int (0 : Int32)), (.ref ob)])) (fun target kt => ?_) ?_
          · show Steps p.tables e below (T249.setTop (mkF m 274 #[.val (.long q0), .second, .val (.int p1), .val (.int p2), .val (.int p3), .val (.int p4), .val (.long life), .second, .val (.int p8), .val (.ref se), .val (.ref ob), .val (.int kk), .val (.int (1 : Int32)), .val (.int (0 : Int32)), .val (.long (0 : Int64)), .second, .val (.ref zC), .val (.long ((0 : Int64) + (1 : Int64))), .second, .val (.ref zD)] [(.ref zC)])) _
            refine XS.aload X249.here hx rfl (hb hby at_274) rfl rfl ?_
            show Steps p.tables e below (T249.setTop (mkF m 276 #[.val (.long q0), .second, .val (.int p1), .val (.int p2), .val (.int p3), .val (.int p4), .val (.long life), .second, .val (.int p8), .val (.ref se), .val (.ref ob), .val (.int kk), .val (.int (1 : Int32)), .val (.int (0 : Int32)), .val (.long (0 : Int64)), .second, .val (.ref zC), .val (.long ((0 : Int64) + (1 : Int64))), .second, .val (.ref zD)] [(.ref zC), (.ref zC)])) _
            refine Jvm.RoadKit.acmp (g := (mkF m 276 #[.val (.long q0), .second, .val (.int p1), .val (.int p2), .val (.int p3), .val (.int p4), .val (.long life), .second, .val (.int p8), .val (.ref se), .val (.ref ob), .val (.int kk), .val (.int (1 : Int32)), .val (.int (0 : Int32)), .val (.long (0 : Int64)), .second, .val (.ref zC), .val (.long ((0 : Int64) + (1 : Int64))), .second, .val (.ref zD)] [(.ref zC), (.ref zC)])) X249 hx rfl rfl rfl (pc0 := 276) (pc' := 279) (same := true) rfl (hb hby at_276) rfl (decide_eq_true rfl) (by decide) (by decide) ?_
            show Steps p.tables e below (T249.setTop (mkF m 279 #[.val (.long q0), .second, .val (.int p1), .val (.int p2), .val (.int p3), .val (.int p4), .val (.long life), .second, .val (.int p8), .val (.ref se), .val (.ref ob), .val (.int kk), .val (.int (1 : Int32)), .val (.int (0 : Int32)), .val (.long (0 : Int64)), .second, .val (.ref zC), .val (.long ((0 : Int64) + (1 : Int64))), .second, .val (.ref zD)] [])) _
            refine XS.aload X249.here hx rfl (hb hby at_279) rfl rfl ?_
            show Steps p.tables e below (T249.setTop (mkF m 281 #[.val (.long q0), .second, .val (.int p1), .val (.int p2), .val (.int p3), .val (.int p4), .val (.long life), .second, .val (.int p8), .val (.ref se), .val (.ref ob), .val (.int kk), .val (.int (1 : Int32)), .val (.int (0 : Int32)), .val (.long (0 : Int64)), .second, .val (.ref zC), .val (.long ((0 : Int64) + (1 : Int64))), .second, .val (.ref zD)] [(.ref ob)])) _
            refine XS.iload X249.here hx rfl (hb hby at_281) rfl ?_
            exact kt
          have Y259 : Exa Z T249.heap ob "com/example/pulsekeep/pulsekeep/core/Subscription" := (Y3.keep K249)
          have Y260 : Fld Z T249.heap ob "com/example/pulsekeep/pulsekeep/core/Subscription" "settings" "Lcom/example/pulsekeep/pulsekeep/core/SubscriptionSettings;" (.ref se) := (KF249 _ _ _ _ _ Y250 (pallS (Or.inr (slot_ne (Or.inl (hw _ (List.mem_of_getElem? (i := 114) rfl))) (Or.inl (hw _ (List.mem_of_getElem? (i := 132) rfl))) (by decide) (t := (.object "com/example/pulsekeep/pulsekeep/core/SubscriptionSettings")) (t' := .long) (by decide) (by decide))) (pallS (Or.inr (slot_ne (Or.inl (hw _ (List.mem_of_getElem? (i := 114) rfl))) (Or.inl (hw _ (List.mem_of_getElem? (i := 139) rfl))) (by decide) (t := (.object "com/example/pulsekeep/pulsekeep/core/SubscriptionSettings")) (t' := .boolean) (by decide) (by decide))) pall0)))
          have Y261 : Fld Z T249.heap ob "com/example/pulsekeep/pulsekeep/core/Subscription" "items" "Ljava/util/List;" (.ref il) := (KF249 _ _ _ _ _ Y251 (pallS (Or.inr (slot_ne (Or.inr (hw _ (List.mem_of_getElem? (i := 88) rfl))) (Or.inl (hw _ (List.mem_of_getElem? (i := 132) rfl))) (by decide) (t := (.object "java/util/List")) (t' := .long) (by decide) (by decide))) (pallS (Or.inr (slot_ne (Or.inr (hw _ (List.mem_of_getElem? (i := 88) rfl))) (Or.inl (hw _ (List.mem_of_getElem? (i := 139) rfl))) (by decide) (t := (.object "java/util/List")) (t' := .boolean) (by decide) (by decide))) pall0)))
          have Y262 : Exa Z T249.heap se "com/example/pulsekeep/pulsekeep/core/SubscriptionSettings" := (Y252.keep K249)
          have Y263 : Fld Z T249.heap se "com/example/pulsekeep/pulsekeep/core/SubscriptionSettings" "publishingEnabled" "Z" (.int en) := (Y253.keep K249 (ninS (ne_exa E_se E_o (by decide)) nin0))
          have Y264 : Exa Z T249.heap il "java/util/ArrayList" := (Y254.keep K249)
          have Y265 : Fld Z T249.heap il "java/util/AbstractList" "modCount" "I" (.int mc) := (Y255.keep K249 (ninS (ne_exa E_il E_o (by decide)) nin0))
          have Y266 : Fld Z T249.heap il "java/util/ArrayList" "size" "I" (.int (0 : Int32)) := (Y256.keep K249 (ninS (ne_exa E_il E_o (by decide)) nin0))
          have Y267 : Fld Z T249.heap se "com/example/pulsekeep/pulsekeep/core/SubscriptionSettings" "lifetimeCount" "J" (.long life) := (Y257.keep K249 (ninS (ne_exa E_se E_o (by decide)) nin0))
          have Y268 : Fld Z T249.heap ob "com/example/pulsekeep/pulsekeep/core/Subscription" "messageSent" "Z" (.int (0 : Int32)) := (KF249 _ _ _ _ _ Y1_0 (pallS (Or.inr (slot_ne (Or.inl (hw _ (List.mem_of_getElem? (i := 130) rfl))) (Or.inl (hw _ (List.mem_of_getElem? (i := 132) rfl))) (by decide) (t := .boolean) (t' := .long) (by decide) (by decide))) (pallS (Or.inr (slot_ne (Or.inl (hw _ (List.mem_of_getElem? (i := 130) rfl))) (Or.inl (hw _ (List.mem_of_getElem? (i := 139) rfl))) (by decide) (t := .boolean) (t' := .boolean) (by decide) (by decide))) pall0)))
          have Y269 : Old Z n0 T249.heap := (Y245.keep K249 (allS (by omega) all0))
          obtain ⟨cq258, kq258, q258a, q258b, q258c⟩ := isOf hZ rfl Y259
          obtain ⟨_, _, ⟨T258, L258, k258, n258⟩, -, X258, ⟨Lc258, hQ258, l258, y258, z258⟩, st258⟩ := X249.virtualBack hx (y := (⟨"com/example/pulsekeep/pulsekeep/core/Subscription", "endCycle", "(Z)Lcom/example/pulsekeep/pulsekeep/core/Subscription$CycleEnd;"⟩ : MethodName)) (z := (⟨"com/example/pulsekeep/pulsekeep/core/Subscription", "endCycle", "(Z)Lcom/example/pulsekeep/pulsekeep/core/Subscription$CycleEnd;"⟩ : MethodName)) hown (mvT hZ (hw _ (List.mem_of_getElem? (i := 115) rfl))) (mvT hZ (hw _ (List.mem_of_getElem? (i := 116) rfl))) (notFace_of_selects (args := #[]) (mvT hZ (hw _ (List.mem_of_getElem? (i := 118) rfl)))) (mvT hZ (hw _ (List.mem_of_getElem? (i := 118) rfl))) (mvT hZ (hw _ (List.mem_of_getElem? (i := 117) rfl))) (by decide) (backOf (W := 0) (rm11 l Z a0 hw [] ob (0 : Int32) se il en mc life (own_nc (1 : Int32) (0 : Int64)) (own_due life (own_nc (1 : Int32) (0 : Int64)) (0 : Int32)) zD zC T249.heap n0 (by omega) Y259 Y260 Y261 Y262 Y263 Y264 Y265 Y266 Y267 Y268 Fc249 Fd249 S_DUE S_CLOSE Y269 (by omega)) hZ (hw _ (List.mem_of_getElem? (i := 119) rfl)) (hw _ (List.mem_of_getElem? (i := 29) rfl)) (by decide) (by decide)) q258a q258c (g := (mkF m 283 #[.val (.long q0), .second, .val (.int p1), .val (.int p2), .val (.int p3), .val (.int p4), .val (.long life), .second, .val (.int p8), .val (.ref se), .val (.ref ob), .val (.int kk), .val (.int (1 : Int32)), .val (.int (0 : Int32)), .val (.long (0 : Int64)), .second, .val (.ref zC), .val (.long ((0 : Int64) + (1 : Int64))), .second, .val (.ref zD)] [(.int (0 : Int32)), (.ref ob)])) rfl (by rw [hml]; rfl) (Steps.refl _) (argsL := [(.int (0 : Int32))]) (rest := []) (lenOf pd159_2 rfl) rfl (by show 2 * 0 + _ ≤ _; exact Nat.le_of_eq rfl) (hb hby at_283) (fun vm₁ hvm => ⟨rfl, rfl, (by decide : 16 + 1 ≤ _), (by decide : 116 + 4 ≤ _)⟩)
          dsimp only [Pt.U, Pt.locs, Pt.cells, Pt.slots] at X258 l258 y258 z258 st258 hQ258
          subst l258 y258 z258
          obtain ⟨rfl, N258q, K258, KF258, Fc258, Fd258⟩ := hQ258
          have sz258 : T249.heap.size ≤ T258.heap.size := K258.1
          have N258 := Fr.app N249 N258q
          refine Go.trans st258 ?_
          show Go p e below s _ _ _ (T258.setTop (mkF m 286 #[.val (.long q0), .second, .val (.int p1), .val (.int p2), .val (.int p3), .val (.int p4), .val (.long life), .second, .val (.int p8), .val (.ref se), .val (.ref ob), .val (.int kk), .val (.int (1 : Int32)), .val (.int (0 : Int32)), .val (.long (0 : Int64)), .second, .val (.ref zC), .val (.long ((0 : Int64) + (1 : Int64))), .second, .val (.ref zD)] [(.ref (own_end life (own_nc (0 : Int32) (own_nc (1 : Int32) (0 : Int64))) zD zC))]))
          rw [show own_end life (own_nc (0 : Int32) (own_nc (1 : Int32) (0 : Int64))) zD zC = zD from by rw [own_end, show (own_nc (0 : Int32) (own_nc (1 : Int32) (0 : Int64))) = ((0 : Int64) + (1 : Int64)) from by decide, if_pos h253_247]]
          refine Go.pre (st' := T258.setTop (mkF m 296 #[.val (.long q0), .second, .val (.int p1), .val (.int p2), .val (.int p3), .val (.int p4), .val (.long life), .second, .val (.int p8), .val (.ref se), .val (.ref ob), .val (.int kk), .val (.int (1 : Int32)), .val (.int (0 : Int32)), .val (.long (0 : Int64)), .second, .val (.ref zC), .val (.long ((0 : Int64) + (1 : Int64))), .second, .val (.ref zD)] [(.int (1 : Int32))])) (fun target kt => ?_) ?_
          · show Steps p.tables e below (T258.setTop (mkF m 286 #[.val (.long q0), .second, .val (.int p1), .val (.int p2), .val (.int p3), .val (.int p4), .val (.long life), .second, .val (.int p8), .val (.ref se), .val (.ref ob), .val (.int kk), .val (.int (1 : Int32)), .val (.int (0 : Int32)), .val (.long (0 : Int64)), .second, .val (.ref zC), .val (.long ((0 : Int64) + (1 : Int64))), .second, .val (.ref zD)] [(.ref zD)])) _
            refine XS.aload X258.here hx rfl (hb hby at_286) rfl rfl ?_
            show Steps p.tables e below (T258.setTop (mkF m 288 #[.val (.long q0), .second, .val (.int p1), .val (.int p2), .val (.int p3), .val (.int p4), .val (.long life), .second, .val (.int p8), .val (.ref se), .val (.ref ob), .val (.int kk), .val (.int (1 : Int32)), .val (.int (0 : Int32)), .val (.long (0 : Int64)), .second, .val (.ref zC), .val (.long ((0 : Int64) + (1 : Int64))), .second, .val (.ref zD)] [(.ref zD), (.ref zD)])) _
            refine Jvm.RoadKit.acmp (g := (mkF m 288 #[.val (.long q0), .second, .val (.int p1), .val (.int p2), .val (.int p3), .val (.int p4), .val (.long life), .second, .val (.int p8), .val (.ref se), .val (.ref ob), .val (.int kk), .val (.int (1 : Int32)), .val (.int (0 : Int32)), .val (.long (0 : Int64)), .second, .val (.ref zC), .val (.long ((0 : Int64) + (1 : Int64))), .second, .val (.ref zD)] [(.ref zD), (.ref zD)])) X258 hx rfl rfl rfl (pc0 := 288) (pc' := 291) (same := true) rfl (hb hby at_288) rfl (decide_eq_true rfl) (by decide) (by decide) ?_
            show Steps p.tables e below (T258.setTop (mkF m 291 #[.val (.long q0), .second, .val (.int p1), .val (.int p2), .val (.int p3), .val (.int p4), .val (.long life), .second, .val (.int p8), .val (.ref se), .val (.ref ob), .val (.int kk), .val (.int (1 : Int32)), .val (.int (0 : Int32)), .val (.long (0 : Int64)), .second, .val (.ref zC), .val (.long ((0 : Int64) + (1 : Int64))), .second, .val (.ref zD)] [])) _
            refine XS.iconst X258.here hx rfl (hb hby at_291) ?_
            show Steps p.tables e below (T258.setTop (mkF m 292 #[.val (.long q0), .second, .val (.int p1), .val (.int p2), .val (.int p3), .val (.int p4), .val (.long life), .second, .val (.int p8), .val (.ref se), .val (.ref ob), .val (.int kk), .val (.int (1 : Int32)), .val (.int (0 : Int32)), .val (.long (0 : Int64)), .second, .val (.ref zC), .val (.long ((0 : Int64) + (1 : Int64))), .second, .val (.ref zD)] [(.int (1 : Int32))])) _
            refine XS.goto X258.here hx rfl (pc0 := 292) (pc' := 296) rfl (hb hby at_292) (by decide) (by decide) ?_
            exact kt
          exact Go.retN X258 hx hlk hrt (z' := (1 : Int32)) (by simp) (hb hby at_296) rfl (by decide) (by decide) (by exact ⟨rfl, N258⟩)
        · refine Go.pre (st' := T246.setTop (mkF m 256 #[.val (.long q0), .second, .val (.int p1), .val (.int p2), .val (.int p3), .val (.int p4), .val (.long life), .second, .val (.int p8), .val (.ref se), .val (.ref ob), .val (.int kk), .val (.int (1 : Int32)), .val (.int (0 : Int32)), .val (.long (0 : Int64)), .second, .val (.ref zC), .val (.long ((0 : Int64) + (1 : Int64))), .second, .unset] [])) (fun target kt => ?_) ?_
          · show Steps p.tables e below (T246.setTop (mkF m 253 #[.val (.long q0), .second, .val (.int p1), .val (.int p2), .val (.int p3), .val (.int p4), .val (.long life), .second, .val (.int p8), .val (.ref se), .val (.ref ob), .val (.int kk), .val (.int (1 : Int32)), .val (.int (0 : Int32)), .val (.long (0 : Int64)), .second, .val (.ref zC), .val (.long ((0 : Int64) + (1 : Int64))), .second, .unset] [(.int (lcmpW ((0 : Int64) + (1 : Int64)) life))])) _
            refine XS.ifNo X246.here hx rfl (hb hby at_253) rfl ((if0 _ _).trans (flt (fun q => h253_247 ((lw_lt _ _).mp q))).1) ?_
            exact kt
          obtain ⟨T270, X270, e270, st270⟩ := getS2 X246 hx hZ hown (host := "") (Or.inl (hw _ (List.mem_of_getElem? (i := 194) rfl))) Via.refl e246 (S_CLOSE.ext Y245.2) (g := (mkF m 256 #[.val (.long q0), .second, .val (.int p1), .val (.int p2), .val (.int p3), .val (.int p4), .val (.long life), .second, .val (.int p8), .val (.ref se), .val (.ref ob), .val (.int kk), .val (.int (1 : Int32)), .val (.int (0 : Int32)), .val (.long (0 : Int64)), .second, .val (.ref zC), .val (.long ((0 : Int64) + (1 : Int64))), .second, .unset] [])) rfl (hb hby at_256)
          refine Go.pre st270 ?_
          show Go p e below s _ _ _ (T270.setTop (mkF m 259 #[.val (.long q0), .second, .val (.int p1), .val (.int p2), .val (.int p3), .val (.int p4), .val (.long life), .second, .val (.int p8), .val (.ref se), .val (.ref ob), .val (.int kk), .val (.int (1 : Int32)), .val (.int (0 : Int32)), .val (.long (0 : Int64)), .second, .val (.ref zC), .val (.long ((0 : Int64) + (1 : Int64))), .second, .unset] [(.ref zC)]))
          refine Go.pre (st' := T270.setTop (mkF m 271 #[.val (.long q0), .second, .val (.int p1), .val (.int p2), .val (.int p3), .val (.int p4), .val (.long life), .second, .val (.int p8), .val (.ref se), .val (.ref ob), .val (.int kk), .val (.int (1 : Int32)), .val (.int (0 : Int32)), .val (.long (0 : Int64)), .second, .val (.ref zC), .val (.long ((0 : Int64) + (1 : Int64))), .second, .val (.ref zC)] [(.int (1 : Int32)), (.ref ob)])) (fun target kt => ?_) ?_
          · show Steps p.tables e below (T270.setTop (mkF m 259 #[.val (.long q0), .second, .val (.int p1), .val (.int p2), .val (.int p3), .val (.int p4), .val (.long life), .second, .val (.int p8), .val (.ref se), .val (.ref ob), .val (.int kk), .val (.int (1 : Int32)), .val (.int (0 : Int32)), .val (.long (0 : Int64)), .second, .val (.ref zC), .val (.long ((0 : Int64) + (1 : Int64))), .second, .unset] [(.ref zC)])) _
            refine XS.goto X270.here hx rfl (pc0 := 259) (pc' := 265) rfl (hb hby at_259) (by decide) (by decide) ?_
            show Steps p.tables e below (T270.setTop (mkF m 265 #[.val (.long q0), .second, .val (.int p1), .val (.int p2), .val (.int p3), .val (.int p4), .val (.long life), .second, .val (.int p8), .val (.ref se), .val (.ref ob), .val (.int kk), .val (.int (1 : Int32)), .val (.int (0 : Int32)), .val (.long (0 : Int64)), .second, .val (.ref zC), .val (.long ((0 : Int64) + (1 : Int64))), .second, .unset] [(.ref zC)])) _
            refine XS.astore X270.here hx rfl (hb hby at_265) rfl rfl (l' := #[.val (.long q0), .second, .val (.int p1), .val (.int p2), .val (.int p3), .val (.int p4), .val (.long life), .second, .val (.int p8), .val (.ref se), .val (.ref ob), .val (.int kk), .val (.int (1 : Int32)), .val (.int (0 : Int32)), .val (.long (0 : Int64)), .second, .val (.ref zC), .val (.long ((0 : Int64) + (1 : Int64))), .second, .val (.ref zC)]) rfl ?_
            show Steps p.tables e below (T270.setTop (mkF m 267 #[.val (.long q0), .second, .val (.int p1), .val (.int p2), .val (.int p3), .val (.int p4), .val (.long life), .second, .val (.int p8), .val (.ref se), .val (.ref ob), .val (.int kk), .val (.int (1 : Int32)), .val (.int (0 : Int32)), .val (.long (0 : Int64)), .second, .val (.ref zC), .val (.long ((0 : Int64) + (1 : Int64))), .second, .val (.ref zC)] [])) _
            refine XS.aload X270.here hx rfl (hb hby at_267) rfl rfl ?_
            show Steps p.tables e below (T270.setTop (mkF m 269 #[.val (.long q0), .second, .val (.int p1), .val (.int p2), .val (.int p3), .val (.int p4), .val (.long life), .second, .val (.int p8), .val (.ref se), .val (.ref ob), .val (.int kk), .val (.int (1 : Int32)), .val (.int (0 : Int32)), .val (.long (0 : Int64)), .second, .val (.ref zC), .val (.long ((0 : Int64) + (1 : Int64))), .second, .val (.ref zC)] [(.ref ob)])) _
            refine XS.iload X270.here hx rfl (hb hby at_269) rfl ?_
            exact kt
          have Y272 : Fld Z T1.heap ob "com/example/pulsekeep/pulsekeep/core/Subscription" "settings" "Lcom/example/pulsekeep/pulsekeep/core/SubscriptionSettings;" (.ref se) := (KF1 _ _ _ _ _ F_settings (pallS (Or.inr (slot_ne (Or.inl (hw _ (List.mem_of_getElem? (i := 114) rfl))) (Or.inl (hw _ (List.mem_of_getElem? (i := 130) rfl))) (by decide) (t := (.object "com/example/pulsekeep/pulsekeep/core/SubscriptionSettings")) (t' := .boolean) (by decide) (by decide))) (pallS (Or.inr (slot_ne (Or.inl (hw _ (List.mem_of_getElem? (i := 114) rfl))) (Or.inl (hw _ (List.mem_of_getElem? (i := 139) rfl))) (by decide) (t := (.object "com/example/pulsekeep/pulsekeep/core/SubscriptionSettings")) (t' := .boolean) (by decide) (by decide))) (pallS (Or.inr (slot_ne (Or.inl (hw _ (List.mem_of_getElem? (i := 114) rfl))) (Or.inl (hw _ (List.mem_of_getElem? (i := 149) rfl))) (by decide) (t := (.object "com/example/pulsekeep/pulsekeep/core/SubscriptionSettings")) (t' := .long) (by decide) (by decide))) (pallS (Or.inr (slot_ne (Or.inl (hw _ (List.mem_of_getElem? (i := 114) rfl))) (Or.inl (hw _ (List.mem_of_getElem? (i := 132) rfl))) (by decide) (t := (.object "com/example/pulsekeep/pulsekeep/core/SubscriptionSettings")) (t' := .long) (by decide) (by decide))) pall0)))))
          have Y273 : Fld Z T1.heap ob "com/example/pulsekeep/pulsekeep/core/Subscription" "items" "Ljava/util/List;" (.ref il) := (KF1 _ _ _ _ _ F_items (pallS (Or.inr (slot_ne (Or.inr (hw _ (List.mem_of_getElem? (i := 88) rfl))) (Or.inl (hw _ (List.mem_of_getElem? (i := 130) rfl))) (by decide) (t := (.object "java/util/List")) (t' := .boolean) (by decide) (by decide))) (pallS (Or.inr (slot_ne (Or.inr (hw _ (List.mem_of_getElem? (i := 88) rfl))) (Or.inl (hw _ (List.mem_of_getElem? (i := 139) rfl))) (by decide) (t := (.object "java/util/List")) (t' := .boolean) (by decide) (by decide))) (pallS (Or.inr (slot_ne (Or.inr (hw _ (List.mem_of_getElem? (i := 88) rfl))) (Or.inl (hw _ (List.mem_of_getElem? (i := 149) rfl))) (by decide) (t := (.object "java/util/List")) (t' := .long) (by decide) (by decide))) (pallS (Or.inr (slot_ne (Or.inr (hw _ (List.mem_of_getElem? (i := 88) rfl))) (Or.inl (hw _ (List.mem_of_getElem? (i := 132) rfl))) (by decide) (t := (.object "java/util/List")) (t' := .long) (by decide) (by decide))) pall0)))))
          have Y274 : Exa Z T1.heap se "com/example/pulsekeep/pulsekeep/core/SubscriptionSettings" := (E_se.keep K1)
          have Y275 : Fld Z T1.heap se "com/example/pulsekeep/pulsekeep/core/SubscriptionSettings" "publishingEnabled" "Z" (.int en) := (F_en.keep K1 (ninS (ne_exa E_se E_o (by decide)) nin0))
          have Y276 : Exa Z T1.heap il "java/util/ArrayList" := (E_il.keep K1)
          have Y277 : Fld Z T1.heap il "java/util/AbstractList" "modCount" "I" (.int mc) := (F_mc.keep K1 (ninS (ne_exa E_il E_o (by decide)) nin0))
          have Y278 : Fld Z T1.heap il "java/util/ArrayList" "size" "I" (.int (0 : Int32)) := (F_size.keep K1 (ninS (ne_exa E_il E_o (by decide)) nin0))
          have Y279 : Fld Z T1.heap se "com/example/pulsekeep/pulsekeep/core/SubscriptionSettings" "lifetimeCount" "J" (.long life) := (F_life.keep K1 (ninS (ne_exa E_se E_o (by decide)) nin0))
          obtain ⟨cq271, kq271, q271a, q271b, q271c⟩ := isOf hZ e270 Y3
          obtain ⟨_, _, ⟨T271, L271, k271, n271⟩, -, X271, ⟨Lc271, hQ271, l271, y271, z271⟩, st271⟩ := X270.virtualBack hx (y := (⟨"com/example/pulsekeep/pulsekeep/core/Subscription", "endCycle", "(Z)Lcom/example/pulsekeep/pulsekeep/core/Subscription$CycleEnd;"⟩ : MethodName)) (z := (⟨"com/example/pulsekeep/pulsekeep/core/Subscription", "endCycle", "(Z)Lcom/example/pulsekeep/pulsekeep/core/Subscription$CycleEnd;"⟩ : MethodName)) hown (mvT hZ (hw _ (List.mem_of_getElem? (i := 115) rfl))) (mvT hZ (hw _ (List.mem_of_getElem? (i := 116) rfl))) (notFace_of_selects (args := #[]) (mvT hZ (hw _ (List.mem_of_getElem? (i := 118) rfl)))) (mvT hZ (hw _ (List.mem_of_getElem? (i := 118) rfl))) (mvT hZ (hw _ (List.mem_of_getElem? (i := 117) rfl))) (by decide) (backOf (W := 0) (rm11 l Z a0 hw [] ob (1 : Int32) se il en mc life (0 : Int64) (0 : Int32) zD zC T1.heap n0 (by omega) Y3 Y272 Y273 Y274 Y275 Y276 Y277 Y278 Y279 Y1_0 Y1_3 Y1_1 S_DUE S_CLOSE Y245 (by omega)) hZ (hw _ (List.mem_of_getElem? (i := 119) rfl)) (hw _ (List.mem_of_getElem? (i := 29) rfl)) (by decide) (by decide)) q271a q271c (g := (mkF m 271 #[.val (.long q0), .second, .val (.int p1), .val (.int p2), .val (.int p3), .val (.int p4), .val (.long life), .second, .val (.int p8), .val (.ref se), .val (.ref ob), .val (.int kk), .val (.int (1 : Int32)), .val (.int (0 : Int32)), .val (.long (0 : Int64)), .second, .val (.ref zC), .val (.long ((0 : Int64) + (1 : Int64))), .second, .val (.ref zC)] [(.int (1 : Int32)), (.ref ob)])) rfl (by rw [hml]; rfl) (Steps.refl _) (argsL := [(.int (1 : Int32))]) (rest := []) (lenOf pd159_2 rfl) rfl (by show 2 * 0 + _ ≤ _; exact Nat.le_of_eq rfl) (hb hby at_271) (fun vm₁ hvm => ⟨rfl, e270, (by decide : 15 + 1 ≤ _), (by decide : 112 + 4 ≤ _)⟩)
          dsimp only [Pt.U, Pt.locs, Pt.cells, Pt.slots] at X271 l271 y271 z271 st271 hQ271
          subst l271 y271 z271
          obtain ⟨rfl, N271q, K271, KF271, Fc271, Fd271⟩ := hQ271
          have sz271 : T1.heap.size ≤ T271.heap.size := K271.1
          have N271 := Fr.app N2 N271q
          refine Go.trans st271 ?_
          show Go p e below s _ _ _ (T271.setTop (mkF m 274 #[.val (.long q0), .second, .val (.int p1), .val (.int p2), .val (.int p3), .val (.int p4), .val (.long life), .second, .val (.int p8), .val (.ref se), .val (.ref ob), .val (.int kk), .val (.int (1 : Int32)), .val (.int (0 : Int32)), .val (.long (0 : Int64)), .second, .val (.ref zC), .val (.long ((0 : Int64) + (1 : Int64))), .second, .val (.ref zC)] [(.ref (own_end life (own_nc (1 : Int32) (0 : Int64)) zD zC))]))
          rw [show own_end life (own_nc (1 : Int32) (0 : Int64)) zD zC = zC from by rw [own_end, show (own_nc (1 : Int32) (0 : Int64)) = (0 : Int64) from by decide, if_neg h219_197]]
          refine Go.pre (st' := T271.setTop (mkF m 283 #[.val (.long q0), .second, .val (.int p1), .val (.int p2), .val (.int p3), .val (.int p4), .val (.long life), .second, .val (.int p8), .val (.ref se), .val (.ref ob), .val (.int kk), .val (.int (1 : Int32)), .val (.int (0 : Int32)), .val (.long (0 : Int64)), .second, .val (.ref zC), .val (.long ((0 : Int64) + (1 : Int64))), .second, .val (.ref zC)] [(.int (0 : Int32)), (.ref ob)])) (fun target kt => ?_) ?_
          · show Steps p.tables e below (T271.setTop (mkF m 274 #[.val (.long q0), .second, .val (.int p1), .val (.int p2), .val (.int p3), .val (.int p4), .val (.long life), .second, .val (.int p8), .val (.ref se), .val (.ref ob), .val (.int kk), .val (.int (1 : Int32)), .val (.int (0 : Int32)), .val (.long (0 : Int64)), .second, .val (.ref zC), .val (.long ((0 : Int64) + (1 : Int64))), .second, .val (.ref zC)] [(.ref zC)])) _
            refine XS.aload X271.here hx rfl (hb hby at_274) rfl rfl ?_
            show Steps p.tables e below (T271.setTop (mkF m 276 #[.val (.long q0), .second, .val (.int p1), .val (.int p2), .val (.int p3), .val (.int p4), .val (.long life), .second, .val (.int p8), .val (.ref se), .val (.ref ob), .val (.int kk), .val (.int (1 : Int32)), .val (.int (0 : Int32)), .val (.long (0 : Int64)), .second, .val (.ref zC), .val (.long ((0 : Int64) + (1 : Int64))), .second, .val (.ref zC)] [(.ref zC), (.ref zC)])) _
            refine Jvm.RoadKit.acmp (g := (mkF m 276 #[.val (.long q0), .second, .val (.int p1), .val (.int p2), .val (.int p3), .val (.int p4), .val (.long life), .second, .val (.int p8), .val (.ref se), .val (.ref ob), .val (.int kk), .val (.int (1 : Int32)), .val (.int (0 : Int32)), .val (.long (0 : Int64)), .second, .val (.ref zC), .val (.long ((0 : Int64) + (1 : Int64))), .second, .val (.ref zC)] [(.ref zC), (.ref zC)])) X271 hx rfl rfl rfl (pc0 := 276) (pc' := 279) (same := true) rfl (hb hby at_276) rfl (decide_eq_true rfl) (by decide) (by decide) ?_
            show Steps p.tables e below (T271.setTop (mkF m 279 #[.val (.long q0), .second, .val (.int p1), .val (.int p2), .val (.int p3), .val (.int p4), .val (.long life), .second, .val (.int p8), .val (.ref se), .val (.ref ob), .val (.int kk), .val (.int (1 : Int32)), .val (.int (0 : Int32)), .val (.long (0 : Int64)), .second, .val (.ref zC), .val (.long ((0 : Int64) + (1 : Int64))), .second, .val (.ref zC)] [])) _
            refine XS.aload X271.here hx rfl (hb hby at_279) rfl rfl ?_
            show Steps p.tables e below (T271.setTop (mkF m 281 #[.val (.long q0), .second, .val (.int p1), .val (.int p2), .val (.int p3), .val (.int p4), .val (.long life), .second, .val (.int p8), .val (.ref se), .val (.ref ob), .val (.int kk), .val (.int (1 : Int32)), .val (.int (0 : Int32)), .val (.long (0 : Int64)), .second, .val (.ref zC), .val (.long ((0 : Int64) + (1 : Int64))), .second, .val (.ref zC)] [(.ref ob)])) _
            refine XS.iload X271.here hx rfl (hb hby at_281) rfl ?_
            exact kt
          have Y281 : Exa Z T271.heap ob "com/example/pulsekeep/pulsekeep/core/Subscription" := (Y3.keep K271)
          have Y282 : Fld Z T271.heap ob "com/example/pulsekeep/pulsekeep/core/Subscription" "settings" "Lcom/example/pulsekeep/pulsekeep/core/SubscriptionSettings;" (.ref se) := (KF271 _ _ _ _ _ Y272 (pallS (Or.inr (slot_ne (Or.inl (hw _ (List.mem_of_getElem? (i := 114) rfl))) (Or.inl (hw _ (List.mem_of_getElem? (i := 132) rfl))) (by decide) (t := (.object "com/example/pulsekeep/pulsekeep/core/SubscriptionSettings")) (t' := .long) (by decide) (by decide))) (pallS (Or.inr (slot_ne (Or.inl (hw _ (List.mem_of_getElem? (i := 114) rfl))) (Or.inl (hw _ (List.mem_of_getElem? (i := 139) rfl))) (by decide) (t := (.object "com/example/pulsekeep/pulsekeep/core/SubscriptionSettings")) (t' := .boolean) (by decide) (by decide))) pall0)))
          have Y283 : Fld Z T271.heap ob "com/example/pulsekeep/pulsekeep/core/Subscription" "items" "Ljava/util/List;" (.ref il) := (KF271 _ _ _ _ _ Y273 (pallS (Or.inr (slot_ne (Or.inr (hw _ (List.mem_of_getElem? (i := 88) rfl))) (Or.inl (hw _ (List.mem_of_getElem? (i := 132) rfl))) (by decide) (t := (.object "java/util/List")) (t' := .long) (by decide) (by decide))) (pallS (Or.inr (slot_ne (Or.inr (hw _ (List.mem_of_getElem? (i := 88) rfl))) (Or.inl (hw _ (List.mem_of_getElem? (i := 139) rfl))) (by decide) (t := (.object "java/util/List")) (t' := .boolean) (by decide) (by decide))) pall0)))
          have Y284 : Exa Z T271.heap se "com/example/pulsekeep/pulsekeep/core/SubscriptionSettings" := (Y274.keep K271)
          have Y285 : Fld Z T271.heap se "com/example/pulsekeep/pulsekeep/core/SubscriptionSettings" "publishingEnabled" "Z" (.int en) := (Y275.keep K271 (ninS (ne_exa E_se E_o (by decide)) nin0))
          have Y286 : Exa Z T271.heap il "java/util/ArrayList" := (Y276.keep K271)
          have Y287 : Fld Z T271.heap il "java/util/AbstractList" "modCount" "I" (.int mc) := (Y277.keep K271 (ninS (ne_exa E_il E_o (by decide)) nin0))
          have Y288 : Fld Z T271.heap il "java/util/ArrayList" "size" "I" (.int (0 : Int32)) := (Y278.keep K271 (ninS (ne_exa E_il E_o (by decide)) nin0))
          have Y289 : Fld Z T271.heap se "com/example/pulsekeep/pulsekeep/core/SubscriptionSettings" "lifetimeCount" "J" (.long life) := (Y279.keep K271 (ninS (ne_exa E_se E_o (by decide)) nin0))
          have Y290 : Fld Z T271.heap ob "com/example/pulsekeep/pulsekeep/core/Subscription" "messageSent" "Z" (.int (0 : Int32)) := (KF271 _ _ _ _ _ Y1_0 (pallS (Or.inr (slot_ne (Or.inl (hw _ (List.mem_of_getElem? (i := 130) rfl))) (Or.inl (hw _ (List.mem_of_getElem? (i := 132) rfl))) (by decide) (t := .boolean) (t' := .long) (by decide) (by decide))) (pallS (Or.inr (slot_ne (Or.inl (hw _ (List.mem_of_getElem? (i := 130) rfl))) (Or.inl (hw _ (List.mem_of_getElem? (i := 139) rfl))) (by decide) (t := .boolean) (t' := .boolean) (by decide) (by decide))) pall0)))
          have Y291 : Old Z n0 T271.heap := (Y245.keep K271 (allS (by omega) all0))
          obtain ⟨cq280, kq280, q280a, q280b, q280c⟩ := isOf hZ rfl Y281
          obtain ⟨_, _, ⟨T280, L280, k280, n280⟩, -, X280, ⟨Lc280, hQ280, l280, y280, z280⟩, st280⟩ := X271.virtualBack hx (y := (⟨"com/example/pulsekeep/pulsekeep/core/Subscription", "endCycle", "(Z)Lcom/example/pulsekeep/pulsekeep/core/Subscription$CycleEnd;"⟩ : MethodName)) (z := (⟨"com/example/pulsekeep/pulsekeep/core/Subscription", "endCycle", "(Z)Lcom/example/pulsekeep/pulsekeep/core/Subscription$CycleEnd;"⟩ : MethodName)) hown (mvT hZ (hw _ (List.mem_of_getElem? (i := 115) rfl))) (mvT hZ (hw _ (List.mem_of_getElem? (i := 116) rfl))) (notFace_of_selects (args := #[]) (mvT hZ (hw _ (List.mem_of_getElem? (i := 118) rfl)))) (mvT hZ (hw _ (List.mem_of_getElem? (i := 118) rfl))) (mvT hZ (hw _ (List.mem_of_getElem? (i := 117) rfl))) (by decide) (backOf (W := 0) (rm11 l Z a0 hw [] ob (0 : Int32) se il en mc life (own_nc (1 : Int32) (0 : Int64)) (own_due life (own_nc (1 : Int32) (0 : Int64)) (0 : Int32)) zD zC T271.heap n0 (by omega) Y281 Y282 Y283 Y284 Y285 Y286 Y287 Y288 Y289 Y290 Fc271 Fd271 S_DUE S_CLOSE Y291 (by omega)) hZ (hw _ (List.mem_of_getElem? (i := 119) rfl)) (hw _ (List.mem_of_getElem? (i := 29) rfl)) (by decide) (by decide)) q280a q280c (g := (mkF m 283 #[.val (.long q0), .second, .val (.int p1), .val (.int p2), .val (.int p3), .val (.int p4), .val (.long life), .second, .val (.int p8), .val (.ref se), .val (.ref ob), .val (.int kk), .val (.int (1 : Int32)), .val (.int (0 : Int32)), .val (.long (0 : Int64)), .second, .val (.ref zC), .val (.long ((0 : Int64) + (1 : Int64))), .second, .val (.ref zC)] [(.int (0 : Int32)), (.ref ob)])) rfl (by rw [hml]; rfl) (Steps.refl _) (argsL := [(.int (0 : Int32))]) (rest := []) (lenOf pd159_2 rfl) rfl (by show 2 * 0 + _ ≤ _; exact Nat.le_of_eq rfl) (hb hby at_283) (fun vm₁ hvm => ⟨rfl, rfl, (by decide : 16 + 1 ≤ _), (by decide : 116 + 4 ≤ _)⟩)
          dsimp only [Pt.U, Pt.locs, Pt.cells, Pt.slots] at X280 l280 y280 z280 st280 hQ280
          subst l280 y280 z280
          obtain ⟨rfl, N280q, K280, KF280, Fc280, Fd280⟩ := hQ280
          have sz280 : T271.heap.size ≤ T280.heap.size := K280.1
          have N280 := Fr.app N271 N280q
          refine Go.trans st280 ?_
          show Go p e below s _ _ _ (T280.setTop (mkF m 286 #[.val (.long q0), .second, .val (.int p1), .val (.int p2), .val (.int p3), .val (.int p4), .val (.long life), .second, .val (.int p8), .val (.ref se), .val (.ref ob), .val (.int kk), .val (.int (1 : Int32)), .val (.int (0 : Int32)), .val (.long (0 : Int64)), .second, .val (.ref zC), .val (.long ((0 : Int64) + (1 : Int64))), .second, .val (.ref zC)] [(.ref (own_end life (own_nc (0 : Int32) (own_nc (1 : Int32) (0 : Int64))) zD zC))]))
          rw [show own_end life (own_nc (0 : Int32) (own_nc (1 : Int32) (0 : Int64))) zD zC = zC from by rw [own_end, show (own_nc (0 : Int32) (own_nc (1 : Int32) (0 : Int64))) = ((0 : Int64) + (1 : Int64)) from by decide, if_neg h253_247]]
          refine Go.pre (st' := T280.setTop (mkF m 296 #[.val (.long q0), .second, .val (.int p1), .val (.int p2), .val (.int p3), .val (.int p4), .val (.long life), .second, .val (.int p8), .val (.ref se), .val (.ref ob), .val (.int kk), .val (.int (1 : Int32)), .val (.int (0 : Int32)), .val (.long (0 : Int64)), .second, .val (.ref zC), .val (.long ((0 : Int64) + (1 : Int64))), .second, .val (.ref zC)] [(.int (1 : Int32))])) (fun target kt => ?_) ?_
          · show Steps p.tables e below (T280.setTop (mkF m 286 #[.val (.long q0), .second, .val (.int p1), .val (.int p2), .val (.int p3), .val (.int p4), .val (.long life), .second, .val (.int p8), .val (.ref se), .val (.ref ob), .val (.int kk), .val (.int (1 : Int32)), .val (.int (0 : Int32)), .val (.long (0 : Int64)), .second, .val (.ref zC), .val (.long ((0 : Int64) + (1 : Int64))), .second, .val (.ref zC)] [(.ref zC)])) _
            refine XS.aload X280.here hx rfl (hb hby at_286) rfl rfl ?_
            show Steps p.tables e below (T280.setTop (mkF m 288 #[.val (.long q0), .second, .val (.int p1), .val (.int p2), .val (.int p3), .val (.int p4), .val (.long life), .second, .val (.int p8), .val (.ref se), .val (.ref ob), .val (.int kk), .val (.int (1 : Int32)), .val (.int (0 : Int32)), .val (.long (0 : Int64)), .second, .val (.ref zC), .val (.long ((0 : Int64) + (1 : Int64))), .second, .val (.ref zC)] [(.ref zC), (.ref zC)])) _
            refine Jvm.RoadKit.acmp (g := (mkF m 288 #[.val (.long q0), .second, .val (.int p1), .val (.int p2), .val (.int p3), .val (.int p4), .val (.long life), .second, .val (.int p8), .val (.ref se), .val (.ref ob), .val (.int kk), .val (.int (1 : Int32)), .val (.int (0 : Int32)), .val (.long (0 : Int64)), .second, .val (.ref zC), .val (.long ((0 : Int64) + (1 : Int64))), .second, .val (.ref zC)] [(.ref zC), (.ref zC)])) X280 hx rfl rfl rfl (pc0 := 288) (pc' := 291) (same := true) rfl (hb hby at_288) rfl (decide_eq_true rfl) (by decide) (by decide) ?_
            show Steps p.tables e below (T280.setTop (mkF m 291 #[.val (.long q0), .second, .val (.int p1), .val (.int p2), .val (.int p3), .val (.int p4), .val (.long life), .second, .val (.int p8), .val (.ref se), .val (.ref ob), .val (.int kk), .val (.int (1 : Int32)), .val (.int (0 : Int32)), .val (.long (0 : Int64)), .second, .val (.ref zC), .val (.long ((0 : Int64) + (1 : Int64))), .second, .val (.ref zC)] [])) _
            refine XS.iconst X280.here hx rfl (hb hby at_291) ?_
            show Steps p.tables e below (T280.setTop (mkF m 292 #[.val (.long q0), .second, .val (.int p1), .val (.int p2), .val (.int p3), .val (.int p4), .val (.long life), .second, .val (.int p8), .val (.ref se), .val (.ref ob), .val (.int kk), .val (.int (1 : Int32)), .val (.int (0 : Int32)), .val (.long (0 : Int64)), .second, .val (.ref zC), .val (.long ((0 : Int64) + (1 : Int64))), .second, .val (.ref zC)] [(.int (1 : Int32))])) _
            refine XS.goto X280.here hx rfl (pc0 := 292) (pc' := 296) rfl (hb hby at_292) (by decide) (by decide) ?_
            exact kt
          exact Go.retN X280 hx hlk hrt (z' := (1 : Int32)) (by simp) (hb hby at_296) rfl (by decide) (by decide) (by exact ⟨rfl, N280⟩)
    · refine Go.pre (st' := T2.setTop (mkF m 195 #[.val (.long q0), .second, .val (.int p1), .val (.int p2), .val (.int p3), .val (.int p4), .val (.long life), .second, .val (.int p8), .val (.ref se), .val (.ref ob), .val (.int kk), .val (.int (1 : Int32)), .unset, .unset, .unset, .unset, .unset, .unset, .unset] [])) (fun target kt => ?_) ?_
      · show Steps p.tables e below (T2.setTop (mkF m 192 #[.val (.long q0), .second, .val (.int p1), .val (.int p2), .val (.int p3), .val (.int p4), .val (.long life), .second, .val (.int p8), .val (.ref se), .val (.ref ob), .val (.int kk), .val (.int (1 : Int32)), .unset, .unset, .unset, .unset, .unset, .unset, .unset] [(.int (p3 &&& (2 : Int32)))])) _
        refine XS.ifNo X2.here hx rfl (hb hby at_192) rfl ((if0 _ _).trans (feq h192_196).1) ?_
        exact kt
      refine Go.pre (st' := T2.setTop (mkF m 219 #[.val (.long q0), .second, .val (.int p1), .val (.int p2), .val (.int p3), .val (.int p4), .val (.long life), .second, .val (.int p8), .val (.ref se), .val (.ref ob), .val (.int kk), .val (.int (1 : Int32)), .val (.int (1 : Int32)), .val (.long (0 : Int64)), .second, .unset, .unset, .unset, .unset] [(.int (lcmpW (0 : Int64) life))])) (fun target kt => ?_) ?_
      · show Steps p.tables e below (T2.setTop (mkF m 195 #[.val (.long q0), .second, .val (.int p1), .val (.int p2), .val (.int p3), .val (.int p4), .val (.long life), .second, .val (.int p8), .val (.ref se), .val (.ref ob), .val (.int kk), .val (.int (1 : Int32)), .unset, .unset, .unset, .unset, .unset, .unset, .unset] [])) _
        refine XS.iconst X2.here hx rfl (hb hby at_195) ?_
        show Steps p.tables e below (T2.setTop (mkF m 196 #[.val (.long q0), .second, .val (.int p1), .val (.int p2), .val (.int p3), .val (.int p4), .val (.long life), .second, .val (.int p8), .val (.ref se), .val (.ref ob), .val (.int kk), .val (.int (1 : Int32)), .unset, .unset, .unset, .unset, .unset, .unset, .unset] [(.int (1 : Int32))])) _
        refine XS.goto X2.here hx rfl (pc0 := 196) (pc' := 200) rfl (hb hby at_196) (by decide) (by decide) ?_
        show Steps p.tables e below (T2.setTop (mkF m 200 #[.val (.long q0), .second, .val (.int p1), .val (.int p2), .val (.int p3), .val (.int p4), .val (.long life), .second, .val (.int p8), .val (.ref se), .val (.ref ob), .val (.int kk), .val (.int (1 : Int32)), .unset, .unset, .unset, .unset, .unset, .unset, .unset] [(.int (1 : Int32))])) _
        refine XS.istore X2.here hx rfl (hb hby at_200) rfl (l' := #[.val (.long q0), .second, .val (.int p1), .val (.int p2), .val (.int p3), .val (.int p4), .val (.long life), .second, .val (.int p8), .val (.ref se), .val (.ref ob), .val (.int kk), .val (.int (1 : Int32)), .val (.int (1 : Int32)), .unset, .unset, .unset, .unset, .unset, .unset]) rfl ?_
        show Steps p.tables e below (T2.setTop (mkF m 202 #[.val (.long q0), .second, .val (.int p1), .val (.int p2), .val (.int p3), .val (.int p4), .val (.long life), .second, .val (.int p8), .val (.ref se), .val (.ref ob), .val (.int kk), .val (.int (1 : Int32)), .val (.int (1 : Int32)), .unset, .unset, .unset, .unset, .unset, .unset] [])) _
        refine XS.iload X2.here hx rfl (hb hby at_202) rfl ?_
        show Steps p.tables e below (T2.setTop (mkF m 204 #[.val (.long q0), .second, .val (.int p1), .val (.int p2), .val (.int p3), .val (.int p4), .val (.long life), .second, .val (.int p8), .val (.ref se), .val (.ref ob), .val (.int kk), .val (.int (1 : Int32)), .val (.int (1 : Int32)), .unset, .unset, .unset, .unset, .unset, .unset] [(.int (1 : Int32))])) _
        refine XS.ifNo X2.here hx rfl (hb hby at_204) rfl ((if0 _ _).trans (feq (by decide)).1) ?_
        show Steps p.tables e below (T2.setTop (mkF m 207 #[.val (.long q0), .second, .val (.int p1), .val (.int p2), .val (.int p3), .val (.int p4), .val (.long life), .second, .val (.int p8), .val (.ref se), .val (.ref ob), .val (.int kk), .val (.int (1 : Int32)), .val (.int (1 : Int32)), .unset, .unset, .unset, .unset, .unset, .unset] [])) _
        refine XS.lconst X2.here hx rfl (hb hby at_207) ?_
        show Steps p.tables e below (T2.setTop (mkF m 208 #[.val (.long q0), .second, .val (.int p1), .val (.int p2), .val (.int p3), .val (.int p4), .val (.long life), .second, .val (.int p8), .val (.ref se), .val (.ref ob), .val (.int kk), .val (.int (1 : Int32)), .val (.int (1 : Int32)), .unset, .unset, .unset, .unset, .unset, .unset] [(.long (0 : Int64))])) _
        refine XS.goto X2.here hx rfl (pc0 := 208) (pc' := 212) rfl (hb hby at_208) (by decide) (by decide) ?_
        show Steps p.tables e below (T2.setTop (mkF m 212 #[.val (.long q0), .second, .val (.int p1), .val (.int p2), .val (.int p3), .val (.int p4), .val (.long life), .second, .val (.int p8), .val (.ref se), .val (.ref ob), .val (.int kk), .val (.int (1 : Int32)), .val (.int (1 : Int32)), .unset, .unset, .unset, .unset, .unset, .unset] [(.long (0 : Int64))])) _
        refine XS.lstore X2.here hx rfl (hb hby at_212) rfl (l' := #[.val (.long q0), .second, .val (.int p1), .val (.int p2), .val (.int p3), .val (.int p4), .val (.long life), .second, .val (.int p8), .val (.ref se), .val (.ref ob), .val (.int kk), .val (.int (1 : Int32)), .val (.int (1 : Int32)), .val (.long (0 : Int64)), .second, .unset, .unset, .unset, .unset]) rfl ?_
        show Steps p.tables e below (T2.setTop (mkF m 214 #[.val (.long q0), .second, .val (.int p1), .val (.int p2), .val (.int p3), .val (.int p4), .val (.long life), .second, .val (.int p8), .val (.ref se), .val (.ref ob), .val (.int kk), .val (.int (1 : Int32)), .val (.int (1 : Int32)), .val (.long (0 : Int64)), .second, .unset, .unset, .unset, .unset] [])) _
        refine XS.lload X2.here hx rfl (hb hby at_214) rfl ?_
        show Steps p.tables e below (T2.setTop (mkF m 216 #[.val (.long q0), .second, .val (.int p1), .val (.int p2), .val (.int p3), .val (.int p4), .val (.long life), .second, .val (.int p8), .val (.ref se), .val (.ref ob), .val (.int kk), .val (.int (1 : Int32)), .val (.int (1 : Int32)), .val (.long (0 : Int64)), .second, .unset, .unset, .unset, .unset] [(.long (0 : Int64))])) _
        refine XS.lload X2.here hx rfl (hb hby at_216) rfl ?_
        show Steps p.tables e below (T2.setTop (mkF m 218 #[.val (.long q0), .second, .val (.int p1), .val (.int p2), .val (.int p3), .val (.int p4), .val (.long life), .second, .val (.int p8), .val (.ref se), .val (.ref ob), .val (.int kk), .val (.int (1 : Int32)), .val (.int (1 : Int32)), .val (.long (0 : Int64)), .second, .unset, .unset, .unset, .unset] [(.long life), (.long (0 : Int64))])) _
        refine XS.lcmp X2.here hx rfl (hb hby at_218) rfl ?_
        exact kt
      by_cases h219_292 : (0 : Int64) < life
      · refine Go.pre (st' := T2.setTop (mkF m 228 #[.val (.long q0), .second, .val (.int p1), .val (.int p2), .val (.int p3), .val (.int p4), .val (.long life), .second, .val (.int p8), .val (.ref se), .val (.ref ob), .val (.int kk), .val (.int (1 : Int32)), .val (.int (1 : Int32)), .val (.long (0 : Int64)), .second, .unset, .unset, .unset, .unset] [])) (fun target kt => ?_) ?_
        · show Steps p.tables e below (T2.setTop (mkF m 219 #[.val (.long q0), .second, .val (.int p1), .val (.int p2), .val (.int p3), .val (.int p4), .val (.long life), .second, .val (.int p8), .val (.ref se), .val (.ref ob), .val (.int kk), .val (.int (1 : Int32)), .val (.int (1 : Int32)), .val (.long (0 : Int64)), .second, .unset, .unset, .unset, .unset] [(.int (lcmpW (0 : Int64) life))])) _
          refine XS.ifYes X2.here hx rfl (pc0 := 219) (pc' := 228) rfl (hb hby at_219) rfl ((if0 _ _).trans (tlt ((lw_lt _ _).mpr h219_292)).1) (by decide) (by decide) ?_
          exact kt
        have Y293 : Old Z n0 T1.heap := (Ol.keep K1 (allS (by omega) all0))
        obtain ⟨T294, X294, e294, st294⟩ := getS2 X2 hx hZ hown (host := "") (Or.inl (hw _ (List.mem_of_getElem? (i := 155) rfl))) Via.refl e2 (S_DUE.ext Y293.2) (g := (mkF m 228 #[.val (.long q0), .second, .val (.int p1), .val (.int p2), .val (.int p3), .val (.int p4), .val (.long life), .second, .val (.int p8), .val (.ref se), .val (.ref ob), .val (.int kk), .val (.int (1 : Int32)), .val (.int (1 : Int32)), .val (.long (0 : Int64)), .second, .unset, .unset, .unset, .unset] [])) rfl (hb hby at_228)
        refine Go.pre st294 ?_
        show Go p e below s _ _ _ (T294.setTop (mkF m 231 #[.val (.long q0), .second, .val (.int p1), .val (.int p2), .val (.int p3), .val (.int p4), .val (.long life), .second, .val (.int p8), .val (.ref se), .val (.ref ob), .val (.int kk), .val (.int (1 : Int32)), .val (.int (1 : Int32)), .val (.long (0 : Int64)), .second, .unset, .unset, .unset, .unset] [(.ref zD)]))
        refine Go.pre (st' := T294.setTop (mkF m 262 #[.val (.long q0), .second, .val (.int p1), .val (.int p2), .val (.int p3), .val (.int p4), .val (.long life), .second, .val (.int p8), .val (.ref se), .val (.ref ob), .val (.int kk), .val (.int (1 : Int32)), .val (.int (1 : Int32)), .val (.long (0 : Int64)), .second, .val (.ref zD), .val (.long (0 : Int64)), .second, .unset] [])) (fun target kt => ?_) ?_
        · show Steps p.tables e below (T294.setTop (mkF m 231 #[.val (.long q0), .second, .val (.int p1), .val (.int p2), .val (.int p3), .val (.int p4), .val (.long life), .second, .val (.int p8), .val (.ref se), .val (.ref ob), .val (.int kk), .val (.int (1 : Int32)), .val (.int (1 : Int32)), .val (.long (0 : Int64)), .second, .unset, .unset, .unset, .unset] [(.ref zD)])) _
          refine XS.astore X294.here hx rfl (hb hby at_231) rfl rfl (l' := #[.val (.long q0), .second, .val (.int p1), .val (.int p2), .val (.int p3), .val (.int p4), .val (.long life), .second, .val (.int p8), .val (.ref se), .val (.ref ob), .val (.int kk), .val (.int (1 : Int32)), .val (.int (1 : Int32)), .val (.long (0 : Int64)), .second, .val (.ref zD), .unset, .unset, .unset]) rfl ?_
          show Steps p.tables e below (T294.setTop (mkF m 233 #[.val (.long q0), .second, .val (.int p1), .val (.int p2), .val (.int p3), .val (.int p4), .val (.long life), .second, .val (.int p8), .val (.ref se), .val (.ref ob), .val (.int kk), .val (.int (1 : Int32)), .val (.int (1 : Int32)), .val (.long (0 : Int64)), .second, .val (.ref zD), .unset, .unset, .unset] [])) _
          refine XS.iload X294.here hx rfl (hb hby at_233) rfl ?_
          show Steps p.tables e below (T294.setTop (mkF m 235 #[.val (.long q0), .second, .val (.int p1), .val (.int p2), .val (.int p3), .val (.int p4), .val (.long life), .second, .val (.int p8), .val (.ref se), .val (.ref ob), .val (.int kk), .val (.int (1 : Int32)), .val (.int (1 : Int32)), .val (.long (0 : Int64)), .second, .val (.ref zD), .unset, .unset, .unset] [(.int (1 : Int32))])) _
          refine XS.ifNo X294.here hx rfl (hb hby at_235) rfl ((if0 _ _).trans (feq (by decide)).1) ?_
          show Steps p.tables e below (T294.setTop (mkF m 238 #[.val (.long q0), .second, .val (.int p1), .val (.int p2), .val (.int p3), .val (.int p4), .val (.long life), .second, .val (.int p8), .val (.ref se), .val (.ref ob), .val (.int kk), .val (.int (1 : Int32)), .val (.int (1 : Int32)), .val (.long (0 : Int64)), .second, .val (.ref zD), .unset, .unset, .unset] [])) _
          refine XS.lconst X294.here hx rfl (hb hby at_238) ?_
          show Steps p.tables e below (T294.setTop (mkF m 239 #[.val (.long q0), .second, .val (.int p1), .val (.int p2), .val (.int p3), .val (.int p4), .val (.long life), .second, .val (.int p8), .val (.ref se), .val (.ref ob), .val (.int kk), .val (.int (1 : Int32)), .val (.int (1 : Int32)), .val (.long (0 : Int64)), .second, .val (.ref zD), .unset, .unset, .unset] [(.long (0 : Int64))])) _
          refine XS.goto X294.here hx rfl (pc0 := 239) (pc' := 246) rfl (hb hby at_239) (by decide) (by decide) ?_
          show Steps p.tables e below (T294.setTop (mkF m 246 #[.val (.long q0), .second, .val (.int p1), .val (.int p2), .val (.int p3), .val (.int p4), .val (.long life), .second, .val (.int p8), .val (.ref se), .val (.ref ob), .val (.int kk), .val (.int (1 : Int32)), .val (.int (1 : Int32)), .val (.long (0 : Int64)), .second, .val (.ref zD), .unset, .unset, .unset] [(.long (0 : Int64))])) _
          refine XS.lstore X294.here hx rfl (hb hby at_246) rfl (l' := #[.val (.long q0), .second, .val (.int p1), .val (.int p2), .val (.int p3), .val (.int p4), .val (.long life), .second, .val (.int p8), .val (.ref se), .val (.ref ob), .val (.int kk), .val (.int (1 : Int32)), .val (.int (1 : Int32)), .val (.long (0 : Int64)), .second, .val (.ref zD), .val (.long (0 : Int64)), .second, .unset]) rfl ?_
          show Steps p.tables e below (T294.setTop (mkF m 248 #[.val (.long q0), .second, .val (.int p1), .val (.int p2), .val (.int p3), .val (.int p4), .val (.long life), .second, .val (.int p8), .val (.ref se), .val (.ref ob), .val (.int kk), .val (.int (1 : Int32)), .val (.int (1 : Int32)), .val (.long (0 : Int64)), .second, .val (.ref zD), .val (.long (0 : Int64)), .second, .unset] [])) _
          refine XS.lload X294.here hx rfl (hb hby at_248) rfl ?_
          show Steps p.tables e below (T294.setTop (mkF m 250 #[.val (.long q0), .second, .val (.int p1), .val (.int p2), .val (.int p3), .val (.int p4), .val (.long life), .second, .val (.int p8), .val (.ref se), .val (.ref ob), .val (.int kk), .val (.int (1 : Int32)), .val (.int (1 : Int32)), .val (.long (0 : Int64)), .second, .val (.ref zD), .val (.long (0 : Int64)), .second, .unset] [(.long (0 : Int64))])) _
          refine XS.lload X294.here hx rfl (hb hby at_250) rfl ?_
          show Steps p.tables e below (T294.setTop (mkF m 252 #[.val (.long q0), .second, .val (.int p1), .val (.int p2), .val (.int p3), .val (.int p4), .val (.long life), .second, .val (.int p8), .val (.ref se), .val (.ref ob), .val (.int kk), .val (.int (1 : Int32)), .val (.int (1 : Int32)), .val (.long (0 : Int64)), .second, .val (.ref zD), .val (.long (0 : Int64)), .second, .unset] [(.long life), (.long (0 : Int64))])) _
          refine XS.lcmp X294.here hx rfl (hb hby at_252) rfl ?_
          show Steps p.tables e below (T294.setTop (mkF m 253 #[.val (.long q0), .second, .val (.int p1), .val (.int p2), .val (.int p3), .val (.int p4), .val (.long life), .second, .val (.int p8), .val (.ref se), .val (.ref ob), .val (.int kk), .val (.int (1 : Int32)), .val (.int (1 : Int32)), .val (.long (0 : Int64)), .second, .val (.ref zD), .val (.long (0 : Int64)), .second, .unset] [(.int (lcmpW (0 : Int64) life))])) _
          refine XS.ifYes X294.here hx rfl (pc0 := 253) (pc' := 262) rfl (hb hby at_253) rfl ((if0 _ _).trans (tlt ((lw_lt _ _).mpr h219_292)).1) (by decide) (by decide) ?_
          exact kt
        obtain ⟨T295, X295, e295, st295⟩ := getS2 X294 hx hZ hown (host := "") (Or.inl (hw _ (List.mem_of_getElem? (i := 155) rfl))) Via.refl e294 (S_DUE.ext Y293.2) (g := (mkF m 262 #[.val (.long q0), .second, .val (.int p1), .val (.int p2), .val (.int p3), .val (.int p4), .val (.long life), .second, .val (.int p8), .val (.ref se), .val (.ref ob), .val (.int kk), .val (.int (1 : Int32)), .val (.int (1 : Int32)), .val (.long (0 : Int64)), .second, .val (.ref zD), .val (.long (0 : Int64)), .second, .unset] [])) rfl (hb hby at_262)
        refine Go.pre st295 ?_
        show Go p e below s _ _ _ (T295.setTop (mkF m 265 #[.val (.long q0), .second, .val (.int p1), .val (.int p2), .val (.int p3), .val (.int p4), .val (.long life), .second, .val (.int p8), .val (.ref se), .val (.ref ob), .val (.int kk), .val (.int (1 : Int32)), .val (.int (1 : Int32)), .val (.long (0 : Int64)), .second, .val (.ref zD), .val (.long (0 : Int64)), .second, .unset] [(.ref zD)]))
        refine Go.pre (st' := T295.setTop (mkF m 271 #[.val (.long q0), .second, .val (.int p1), .val (.int p2), .val (.int p3), .val (.int p4), .val (.long life), .second, .val (.int p8), .val (.ref se), .val (.ref ob), .val (.int kk), .val (.int (1 : Int32)), .val (.int (1 : Int32)), .val (.long (0 : Int64)), .second, .val (.ref zD), .val (.long (0 : Int64)), .second, .val (.ref zD)] [(.int (1 : Int32)), (.ref ob)])) (fun target kt => ?_) ?_
        · show Steps p.tables e below (T295.setTop (mkF m 265 #[.val (.long q0), .second, .val (.int p1), .val (.int p2), .val (.int p3), .val (.int p4), .val (.long life), .second, .val (.int p8), .val (.ref se), .val (.ref ob), .val (.int kk), .val (.int (1 : Int32)), .val (.int (1 : Int32)), .val (.long (0 : Int64)), .second, .val (.ref zD), .val (.long (0 : Int64)), .second, .unset] [(.ref zD)])) _
          refine XS.astore X295.here hx rfl (hb hby at_265) rfl rfl (l' := #[.val (.long q0), .second, .val (.int p1), .val (.int p2), .val (.int p3), .val (.int p4), .val (.long life), .second, .val (.int p8), .val (.ref se), .val (.ref ob), .val (.int kk), .val (.int (1 : Int32)), .val (.int (1 : Int32)), .val (.long (0 : Int64)), .second, .val (.ref zD), .val (.long (0 : Int64)), .second, .val (.ref zD)]) rfl ?_
          show Steps p.tables e below (T295.setTop (mkF m 267 #[.val (.long q0), .second, .val (.int p1), .val (.int p2), .val (.int p3), .val (.int p4), .val (.long life), .second, .val (.int p8), .val (.ref se), .val (.ref ob), .val (.int kk), .val (.int (1 : Int32)), .val (.int (1 : Int32)), .val (.long (0 : Int64)), .second, .val (.ref zD), .val (.long (0 : Int64)), .second, .val (.ref zD)] [])) _
          refine XS.aload X295.here hx rfl (hb hby at_267) rfl rfl ?_
          show Steps p.tables e below (T295.setTop (mkF m 269 #[.val (.long q0), .second, .val (.int p1), .val (.int p2), .val (.int p3), .val (.int p4), .val (.long life), .second, .val (.int p8), .val (.ref se), .val (.ref ob), .val (.int kk), .val (.int (1 : Int32)), .val (.int (1 : Int32)), .val (.long (0 : Int64)), .second, .val (.ref zD), .val (.long (0 : Int64)), .second, .val (.ref zD)] [(.ref ob)])) _
          refine XS.iload X295.here hx rfl (hb hby at_269) rfl ?_
          exact kt
        have Y297 : Fld Z T1.heap ob "com/example/pulsekeep/pulsekeep/core/Subscription" "settings" "Lcom/example/pulsekeep/pulsekeep/core/SubscriptionSettings;" (.ref se) := (KF1 _ _ _ _ _ F_settings (pallS (Or.inr (slot_ne (Or.inl (hw _ (List.mem_of_getElem? (i := 114) rfl))) (Or.inl (hw _ (List.mem_of_getElem? (i := 130) rfl))) (by decide) (t := (.object "com/example/pulsekeep/pulsekeep/core/SubscriptionSettings")) (t' := .boolean) (by decide) (by decide))) (pallS (Or.inr (slot_ne (Or.inl (hw _ (List.mem_of_getElem? (i := 114) rfl))) (Or.inl (hw _ (List.mem_of_getElem? (i := 139) rfl))) (by decide) (t := (.object "com/example/pulsekeep/pulsekeep/core/SubscriptionSettings")) (t' := .boolean) (by decide) (by decide))) (pallS (Or.inr (slot_ne (Or.inl (hw _ (List.mem_of_getElem? (i := 114) rfl))) (Or.inl (hw _ (List.mem_of_getElem? (i := 149) rfl))) (by decide) (t := (.object "com/example/pulsekeep/pulsekeep/core/SubscriptionSettings")) (t' := .long) (by decide) (by decide))) (pallS (Or.inr (slot_ne (Or.inl (hw _ (List.mem_of_getElem? (i := 114) rfl))) (Or.inl (hw _ (List.mem_of_getElem? (i := 132) rfl))) (by decide) (t := (.object "com/example/pulsekeep/pulsekeep/core/SubscriptionSettings")) (t' := .long) (by decide) (by decide))) pall0)))))
        have Y298 : Fld Z T1.heap ob "com/example/pulsekeep/pulsekeep/core/Subscription" "items" "Ljava/util/List;" (.ref il) := (KF1 _ _ _ _ _ F_items (pallS (Or.inr (slot_ne (Or.inr (hw _ (List.mem_of_getElem? (i := 88) rfl))) (Or.inl (hw _ (List.mem_of_getElem? (i := 130) rfl))) (by decide) (t := (.object "java/util/List")) (t' := .boolean) (by decide) (by decide))) (pallS (Or.inr (slot_ne (Or.inr (hw _ (List.mem_of_getElem? (i := 88) rfl))) (Or.inl (hw _ (List.mem_of_getElem? (i := 139) rfl))) (by decide) (t := (.object "java/util/List")) (t' := .boolean) (by decide) (by decide))) (pallS (Or.inr (slot_ne (Or.inr (hw _ (List.mem_of_getElem? (i := 88) rfl))) (Or.inl (hw _ (List.mem_of_getElem? (i := 149) rfl))) (by decide) (t := (.object "java/util/List")) (t' := .long) (by decide) (by decide))) (pallS (Or.inr (slot_ne (Or.inr (hw _ (List.mem_of_getElem? (i := 88) rfl))) (Or.inl (hw _ (List.mem_of_getElem? (i := 132) rfl))) (by decide) (t := (.object "java/util/List")) (t' := .long) (by decide) (by decide))) pall0)))))
        have Y299 : Exa Z T1.heap se "com/example/pulsekeep/pulsekeep/core/SubscriptionSettings" := (E_se.keep K1)
        have Y300 : Fld Z T1.heap se "com/example/pulsekeep/pulsekeep/core/SubscriptionSettings" "publishingEnabled" "Z" (.int en) := (F_en.keep K1 (ninS (ne_exa E_se E_o (by decide)) nin0))
        have Y301 : Exa Z T1.heap il "java/util/ArrayList" := (E_il.keep K1)
        have Y302 : Fld Z T1.heap il "java/util/AbstractList" "modCount" "I" (.int mc) := (F_mc.keep K1 (ninS (ne_exa E_il E_o (by decide)) nin0))
        have Y303 : Fld Z T1.heap il "java/util/ArrayList" "size" "I" (.int (0 : Int32)) := (F_size.keep K1 (ninS (ne_exa E_il E_o (by decide)) nin0))
        have Y304 : Fld Z T1.heap se "com/example/pulsekeep/pulsekeep/core/SubscriptionSettings" "lifetimeCount" "J" (.long life) := (F_life.keep K1 (ninS (ne_exa E_se E_o (by decide)) nin0))
        obtain ⟨cq296, kq296, q296a, q296b, q296c⟩ := isOf hZ e295 Y3
        obtain ⟨_, _, ⟨T296, L296, k296, n296⟩, -, X296, ⟨Lc296, hQ296, l296, y296, z296⟩, st296⟩ := X295.virtualBack hx (y := (⟨"com/example/pulsekeep/pulsekeep/core/Subscription", "endCycle", "(Z)Lcom/example/pulsekeep/pulsekeep/core/Subscription$CycleEnd;"⟩ : MethodName)) (z := (⟨"com/example/pulsekeep/pulsekeep/core/Subscription", "endCycle", "(Z)Lcom/example/pulsekeep/pulsekeep/core/Subscription$CycleEnd;"⟩ : MethodName)) hown (mvT hZ (hw _ (List.mem_of_getElem? (i := 115) rfl))) (mvT hZ (hw _ (List.mem_of_getElem? (i := 116) rfl))) (notFace_of_selects (args := #[]) (mvT hZ (hw _ (List.mem_of_getElem? (i := 118) rfl)))) (mvT hZ (hw _ (List.mem_of_getElem? (i := 118) rfl))) (mvT hZ (hw _ (List.mem_of_getElem? (i := 117) rfl))) (by decide) (backOf (W := 0) (rm11 l Z a0 hw [] ob (1 : Int32) se il en mc life (0 : Int64) (0 : Int32) zD zC T1.heap n0 (by omega) Y3 Y297 Y298 Y299 Y300 Y301 Y302 Y303 Y304 Y1_0 Y1_3 Y1_1 S_DUE S_CLOSE Y293 (by omega)) hZ (hw _ (List.mem_of_getElem? (i := 119) rfl)) (hw _ (List.mem_of_getElem? (i := 29) rfl)) (by decide) (by decide)) q296a q296c (g := (mkF m 271 #[.val (.long q0), .second, .val (.int p1), .val (.int p2), .val (.int p3), .val (.int p4), .val (.long life), .second, .val (.int p8), .val (.ref se), .val (.ref ob), .val (.int kk), .val (.int (1 : Int32)), .val (.int (1 : Int32)), .val (.long (0 : Int64)), .second, .val (.ref zD), .val (.long (0 : Int64)), .second, .val (.ref zD)] [(.int (1 : Int32)), (.ref ob)])) rfl (by rw [hml]; rfl) (Steps.refl _) (argsL := [(.int (1 : Int32))]) (rest := []) (lenOf pd159_2 rfl) rfl (by show 2 * 0 + _ ≤ _; exact Nat.le_of_eq rfl) (hb hby at_271) (fun vm₁ hvm => ⟨rfl, e295, (by decide : 15 + 1 ≤ _), (by decide : 112 + 4 ≤ _)⟩)
        dsimp only [Pt.U, Pt.locs, Pt.cells, Pt.slots] at X296 l296 y296 z296 st296 hQ296
        subst l296 y296 z296
        obtain ⟨rfl, N296q, K296, KF296, Fc296, Fd296⟩ := hQ296
        have sz296 : T1.heap.size ≤ T296.heap.size := K296.1
        have N296 := Fr.app N2 N296q
        refine Go.trans st296 ?_
        show Go p e below s _ _ _ (T296.setTop (mkF m 274 #[.val (.long q0), .second, .val (.int p1), .val (.int p2), .val (.int p3), .val (.int p4), .val (.long life), .second, .val (.int p8), .val (.ref se), .val (.ref ob), .val (.int kk), .val (.int (1 : Int32)), .val (.int (1 : Int32)), .val (.long (0 : Int64)), .second, .val (.ref zD), .val (.long (0 : Int64)), .second, .val (.ref zD)] [(.ref (own_end life (own_nc (1 : Int32) (0 : Int64)) zD zC))]))
        rw [show own_end life (own_nc (1 : Int32) (0 : Int64)) zD zC = zD from by rw [own_end, show (own_nc (1 : Int32) (0 : Int64)) = (0 : Int64) from by decide, if_pos h219_292]]
        refine Go.pre (st' := T296.setTop (mkF m 283 #[.val (.long q0), .second, .val (.int p1), .val (.int p2), .val (.int p3), .val (.int p4), .val (.long life), .second, .val (.int p8), .val (.ref se), .val (.ref ob), .val (.int kk), .val (.int (1 : Int32)), .val (.int (1 : Int32)), .val (.long (0 : Int64)), .second, .val (.ref zD), .val (.long (0 : Int64)), .second, .val (.ref zD)] [(.int (1 : Int32)), (.ref ob)])) (fun target kt => ?_) ?_
        · show Steps p.tables e below (T296.setTop (mkF m 274 #[.val (.long q0), .second, .val (.int p1), .val (.int p2), .val (.int p3), .val (.int p4), .val (.long life), .second, .val (.int p8), .val (.ref se), .val (.ref ob), .val (.int kk), .val (.int (1 : Int32)), .val (.int (1 : Int32)), .val (.long (0 : Int64)), .second, .val (.ref zD), .val (.long (0 : Int64)), .second, .val (.ref zD)] [(.ref zD)])) _
          refine XS.aload X296.here hx rfl (hb hby at_274) rfl rfl ?_
          show Steps p.tables e below (T296.setTop (mkF m 276 #[.val (.long q0), .second, .val (.int p1), .val (.int p2), .val (.int p3), .val (.int p4), .val (.long life), .second, .val (.int p8), .val (.ref se), .val (.ref ob), .val (.int kk), .val (.int (1 : Int32)), .val (.int (1 : Int32)), .val (.long (0 : Int64)), .second, .val (.ref zD), .val (.long (0 : Int64)), .second, .val (.ref zD)] [(.ref zD), (.ref zD)])) _
          refine Jvm.RoadKit.acmp (g := (mkF m 276 #[.val (.long q0), .second, .val (.int p1), .val (.int p2), .val (.int p3), .val (.int p4), .val (.long life), .second, .val (.int p8), .val (.ref se), .val (.ref ob), .val (.int kk), .val (.int (1 : Int32)), .val (.int (1 : Int32)), .val (.long (0 : Int64)), .second, .val (.ref zD), .val (.long (0 : Int64)), .second, .val (.ref zD)] [(.ref zD), (.ref zD)])) X296 hx rfl rfl rfl (pc0 := 276) (pc' := 279) (same := true) rfl (hb hby at_276) rfl (decide_eq_true rfl) (by decide) (by decide) ?_
          show Steps p.tables e below (T296.setTop (mkF m 279 #[.val (.long q0), .second, .val (.int p1), .val (.int p2), .val (.int p3), .val (.int p4), .val (.long life), .second, .val (.int p8), .val (.ref se), .val (.ref ob), .val (.int kk), .val (.int (1 : Int32)), .val (.int (1 : Int32)), .val (.long (0 : Int64)), .second, .val (.ref zD), .val (.long (0 : Int64)), .second, .val (.ref zD)] [])) _
          refine XS.aload X296.here hx rfl (hb hby at_279) rfl rfl ?_
          show Steps p.tables e below (T296.setTop (mkF m 281 #[.val (.long q0), .second, .val (.int p1), .val (.int p2), .val (.int p3), .val (.int p4), .val (.long life), .second, .val (.int p8), .val (.ref se), .val (.ref ob), .val (.int kk), .val (.int (1 : Int32)), .val (.int (1 : Int32)), .val (.long (0 : Int64)), .second, .val (.ref zD), .val (.long (0 : Int64)), .second, .val (.ref zD)] [(.ref ob)])) _
          refine XS.iload X296.here hx rfl (hb hby at_281) rfl ?_
          exact kt
        have Y306 : Exa Z T296.heap ob "com/example/pulsekeep/pulsekeep/core/Subscription" := (Y3.keep K296)
        have Y307 : Fld Z T296.heap ob "com/example/pulsekeep/pulsekeep/core/Subscription" "settings" "Lcom/example/pulsekeep/pulsekeep/core/SubscriptionSettings;" (.ref se) := (KF296 _ _ _ _ _ Y297 (pallS (Or.inr (slot_ne (Or.inl (hw _ (List.mem_of_getElem? (i := 114) rfl))) (Or.inl (hw _ (List.mem_of_getElem? (i := 132) rfl))) (by decide) (t := (.object "com/example/pulsekeep/pulsekeep/core/SubscriptionSettings")) (t' := .long) (by decide) (by decide))) (pallS (Or.inr (slot_ne (Or.inl (hw _ (List.mem_of_getElem? (i := 114) rfl))) (Or.inl (hw _ (List.mem_of_getElem? (i := 139) rfl))) (by decide) (t := (.object "com/example/pulsekeep/pulsekeep/core/SubscriptionSettings")) (t' := .boolean) (by decide) (by decide))) pall0)))
        have Y308 : Fld Z T296.heap ob "com/example/pulsekeep/pulsekeep/core/Subscription" "items" "Ljava/util/List;" (.ref il) := (KF296 _ _ _ _ _ Y298 (pallS (Or.inr (slot_ne (Or.inr (hw _ (List.mem_of_getElem? (i := 88) rfl))) (Or.inl (hw _ (List.mem_of_getElem? (i := 132) rfl))) (by decide) (t := (.object "java/util/List")) (t' := .long) (by decide) (by decide))) (pallS (Or.inr (slot_ne (Or.inr (hw _ (List.mem_of_getElem? (i := 88) rfl))) (Or.inl (hw _ (List.mem_of_getElem? (i := 139) rfl))) (by decide) (t := (.object "java/util/List")) (t' := .boolean) (by decide) (by decide))) pall0)))
        have Y309 : Exa Z T296.heap se "com/example/pulsekeep/pulsekeep/core/SubscriptionSettings" := (Y299.keep K296)
        have Y310 : Fld Z T296.heap se "com/example/pulsekeep/pulsekeep/core/SubscriptionSettings" "publishingEnabled" "Z" (.int en) := (Y300.keep K296 (ninS (ne_exa E_se E_o (by decide)) nin0))
        have Y311 : Exa Z T296.heap il "java/util/ArrayList" := (Y301.keep K296)
        have Y312 : Fld Z T296.heap il "java/util/AbstractList" "modCount" "I" (.int mc) := (Y302.keep K296 (ninS (ne_exa E_il E_o (by decide)) nin0))
        have Y313 : Fld Z T296.heap il "java/util/ArrayList" "size" "I" (.int (0 : Int32)) := (Y303.keep K296 (ninS (ne_exa E_il E_o (by decide)) nin0))
        have Y314 : Fld Z T296.heap se "com/example/pulsekeep/pulsekeep/core/SubscriptionSettings" "lifetimeCount" "J" (.long life) := (Y304.keep K296 (ninS (ne_exa E_se E_o (by decide)) nin0))
        have Y315 : Fld Z T296.heap ob "com/example/pulsekeep/pulsekeep/core/Subscription" "messageSent" "Z" (.int (0 : Int32)) := (KF296 _ _ _ _ _ Y1_0 (pallS (Or.inr (slot_ne (Or.inl (hw _ (List.mem_of_getElem? (i := 130) rfl))) (Or.inl (hw _ (List.mem_of_getElem? (i := 132) rfl))) (by decide) (t := .boolean) (t' := .long) (by decide) (by decide))) (pallS (Or.inr (slot_ne (Or.inl (hw _ (List.mem_of_getElem? (i := 130) rfl))) (Or.inl (hw _ (List.mem_of_getElem? (i := 139) rfl))) (by decide) (t := .boolean) (t' := .boolean) (by decide) (by decide))) pall0)))
        have Y316 : Old Z n0 T296.heap := (Y293.keep K296 (allS (by omega) all0))
        obtain ⟨cq305, kq305, q305a, q305b, q305c⟩ := isOf hZ rfl Y306
        obtain ⟨_, _, ⟨T305, L305, k305, n305⟩, -, X305, ⟨Lc305, hQ305, l305, y305, z305⟩, st305⟩ := X296.virtualBack hx (y := (⟨"com/example/pulsekeep/pulsekeep/core/Subscription", "endCycle", "(Z)Lcom/example/pulsekeep/pulsekeep/core/Subscription$CycleEnd;"⟩ : MethodName)) (z := (⟨"com/example/pulsekeep/pulsekeep/core/Subscription", "endCycle", "(Z)Lcom/example/pulsekeep/pulsekeep/core/Subscription$CycleEnd;"⟩ : MethodName)) hown (mvT hZ (hw _ (List.mem_of_getElem? (i := 115) rfl))) (mvT hZ (hw _ (List.mem_of_getElem? (i := 116) rfl))) (notFace_of_selects (args := #[]) (mvT hZ (hw _ (List.mem_of_getElem? (i := 118) rfl)))) (mvT hZ (hw _ (List.mem_of_getElem? (i := 118) rfl))) (mvT hZ (hw _ (List.mem_of_getElem? (i := 117) rfl))) (by decide) (backOf (W := 0) (rm11 l Z a0 hw [] ob (1 : Int32) se il en mc life (own_nc (1 : Int32) (0 : Int64)) (own_due life (own_nc (1 : Int32) (0 : Int64)) (0 : Int32)) zD zC T296.heap n0 (by omega) Y306 Y307 Y308 Y309 Y310 Y311 Y312 Y313 Y314 Y315 Fc296 Fd296 S_DUE S_CLOSE Y316 (by omega)) hZ (hw _ (List.mem_of_getElem? (i := 119) rfl)) (hw _ (List.mem_of_getElem? (i := 29) rfl)) (by decide) (by decide)) q305a q305c (g := (mkF m 283 #[.val (.long q0), .second, .val (.int p1), .val (.int p2), .val (.int p3), .val (.int p4), .val (.long life), .second, .val (.int p8), .val (.ref se), .val (.ref ob), .val (.int kk), .val (.int (1 : Int32)), .val (.int (1 : Int32)), .val (.long (0 : Int64)), .second, .val (.ref zD), .val (.long (0 : Int64)), .second, .val (.ref zD)] [(.int (1 : Int32)), (.ref ob)])) rfl (by rw [hml]; rfl) (Steps.refl _) (argsL := [(.int (1 : Int32))]) (rest := []) (lenOf pd159_2 rfl) rfl (by show 2 * 0 + _ ≤ _; exact Nat.le_of_eq rfl) (hb hby at_283) (fun vm₁ hvm => ⟨rfl, rfl, (by decide : 16 + 1 ≤ _), (by decide : 116 + 4 ≤ _)⟩)
        dsimp only [Pt.U, Pt.locs, Pt.cells, Pt.slots] at X305 l305 y305 z305 st305 hQ305
        subst l305 y305 z305
        obtain ⟨rfl, N305q, K305, KF305, Fc305, Fd305⟩ := hQ305
        have sz305 : T296.heap.size ≤ T305.heap.size := K305.1
        have N305 := Fr.app N296 N305q
        refine Go.trans st305 ?_
        show Go p e below s _ _ _ (T305.setTop (mkF m 286 #[.val (.long q0), .second, .val (.int p1), .val (.int p2), .val (.int p3), .val (.int p4), .val (.long life), .second, .val (.int p8), .val (.ref se), .val (.ref ob), .val (.int kk), .val (.int (1 : Int32)), .val (.int (1 : Int32)), .val (.long (0 : Int64)), .second, .val (.ref zD), .val (.long (0 : Int64)), .second, .val (.ref zD)] [(.ref (own_end life (own_nc (1 : Int32) (own_nc (1 : Int32) (0 : Int64))) zD zC))]))
        rw [show own_end life (own_nc (1 : Int32) (own_nc (1 : Int32) (0 : Int64))) zD zC = zD from by rw [own_end, show (own_nc (1 : Int32) (own_nc (1 : Int32) (0 : Int64))) = (0 : Int64) from by decide, if_pos h219_292]]
        refine Go.pre (st' := T305.setTop (mkF m 296 #[.val (.long q0), .second, .val (.int p1), .val (.int p2), .val (.int p3), .val (.int p4), .val (.long life), .second, .val (.int p8), .val (.ref se), .val (.ref ob), .val (.int kk), .val (.int (1 : Int32)), .val (.int (1 : Int32)), .val (.long (0 : Int64)), .second, .val (.ref zD), .val (.long (0 : Int64)), .second, .val (.ref zD)] [(.int (1 : Int32))])) (fun target kt => ?_) ?_
        · show Steps p.tables e below (T305.setTop (mkF m 286 #[.val (.long q0), .second, .val (.int p1), .val (.int p2), .val (.int p3), .val (.int p4), .val (.long life), .second, .val (.int p8), .val (.ref se), .val (.ref ob), .val (.int kk), .val (.int (1 : Int32)), .val (.int (1 : Int32)), .val (.long (0 : Int64)), .second, .val (.ref zD), .val (.long (0 : Int64)), .second, .val (.ref zD)] [(.ref zD)])) _
          refine XS.aload X305.here hx rfl (hb hby at_286) rfl rfl ?_
          show Steps p.tables e below (T305.setTop (mkF m 288 #[.val (.long q0), .second, .val (.int p1), .val (.int p2), .val (.int p3), .val (.int p4), .val (.long life), .second, .val (.int p8), .val (.ref se), .val (.ref ob), .val (.int kk), .val (.int (1 : Int32)), .val (.int (1 : Int32)), .val (.long (0 : Int64)), .second, .val (.ref zD), .val (.long (0 : Int64)), .second, .val (.ref zD)] [(.ref zD), (.ref zD)])) _
          refine Jvm.RoadKit.acmp (g := (mkF m 288 #[.val (.long q0), .second, .val (.int p1), .val (.int p2), .val (.int p3), .val (.int p4), .val (.long life), .second, .val (.int p8), .val (.ref se), .val (.ref ob), .val (.int kk), .val (.int (1 : Int32)), .val (.int (1 : Int32)), .val (.long (0 : Int64)), .second, .val (.ref zD), .val (.long (0 : Int64)), .second, .val (.ref zD)] [(.ref zD), (.ref zD)])) X305 hx rfl rfl rfl (pc0 := 288) (pc' := 291) (same := true) rfl (hb hby at_288) rfl (decide_eq_true rfl) (by decide) (by decide) ?_
          show Steps p.tables e below (T305.setTop (mkF m 291 #[.val (.long q0), .second, .val (.int p1), .val (.int p2), .val (.int p3), .val (.int p4), .val (.long life), .second, .val (.int p8), .val (.ref se), .val (.ref ob), .val (.int kk), .val (.int (1 : Int32)), .val (.int (1 : Int32)), .val (.long (0 : Int64)), .second, .val (.ref zD), .val (.long (0 : Int64)), .second, .val (.ref zD)] [])) _
          refine XS.iconst X305.here hx rfl (hb hby at_291) ?_
          show Steps p.tables e below (T305.setTop (mkF m 292 #[.val (.long q0), .second, .val (.int p1), .val (.int p2), .val (.int p3), .val (.int p4), .val (.long life), .second, .val (.int p8), .val (.ref se), .val (.ref ob), .val (.int kk), .val (.int (1 : Int32)), .val (.int (1 : Int32)), .val (.long (0 : Int64)), .second, .val (.ref zD), .val (.long (0 : Int64)), .second, .val (.ref zD)] [(.int (1 : Int32))])) _
          refine XS.goto X305.here hx rfl (pc0 := 292) (pc' := 296) rfl (hb hby at_292) (by decide) (by decide) ?_
          exact kt
        exact Go.retN X305 hx hlk hrt (z' := (1 : Int32)) (by simp) (hb hby at_296) rfl (by decide) (by decide) (by exact ⟨rfl, N305⟩)
      · refine Go.pre (st' := T2.setTop (mkF m 222 #[.val (.long q0), .second, .val (.int p1), .val (.int p2), .val (.int p3), .val (.int p4), .val (.long life), .second, .val (.int p8), .val (.ref se), .val (.ref ob), .val (.int kk), .val (.int (1 : Int32)), .val (.int (1 : Int32)), .val (.long (0 : Int64)), .second, .unset, .unset, .unset, .unset] [])) (fun target kt => ?_) ?_
        · show Steps p.tables e below (T2.setTop (mkF m 219 #[.val (.long q0), .second, .val (.int p1), .val (.int p2), .val (.int p3), .val (.int p4), .val (.long life), .second, .val (.int p8), .val (.ref se), .val (.ref ob), .val (.int kk), .val (.int (1 : Int32)), .val (.int (1 : Int32)), .val (.long (0 : Int64)), .second, .unset, .unset, .unset, .unset] [(.int (lcmpW (0 : Int64) life))])) _
          refine XS.ifNo X2.here hx rfl (hb hby at_219) rfl ((if0 _ _).trans (flt (fun q => h219_292 ((lw_lt _ _).mp q))).1) ?_
          exact kt
        have Y317 : Old Z n0 T1.heap := (Ol.keep K1 (allS (by omega) all0))
        obtain ⟨T318, X318, e318, st318⟩ := getS2 X2 hx hZ hown (host := "") (Or.inl (hw _ (List.mem_of_getElem? (i := 194) rfl))) Via.refl e2 (S_CLOSE.ext Y317.2) (g := (mkF m 222 #[.val (.long q0), .second, .val (.int p1), .val (.int p2), .val (.int p3), .val (.int p4), .val (.long life), .second, .val (.int p8), .val (.ref se), .val (.ref ob), .val (.int kk), .val (.int (1 : Int32)), .val (.int (1 : Int32)), .val (.long (0 : Int64)), .second, .unset, .unset, .unset, .unset] [])) rfl (hb hby at_222)
        refine Go.pre st318 ?_
        show Go p e below s _ _ _ (T318.setTop (mkF m 225 #[.val (.long q0), .second, .val (.int p1), .val (.int p2), .val (.int p3), .val (.int p4), .val (.long life), .second, .val (.int p8), .val (.ref se), .val (.ref ob), .val (.int kk), .val (.int (1 : Int32)), .val (.int (1 : Int32)), .val (.long (0 : Int64)), .second, .unset, .unset, .unset, .unset] [(.ref zC)]))
        refine Go.pre (st' := T318.setTop (mkF m 256 #[.val (.long q0), .second, .val (.int p1), .val (.int p2), .val (.int p3), .val (.int p4), .val (.long life), .second, .val (.int p8), .val (.ref se), .val (.ref ob), .val (.int kk), .val (.int (1 : Int32)), .val (.int (1 : Int32)), .val (.long (0 : Int64)), .second, .val (.ref zC), .val (.long (0 : Int64)), .second, .unset] [])) (fun target kt => ?_) ?_
        · show Steps p.tables e below (T318.setTop (mkF m 225 #[.val (.long q0), .second, .val (.int p1), .val (.int p2), .val (.int p3), .val (.int p4), .val (.long life), .second, .val (.int p8), .val (.ref se), .val (.ref ob), .val (.int kk), .val (.int (1 : Int32)), .val (.int (1 : Int32)), .val (.long (0 : Int64)), .second, .unset, .unset, .unset, .unset] [(.ref zC)])) _
          refine XS.goto X318.here hx rfl (pc0 := 225) (pc' := 231) rfl (hb hby at_225) (by decide) (by decide) ?_
          show Steps p.tables e below (T318.setTop (mkF m 231 #[.val (.long q0), .second, .val (.int p1), .val (.int p2), .val (.int p3), .val (.int p4), .val (.long life), .second, .val (.int p8), .val (.ref se), .val (.ref ob), .val (.int kk), .val (.int (1 : Int32)), .val (.int (1 : Int32)), .val (.long (0 : Int64)), .second, .unset, .unset, .unset, .unset] [(.ref zC)])) _
          refine XS.astore X318.here hx rfl (hb hby at_231) rfl rfl (l' := #[.val (.long q0), .second, .val (.int p1), .val (.int p2), .val (.int p3), .val (.int p4), .val (.long life), .second, .val (.int p8), .val (.ref se), .val (.ref ob), .val (.int kk), .val (.int (1 : Int32)), .val (.int (1 : Int32)), .val (.long (0 : Int64)), .second, .val (.ref zC), .unset, .unset, .unset]) rfl ?_
          show Steps p.tables e below (T318.setTop (mkF m 233 #[.val (.long q0), .second, .val (.int p1), .val (.int p2), .val (.int p3), .val (.int p4), .val (.long life), .second, .val (.int p8), .val (.ref se), .val (.ref ob), .val (.int kk), .val (.int (1 : Int32)), .val (.int (1 : Int32)), .val (.long (0 : Int64)), .second, .val (.ref zC), .unset, .unset, .unset] [])) _
          refine XS.iload X318.here hx rfl (hb hby at_233) rfl ?_
          show Steps p.tables e below (T318.setTop (mkF m 235 #[.val (.long q0), .second, .val (.int p1), .val (.int p2), .val (.int p3), .val (.int p4), .val (.long life), .second, .val (.int p8), .val (.ref se), .val (.ref ob), .val (.int kk), .val (.int (1 : Int32)), .val (.int (1 : Int32)), .val (.long (0 : Int64)), .second, .val (.ref zC), .unset, .unset, .unset] [(.int (1 : Int32))])) _
          refine XS.ifNo X318.here hx rfl (hb hby at_235) rfl ((if0 _ _).trans (feq (by decide)).1) ?_
          show Steps p.tables e below (T318.setTop (mkF m 238 #[.val (.long q0), .second, .val (.int p1), .val (.int p2), .val (.int p3), .val (.int p4), .val (.long life), .second, .val (.int p8), .val (.ref se), .val (.ref ob), .val (.int kk), .val (.int (1 : Int32)), .val (.int (1 : Int32)), .val (.long (0 : Int64)), .second, .val (.ref zC), .unset, .unset, .unset] [])) _
          refine XS.lconst X318.here hx rfl (hb hby at_238) ?_
          show Steps p.tables e below (T318.setTop (mkF m 239 #[.val (.long q0), .second, .val (.int p1), .val (.int p2), .val (.int p3), .val (.int p4), .val (.long life), .second, .val (.int p8), .val (.ref se), .val (.ref ob), .val (.int kk), .val (.int (1 : Int32)), .val (.int (1 : Int32)), .val (.long (0 : Int64)), .second, .val (.ref zC), .unset, .unset, .unset] [(.long (0 : Int64))])) _
          refine XS.goto X318.here hx rfl (pc0 := 239) (pc' := 246) rfl (hb hby at_239) (by decide) (by decide) ?_
          show Steps p.tables e below (T318.setTop (mkF m 246 #[.val (.long q0), .second, .val (.int p1), .val (.int p2), .val (.int p3), .val (.int p4), .val (.long life), .second, .val (.int p8), .val (.ref se), .val (.ref ob), .val (.int kk), .val (.int (1 : Int32)), .val (.int (1 : Int32)), .val (.long (0 : Int64)), .second, .val (.ref zC), .unset, .unset, .unset] [(.long (0 : Int64))])) _
          refine XS.lstore X318.here hx rfl (hb hby at_246) rfl (l' := #[.val (.long q0), .second, .val (.int p1), .val (.int p2), .val (.int p3), .val (.int p4), .val (.long life), .second, .val (.int p8), .val (.ref se), .val (.ref ob), .val (.int kk), .val (.int (1 : Int32)), .val (.int (1 : Int32)), .val (.long (0 : Int64)), .second, .val (.ref zC), .val (.long (0 : Int64)), .second, .unset]) rfl ?_
          show Steps p.tables e below (T318.setTop (mkF m 248 #[.val (.long q0), .second, .val (.int p1), .val (.int p2), .val (.int p3), .val (.int p4), .val (.long life), .second, .val (.int p8), .val (.ref se), .val (.ref ob), .val (.int kk), .val (.int (1 : Int32)), .val (.int (1 : Int32)), .val (.long (0 : Int64)), .second, .val (.ref zC), .val (.long (0 : Int64)), .second, .unset] [])) _
          refine XS.lload X318.here hx rfl (hb hby at_248) rfl ?_
          show Steps p.tables e below (T318.setTop (mkF m 250 #[.val (.long q0), .second, .val (.int p1), .val (.int p2), .val (.int p3), .val (.int p4), .val (.long life), .second, .val (.int p8), .val (.ref se), .val (.ref ob), .val (.int kk), .val (.int (1 : Int32)), .val (.int (1 : Int32)), .val (.long (0 : Int64)), .second, .val (.ref zC), .val (.long (0 : Int64)), .second, .unset] [(.long (0 : Int64))])) _
          refine XS.lload X318.here hx rfl (hb hby at_250) rfl ?_
          show Steps p.tables e below (T318.setTop (mkF m 252 #[.val (.long q0), .second, .val (.int p1), .val (.int p2), .val (.int p3), .val (.int p4), .val (.long life), .second, .val (.int p8), .val (.ref se), .val (.ref ob), .val (.int kk), .val (.int (1 : Int32)), .val (.int (1 : Int32)), .val (.long (0 : Int64)), .second, .val (.ref zC), .val (.long (0 : Int64)), .second, .unset] [(.long life), (.long (0 : Int64))])) _
          refine XS.lcmp X318.here hx rfl (hb hby at_252) rfl ?_
          show Steps p.tables e below (T318.setTop (mkF m 253 #[.val (.long q0), .second, .val (.int p1), .val (.int p2), .val (.int p3), .val (.int p4), .val (.long life), .second, .val (.int p8), .val (.ref se), .val (.ref ob), .val (.int kk), .val (.int (1 : Int32)), .val (.int (1 : Int32)), .val (.long (0 : Int64)), .second, .val (.ref zC), .val (.long (0 : Int64)), .second, .unset] [(.int (lcmpW (0 : Int64) life))])) _
          refine XS.ifNo X318.here hx rfl (hb hby at_253) rfl ((if0 _ _).trans (flt (fun q => h219_292 ((lw_lt _ _).mp q))).1) ?_
          exact kt
        obtain ⟨T319, X319, e319, st319⟩ := getS2 X318 hx hZ hown (host := "") (Or.inl (hw _ (List.mem_of_getElem? (i := 194) rfl))) Via.refl e318 (S_CLOSE.ext Y317.2) (g := (mkF m 256 #[.val (.long q0), .second, .val (.int p1), .val (.int p2), .val (.int p3), .val (.int p4), .val (.long life), .second, .val (.int p8), .val (.ref se), .val (.ref ob), .val (.int kk), .val (.int (1 : Int32)), .val (.int (1 : Int32)), .val (.long (0 : Int64)), .second, .val (.ref zC), .val (.long (0 : Int64)), .second, .unset] [])) rfl (hb hby at_256)
        refine Go.pre st319 ?_
        show Go p e below s _ _ _ (T319.setTop (mkF m 259 #[.val (.long q0), .second, .val (.int p1), .val (.int p2), .val (.int p3), .val (.int p4), .val (.long life), .second, .val (.int p8), .val (.ref se), .val (.ref ob), .val (.int kk), .val (.int (1 : Int32)), .val (.int (1 : Int32)), .val (.long (0 : Int64)), .second, .val (.ref zC), .val (.long (0 : Int64)), .second, .unset] [(.ref zC)]))
        refine Go.pre (st' := T319.setTop (mkF m 271 #[.val (.long q0), .second, .val (.int p1), .val (.int p2), .val (.int p3), .val (.int p4), .val (.long life), .second, .val (.int p8), .val (.ref se), .val (.ref ob), .val (.int kk), .val (.int (1 : Int32)), .val (.int (1 : Int32)), .val (.long (0 : Int64)), .second, .val (.ref zC), .val (.long (0 : Int64)), .second, .val (.ref zC)] [(.int (1 : Int32)), (.ref ob)])) (fun target kt => ?_) ?_
        · show Steps p.tables e below (T319.setTop (mkF m 259 #[.val (.long q0), .second, .val (.int p1), .val (.int p2), .val (.int p3), .val (.int p4), .val (.long life), .second, .val (.int p8), .val (.ref se), .val (.ref ob), .val (.int kk), .val (.int (1 : Int32)), .val (.int (1 : Int32)), .val (.long (0 : Int64)), .second, .val (.ref zC), .val (.long (0 : Int64)), .second, .unset] [(.ref zC)])) _
          refine XS.goto X319.here hx rfl (pc0 := 259) (pc' := 265) rfl (hb hby at_259) (by decide) (by decide) ?_
          show Steps p.tables e below (T319.setTop (mkF m 265 #[.val (.long q0), .second, .val (.int p1), .val (.int p2), .val (.int p3), .val (.int p4), .val (.long life), .second, .val (.int p8), .val (.ref se), .val (.ref ob), .val (.int kk), .val (.int (1 : Int32)), .val (.int (1 : Int32)), .val (.long (0 : Int64)), .second, .val (.ref zC), .val (.long (0 : Int64)), .second, .unset] [(.ref zC)])) _
          refine XS.astore X319.here hx rfl (hb hby at_265) rfl rfl (l' := #[.val (.long q0), .second, .val (.int p1), .val (.int p2), .val (.int p3), .val (.int p4), .val (.long life), .second, .val (.int p8), .val (.ref se), .val (.ref ob), .val (.int kk), .val (.int (1 : Int32)), .val (.int (1 : Int32)), .val (.long (0 : Int64)), .second, .val (.ref zC), .val (.long (0 : Int64)), .second, .val (.ref zC)]) rfl ?_
          show Steps p.tables e below (T319.setTop (mkF m 267 #[.val (.long q0), .second, .val (.int p1), .val (.int p2), .val (.int p3), .val (.int p4), .val (.long life), .second, .val (.int p8), .val (.ref se), .val (.ref ob), .val (.int kk), .val (.int (1 : Int32)), .val (.int (1 : Int32)), .val (.long (0 : Int64)), .second, .val (.ref zC), .val (.long (0 : Int64)), .second, .val (.ref zC)] [])) _
          refine XS.aload X319.here hx rfl (hb hby at_267) rfl rfl ?_
          show Steps p.tables e below (T319.setTop (mkF m 269 #[.val (.long q0), .second, .val (.int p1), .val (.int p2), .val (.int p3), .val (.int p4), .val (.long life), .second, .val (.int p8), .val (.ref se), .val (.ref ob), .val (.int kk), .val (.int (1 : Int32)), .val (.int (1 : Int32)), .val (.long (0 : Int64)), .second, .val (.ref zC), .val (.long (0 : Int64)), .second, .val (.ref zC)] [(.ref ob)])) _
          refine XS.iload X319.here hx rfl (hb hby at_269) rfl ?_
          exact kt
        have Y321 : Fld Z T1.heap ob "com/example/pulsekeep/pulsekeep/core/Subscription" "settings" "Lcom/example/pulsekeep/pulsekeep/core/SubscriptionSettings;" (.ref se) := (KF1 _ _ _ _ _ F_settings (pallS (Or.inr (slot_ne (Or.inl (hw _ (List.mem_of_getElem? (i := 114) rfl))) (Or.inl (hw _ (List.mem_of_getElem? (i := 130) rfl))) (by decide) (t := (.object "com/example/pulsekeep/pulsekeep/core/SubscriptionSettings")) (t' := .boolean) (by decide) (by decide))) (pallS (Or.inr (slot_ne (Or.inl (hw _ (List.mem_of_getElem? (i := 114) rfl))) (Or.inl (hw _ (List.mem_of_getElem? (i := 139) rfl))) (by decide) (t := (.object "com/example/pulsekeep/pulsekeep/core/SubscriptionSettings")) (t' := .boolean) (by decide) (by decide))) (pallS (Or.inr (slot_ne (Or.inl (hw _ (List.mem_of_getElem? (i := 114) rfl))) (Or.inl (hw _ (List.mem_of_getElem? (i := 149) rfl))) (by decide) (t := (.object "com/example/pulsekeep/pulsekeep/core/SubscriptionSettings")) (t' := .long) (by decide) (by decide))) (pallS (Or.inr (slot_ne (Or.inl (hw _ (List.mem_of_getElem? (i := 114) rfl))) (Or.inl (hw _ (List.mem_of_getElem? (i := 132) rfl))) (by decide) (t := (.object "com/example/pulsekeep/pulsekeep/core/SubscriptionSettings")) (t' := .long) (by decide) (by decide))) pall0)))))
        have Y322 : Fld Z T1.heap ob "com/example/pulsekeep/pulsekeep/core/Subscription" "items" "Ljava/util/List;" (.ref il) := (KF1 _ _ _ _ _ F_items (pallS (Or.inr (slot_ne (Or.inr (hw _ (List.mem_of_getElem? (i := 88) rfl))) (Or.inl (hw _ (List.mem_of_getElem? (i := 130) rfl))) (by decide) (t := (.object "java/util/List")) (t' := .boolean) (by decide) (by decide))) (pallS (Or.inr (slot_ne (Or.inr (hw _ (List.mem_of_getElem? (i := 88) rfl))) (Or.inl (hw _ (List.mem_of_getElem? (i := 139) rfl))) (by decide) (t := (.object "java/util/List")) (t' := .boolean) (by decide) (by decide))) (pallS (Or.inr (slot_ne (Or.inr (hw _ (List.mem_of_getElem? (i := 88) rfl))) (Or.inl (hw _ (List.mem_of_getElem? (i := 149) rfl))) (by decide) (t := (.object "java/util/List")) (t' := .long) (by decide) (by decide))) (pallS (Or.inr (slot_ne (Or.inr (hw _ (List.mem_of_getElem? (i := 88) rfl))) (Or.inl (hw _ (List.mem_of_getElem? (i := 132) rfl))) (by decide) (t := (.object "java/util/List")) (t' := .long) (by decide) (by decide))) pall0)))))
        have Y323 : Exa Z T1.heap se "com/example/pulsekeep/pulsekeep/core/SubscriptionSettings" := (E_se.keep K1)
        have Y324 : Fld Z T1.heap se "com/example/pulsekeep/pulsekeep/core/SubscriptionSettings" "publishingEnabled" "Z" (.int en) := (F_en.keep K1 (ninS (ne_exa E_se E_o (by decide)) nin0))
        have Y325 : Exa Z T1.heap il "java/util/ArrayList" := (E_il.keep K1)
        have Y326 : Fld Z T1.heap il "java/util/AbstractList" "modCount" "I" (.int mc) := (F_mc.keep K1 (ninS (ne_exa E_il E_o (by decide)) nin0))
        have Y327 : Fld Z T1.heap il "java/util/ArrayList" "size" "I" (.int (0 : Int32)) := (F_size.keep K1 (ninS (ne_exa E_il E_o (by decide)) nin0))
        have Y328 : Fld Z T1.heap se "com/example/pulsekeep/pulsekeep/core/SubscriptionSettings" "lifetimeCount" "J" (.long life) := (F_life.keep K1 (ninS (ne_exa E_se E_o (by decide)) nin0))
        obtain ⟨cq320, kq320, q320a, q320b, q320c⟩ := isOf hZ e319 Y3
        obtain ⟨_, _, ⟨T320, L320, k320, n320⟩, -, X320, ⟨Lc320, hQ320, l320, y320, z320⟩, st320⟩ := X319.virtualBack hx (y := (⟨"com/example/pulsekeep/pulsekeep/core/Subscription", "endCycle", "(Z)Lcom/example/pulsekeep/pulsekeep/core/Subscription$CycleEnd;"⟩ : MethodName)) (z := (⟨"com/example/pulsekeep/pulsekeep/core/Subscription", "endCycle", "(Z)Lcom/example/pulsekeep/pulsekeep/core/Subscription$CycleEnd;"⟩ : MethodName)) hown (mvT hZ (hw _ (List.mem_of_getElem? (i := 115) rfl))) (mvT hZ (hw _ (List.mem_of_getElem? (i := 116) rfl))) (notFace_of_selects (args := #[]) (mvT hZ (hw _ (List.mem_of_getElem? (i := 118) rfl)))) (mvT hZ (hw _ (List.mem_of_getElem? (i := 118) rfl))) (mvT hZ (hw _ (List.mem_of_getElem? (i := 117) rfl))) (by decide) (backOf (W := 0) (rm11 l Z a0 hw [] ob (1 : Int32) se il en mc life (0 : Int64) (0 : Int32) zD zC T1.heap n0 (by omega) Y3 Y321 Y322 Y323 Y324 Y325 Y326 Y327 Y328 Y1_0 Y1_3 Y1_1 S_DUE S_CLOSE Y317 (by omega)) hZ (hw _ (List.mem_of_getElem? (i := 119) rfl)) (hw _ (List.mem_of_getElem? (i := 29) rfl)) (by decide) (by decide)) q320a q320c (g := (mkF m 271 #[.val (.long q0), .second, .val (.int p1), .val (.int p2), .val (.int p3), .val (.int p4), .val (.long life), .second, .val (.int p8), .val (.ref se), .val (.ref ob), .val (.int kk), .val (.int (1 : Int32)), .val (.int (1 : Int32)), .val (.long (0 : Int64)), .second, .val (.ref zC), .val (.long (0 : Int64)), .second, .val (.ref zC)] [(.int (1 : Int32)), (.ref ob)])) rfl (by rw [hml]; rfl) (Steps.refl _) (argsL := [(.int (1 : Int32))]) (rest := []) (lenOf pd159_2 rfl) rfl (by show 2 * 0 + _ ≤ _; exact Nat.le_of_eq rfl) (hb hby at_271) (fun vm₁ hvm => ⟨rfl, e319, (by decide : 15 + 1 ≤ _), (by decide : 112 + 4 ≤ _)⟩)
        dsimp only [Pt.U, Pt.locs, Pt.cells, Pt.slots] at X320 l320 y320 z320 st320 hQ320
        subst l320 y320 z320
        obtain ⟨rfl, N320q, K320, KF320, Fc320, Fd320⟩ := hQ320
        have sz320 : T1.heap.size ≤ T320.heap.size := K320.1
        have N320 := Fr.app N2 N320q
        refine Go.trans st320 ?_
        show Go p e below s _ _ _ (T320.setTop (mkF m 274 #[.val (.long q0), .second, .val (.int p1), .val (.int p2), .val (.int p3), .val (.int p4), .val (.long life), .second, .val (.int p8), .val (.ref se), .val (.ref ob), .val (.int kk), .val (.int (1 : Int32)), .val (.int (1 : Int32)), .val (.long (0 : Int64)), .second, .val (.ref zC), .val (.long (0 : Int64)), .second, .val (.ref zC)] [(.ref (own_end life (own_nc (1 : Int32) (0 : Int64)) zD zC))]))
        rw [show own_end life (own_nc (1 : Int32) (0 : Int64)) zD zC = zC from by rw [own_end, show (own_nc (1 : Int32) (0 : Int64)) = (0 : Int64) from by decide, if_neg h219_292]]
        refine Go.pre (st' := T320.setTop (mkF m 283 #[.val (.long q0), .second, .val (.int p1), .val (.int p2), .val (.int p3), .val (.int p4), .val (.long life), .second, .val (.int p8), .val (.ref se), .val (.ref ob), .val (.int kk), .val (.int (1 : Int32)), .val (.int (1 : Int32)), .val (.long (0 : Int64)), .second, .val (.ref zC), .val (.long (0 : Int64)), .second, .val (.ref zC)] [(.int (1 : Int32)), (.ref ob)])) (fun target kt => ?_) ?_
        · show Steps p.tables e below (T320.setTop (mkF m 274 #[.val (.long q0), .second, .val (.int p1), .val (.int p2), .val (.int p3), .val (.int p4), .val (.long life), .second, .val (.int p8), .val (.ref se), .val (.ref ob), .val (.int kk), .val (.int (1 : Int32)), .val (.int (1 : Int32)), .val (.long (0 : Int64)), .second, .val (.ref zC), .val (.long (0 : Int64)), .second, .val (.ref zC)] [(.ref zC)])) _
          refine XS.aload X320.here hx rfl (hb hby at_274) rfl rfl ?_
          show Steps p.tables e below (T320.setTop (mkF m 276 #[.val (.long q0), .second, .val (.int p1), .val (.int p2), .val (.int p3), .val (.int p4), .val (.long life), .second, .val (.int p8), .val (.ref se), .val (.ref ob), .val (.int kk), .val (.int (1 : Int32)), .val (.int (1 : Int32)), .val (.long (0 : Int64)), .second, .val (.ref zC), .val (.long (0 : Int64)), .second, .val (.ref zC)] [(.ref zC), (.ref zC)])) _
          refine Jvm.RoadKit.acmp (g := (mkF m 276 #[.val (.long q0), .second, .val (.int p1), .val (.int p2), .val (.int p3), .val (.int p4), .val (.long life), .second, .val (.int p8), .val (.ref se), .val (.ref ob), .val (.int kk), .val (.int (1 : Int32)), .val (.int (1 : Int32)), .val (.long (0 : Int64)), .second, .val (.ref zC), .val (.long (0 : Int64)), .second, .val (.ref zC)] [(.ref zC), (.ref zC)])) X320 hx rfl rfl rfl (pc0 := 276) (pc' := 279) (same := true) rfl (hb hby at_276) rfl (decide_eq_true rfl) (by decide) (by decide) ?_
          show Steps p.tables e below (T320.setTop (mkF m 279 #[.val (.long q0), .second, .val (.int p1), .val (.int p2), .val (.int p3), .val (.int p4), .val (.long life), .second, .val (.int p8), .val (.ref se), .val (.ref ob), .val (.int kk), .val (.int (1 : Int32)), .val (.int (1 : Int32)), .val (.long (0 : Int64)), .second, .val (.ref zC), .val (.long (0 : Int64)), .second, .val (.ref zC)] [])) _
          refine XS.aload X320.here hx rfl (hb hby at_279) rfl rfl ?_
          show Steps p.tables e below (T320.setTop (mkF m 281 #[.val (.long q0), .second, .val (.int p1), .val (.int p2), .val (.int p3), .val (.int p4), .val (.long life), .second, .val (.int p8), .val (.ref se), .val (.ref ob), .val (.int kk), .val (.int (1 : Int32)), .val (.int (1 : Int32)), .val (.long (0 : Int64)), .second, .val (.ref zC), .val (.long (0 : Int64)), .second, .val (.ref zC)] [(.ref ob)])) _
          refine XS.iload X320.here hx rfl (hb hby at_281) rfl ?_
          exact kt
        have Y330 : Exa Z T320.heap ob "com/example/pulsekeep/pulsekeep/core/Subscription" := (Y3.keep K320)
        have Y331 : Fld Z T320.heap ob "com/example/pulsekeep/pulsekeep/core/Subscription" "settings" "Lcom/example/pulsekeep/pulsekeep/core/SubscriptionSettings;" (.ref se) := (KF320 _ _ _ _ _ Y321 (pallS (Or.inr (slot_ne (Or.inl (hw _ (List.mem_of_getElem? (i := 114) rfl))) (Or.inl (hw _ (List.mem_of_getElem? (i := 132) rfl))) (by decide) (t := (.object "com/example/pulsekeep/pulsekeep/core/SubscriptionSettings")) (t' := .long) (by decide) (by decide))) (pallS (Or.inr (slot_ne (Or.inl (hw _ (List.mem_of_getElem? (i := 114) rfl))) (Or.inl (hw _ (List.mem_of_getElem? (i := 139) rfl))) (by decide) (t := (.object "com/example/pulsekeep/pulsekeep/core/SubscriptionSettings")) (t' := .boolean) (by decide) (by decide))) pall0)))
        have Y332 : Fld Z T320.heap ob "com/example/pulsekeep/pulsekeep/core/Subscription" "items" "Ljava/util/List;" (.ref il) := (KF320 _ _ _ _ _ Y322 (pallS (Or.inr (slot_ne (Or.inr (hw _ (List.mem_of_getElem? (i := 88) rfl))) (Or.inl (hw _ (List.mem_of_getElem? (i := 132) rfl))) (by decide) (t := (.object "java/util/List")) (t' := .long) (by decide) (by decide))) (pallS (Or.inr (slot_ne (Or.inr (hw _ (List.mem_of_getElem? (i := 88) rfl))) (Or.inl (hw _ (List.mem_of_getElem? (i := 139) rfl))) (by decide) (t := (.object "java/util/List")) (t' := .boolean) (by decide) (by decide))) pall0)))
        have Y333 : Exa Z T320.heap se "com/example/pulsekeep/pulsekeep/core/SubscriptionSettings" := (Y323.keep K320)
        have Y334 : Fld Z T320.heap se "com/example/pulsekeep/pulsekeep/core/SubscriptionSettings" "publishingEnabled" "Z" (.int en) := (Y324.keep K320 (ninS (ne_exa E_se E_o (by decide)) nin0))
        have Y335 : Exa Z T320.heap il "java/util/ArrayList" := (Y325.keep K320)
        have Y336 : Fld Z T320.heap il "java/util/AbstractList" "modCount" "I" (.int mc) := (Y326.keep K320 (ninS (ne_exa E_il E_o (by decide)) nin0))
        have Y337 : Fld Z T320.heap il "java/util/ArrayList" "size" "I" (.int (0 : Int32)) := (Y327.keep K320 (ninS (ne_exa E_il E_o (by decide)) nin0))
        have Y338 : Fld Z T320.heap se "com/example/pulsekeep/pulsekeep/core/SubscriptionSettings" "lifetimeCount" "J" (.long life) := (Y328.keep K320 (ninS (ne_exa E_se E_o (by decide)) nin0))
        have Y339 : Fld Z T320.heap ob "com/example/pulsekeep/pulsekeep/core/Subscription" "messageSent" "Z" (.int (0 : Int32)) := (KF320 _ _ _ _ _ Y1_0 (pallS (Or.inr (slot_ne (Or.inl (hw _ (List.mem_of_getElem? (i := 130) rfl))) (Or.inl (hw _ (List.mem_of_getElem? (i := 132) rfl))) (by decide) (t := .boolean) (t' := .long) (by decide) (by decide))) (pallS (Or.inr (slot_ne (Or.inl (hw _ (List.mem_of_getElem? (i := 130) rfl))) (Or.inl (hw _ (List.mem_of_getElem? (i := 139) rfl))) (by decide) (t := .boolean) (t' := .boolean) (by decide) (by decide))) pall0)))
        have Y340 : Old Z n0 T320.heap := (Y317.keep K320 (allS (by omega) all0))
        obtain ⟨cq329, kq329, q329a, q329b, q329c⟩ := isOf hZ rfl Y330
        obtain ⟨_, _, ⟨T329, L329, k329, n329⟩, -, X329, ⟨Lc329, hQ329, l329, y329, z329⟩, st329⟩ := X320.virtualBack hx (y := (⟨"com/example/pulsekeep/pulsekeep/core/Subscription", "endCycle", "(Z)Lcom/example/pulsekeep/pulsekeep/core/Subscription$CycleEnd;"⟩ : MethodName)) (z := (⟨"com/example/pulsekeep/pulsekeep/core/Subscription", "endCycle", "(Z)Lcom/example/pulsekeep/pulsekeep/core/Subscription$CycleEnd;"⟩ : MethodName)) hown (mvT hZ (hw _ (List.mem_of_getElem? (i := 115) rfl))) (mvT hZ (hw _ (List.mem_of_getElem? (i := 116) rfl))) (notFace_of_selects (args := #[]) (mvT hZ (hw _ (List.mem_of_getElem? (i := 118) rfl)))) (mvT hZ (hw _ (List.mem_of_getElem? (i := 118) rfl))) (mvT hZ (hw _ (List.mem_of_getElem? (i := 117) rfl))) (by decide) (backOf (W := 0) (rm11 l Z a0 hw [] ob (1 : Int32) se il en mc life (own_nc (1 : Int32) (0 : Int64)) (own_due life (own_nc (1 : Int32) (0 : Int64)) (0 : Int32)) zD zC T320.heap n0 (by omega) Y330 Y331 Y332 Y333 Y334 Y335 Y336 Y337 Y338 Y339 Fc320 Fd320 S_DUE S_CLOSE Y340 (by omega)) hZ (hw _ (List.mem_of_getElem? (i := 119) rfl)) (hw _ (List.mem_of_getElem? (i := 29) rfl)) (by decide) (by decide)) q329a q329c (g := (mkF m 283 #[.val (.long q0), .second, .val (.int p1), .val (.int p2), .val (.int p3), .val (.int p4), .val (.long life), .second, .val (.int p8), .val (.ref se), .val (.ref ob), .val (.int kk), .val (.int (1 : Int32)), .val (.int (1 : Int32)), .val (.long (0 : Int64)), .second, .val (.ref zC), .val (.long (0 : Int64)), .second, .val (.ref zC)] [(.int (1 : Int32)), (.ref ob)])) rfl (by rw [hml]; rfl) (Steps.refl _) (argsL := [(.int (1 : Int32))]) (rest := []) (lenOf pd159_2 rfl) rfl (by show 2 * 0 + _ ≤ _; exact Nat.le_of_eq rfl) (hb hby at_283) (fun vm₁ hvm => ⟨rfl, rfl, (by decide : 16 + 1 ≤ _), (by decide : 116 + 4 ≤ _)⟩)
        dsimp only [Pt.U, Pt.locs, Pt.cells, Pt.slots] at X329 l329 y329 z329 st329 hQ329
        subst l329 y329 z329
        obtain ⟨rfl, N329q, K329, KF329, Fc329, Fd329⟩ := hQ329
        have sz329 : T320.heap.size ≤ T329.heap.size := K329.1
        have N329 := Fr.app N320 N329q
        refine Go.trans st329 ?_
        show Go p e below s _ _ _ (T329.setTop (mkF m 286 #[.val (.long q0), .second, .val (.int p1), .val (.int p2), .val (.int p3), .val (.int p4), .val (.long life), .second, .val (.int p8), .val (.ref se), .val (.ref ob), .val (.int kk), .val (.int (1 : Int32)), .val (.int (1 : Int32)), .val (.long (0 : Int64)), .second, .val (.ref zC), .val (.long (0 : Int64)), .second, .val (.ref zC)] [(.ref (own_end life (own_nc (1 : Int32) (own_nc (1 : Int32) (0 : Int64))) zD zC))]))
        rw [show own_end life (own_nc (1 : Int32) (own_nc (1 : Int32) (0 : Int64))) zD zC = zC from by rw [own_end, show (own_nc (1 : Int32) (own_nc (1 : Int32) (0 : Int64))) = (0 : Int64) from by decide, if_neg h219_292]]
        refine Go.pre (st' := T329.setTop (mkF m 296 #[.val (.long q0), .second, .val (.int p1), .val (.int p2), .val (.int p3), .val (.int p4), .val (.long life), .second, .val (.int p8), .val (.ref se), .val (.ref ob), .val (.int kk), .val (.int (1 : Int32)), .val (.int (1 : Int32)), .val (.long (0 : Int64)), .second, .val (.ref zC), .val (.long (0 : Int64)), .second, .val (.ref zC)] [(.int (1 : Int32))])) (fun target kt => ?_) ?_
        · show Steps p.tables e below (T329.setTop (mkF m 286 #[.val (.long q0), .second, .val (.int p1), .val (.int p2), .val (.int p3), .val (.int p4), .val (.long life), .second, .val (.int p8), .val (.ref se), .val (.ref ob), .val (.int kk), .val (.int (1 : Int32)), .val (.int (1 : Int32)), .val (.long (0 : Int64)), .second, .val (.ref zC), .val (.long (0 : Int64)), .second, .val (.ref zC)] [(.ref zC)])) _
          refine XS.aload X329.here hx rfl (hb hby at_286) rfl rfl ?_
          show Steps p.tables e below (T329.setTop (mkF m 288 #[.val (.long q0), .second, .val (.int p1), .val (.int p2), .val (.int p3), .val (.int p4), .val (.long life), .second, .val (.int p8), .val (.ref se), .val (.ref ob), .val (.int kk), .val (.int (1 : Int32)), .val (.int (1 : Int32)), .val (.long (0 : Int64)), .second, .val (.ref zC), .val (.long (0 : Int64)), .second, .val (.ref zC)] [(.ref zC), (.ref zC)])) _
          refine Jvm.RoadKit.acmp (g := (mkF m 288 #[.val (.long q0), .second, .val (.int p1), .val (.int p2), .val (.int p3), .val (.int p4), .val (.long life), .second, .val (.int p8), .val (.ref se), .val (.ref ob), .val (.int kk), .val (.int (1 : Int32)), .val (.int (1 : Int32)), .val (.long (0 : Int64)), .second, .val (.ref zC), .val (.long (0 : Int64)), .second, .val (.ref zC)] [(.ref zC), (.ref zC)])) X329 hx rfl rfl rfl (pc0 := 288) (pc' := 291) (same := true) rfl (hb hby at_288) rfl (decide_eq_true rfl) (by decide) (by decide) ?_
          show Steps p.tables e below (T329.setTop (mkF m 291 #[.val (.long q0), .second, .val (.int p1), .val (.int p2), .val (.int p3), .val (.int p4), .val (.long life), .second, .val (.int p8), .val (.ref se), .val (.ref ob), .val (.int kk), .val (.int (1 : Int32)), .val (.int (1 : Int32)), .val (.long (0 : Int64)), .second, .val (.ref zC), .val (.long (0 : Int64)), .second, .val (.ref zC)] [])) _
          refine XS.iconst X329.here hx rfl (hb hby at_291) ?_
          show Steps p.tables e below (T329.setTop (mkF m 292 #[.val (.long q0), .second, .val (.int p1), .val (.int p2), .val (.int p3), .val (.int p4), .val (.long life), .second, .val (.int p8), .val (.ref se), .val (.ref ob), .val (.int kk), .val (.int (1 : Int32)), .val (.int (1 : Int32)), .val (.long (0 : Int64)), .second, .val (.ref zC), .val (.long (0 : Int64)), .second, .val (.ref zC)] [(.int (1 : Int32))])) _
          refine XS.goto X329.here hx rfl (pc0 := 292) (pc' := 296) rfl (hb hby at_292) (by decide) (by decide) ?_
          exact kt
        exact Go.retN X329 hx hlk hrt (z' := (1 : Int32)) (by simp) (hb hby at_296) rfl (by decide) (by decide) (by exact ⟨rfl, N329⟩)
theorem pd135_0 : parseMethodDescriptor "(Z)Lcom/example/pulsekeep/pulsekeep/core/Subscription$CycleEnd;" = some ⟨[.boolean], some (.object "com/example/pulsekeep/pulsekeep/core/Subscription$CycleEnd")⟩ := by decide +kernel
set_option maxRecDepth 65536 in
set_option maxHeartbeats 40000000 in
theorem blk135 {p : Program} {l : Launch} {e : Env} {s : State} {m : MethodId} {args : Array Value} {below : List Frame} {meth : Method} {c : Code} {Z : State} {a0 : Array Value} {T : State} {locs : List Loc} {h0 : Heap} {n0 : Nat} (C : Ctx p s m meth c Z code 20 "com/example/pulsekeep/pulsekeep/core/SubscriptionStartAgainPinLaw" (some .boolean)) (hw : ∀ d ∈ tables_1, d.before a0 Z = true)
    (X0 : Stand p l e room_1 s m args below meth c T locs 14 108) (e0 : T.heap = h0) (N0 : Fr n0 locs) (q0 : Int64) (p1 : Int32) (p2 : Int32) (p3 : Int32) (p4 : Int32) (p8 : Int32) (ob : Addr) (kk : Int32) (ec : Int64) (zD : Addr) (zC : Addr) (se : Addr) (il : Addr) (en : Int32) (mc : Int32) (life : Int64) (cy : Int64) (md : Int32) (Z0 : n0 ≤ h0.size) (E_o : Exa Z h0 ob "com/example/pulsekeep/pulsekeep/core/Subscription") (F_settings : Fld Z h0 ob "com/example/pulsekeep/pulsekeep/core/Subscription" "settings" "Lcom/example/pulsekeep/pulsekeep/core/SubscriptionSettings;" (.ref se)) (F_items : Fld Z h0 ob "com/example/pulsekeep/pulsekeep/core/Subscription" "items" "Ljava/util/List;" (.ref il)) (E_se : Exa Z h0 se "com/example/pulsekeep/pulsekeep/core/SubscriptionSettings") (F_en : Fld Z h0 se "com/example/pulsekeep/pulsekeep/core/SubscriptionSettings" "publishingEnabled" "Z" (.int en)) (E_il : Exa Z h0 il "java/util/ArrayList") (F_mc : Fld Z h0 il "java/util/AbstractList" "modCount" "I" (.int mc)) (F_size : Fld Z h0 il "java/util/ArrayList" "size" "I" (.int (0 : Int32))) (F_life : Fld Z h0 se "com/example/pulsekeep/pulsekeep/core/SubscriptionSettings" "lifetimeCount" "J" (.long life)) (F_sent : Fld Z h0 ob "com/example/pulsekeep/pulsekeep/core/Subscription" "messageSent" "Z" (.int (0 : Int32))) (F_cy : Fld Z h0 ob "com/example/pulsekeep/pulsekeep/core/Subscription" "cyclesWithoutRequest" "J" (.long cy)) (F_md : Fld Z h0 ob "com/example/pulsekeep/pulsekeep/core/Subscription" "messageDue" "Z" (.int md)) (F_ec : Fld Z h0 ob "com/example/pulsekeep/pulsekeep/core/Subscription" "emptyCycles" "J" (.long ec)) (S_DUE : Sta Z Z.heap "com/example/pulsekeep/pulsekeep/core/Subscription$CycleEnd" "DUE" "Lcom/example/pulsekeep/pulsekeep/core/Subscription$CycleEnd;" (.ref zD)) (S_CLOSE : Sta Z Z.heap "com/example/pulsekeep/pulsekeep/core/Subscription$CycleEnd" "CLOSE" "Lcom/example/pulsekeep/pulsekeep/core/Subscription$CycleEnd;" (.ref zC)) (Ol : Old Z n0 h0) (g_ob : n0 ≤ ob) :
    Go p e below s 48 320 (fun v h L => v = some (.int 1) ∧ Fr n0 L) (T.setTop (mkF m 135 #[.val (.long q0), .second, .val (.int p1), .val (.int p2), .val (.int p3), .val (.int p4), .val (.long life), .second, .val (.int p8), .val (.ref se), .val (.ref ob), .val (.int kk), .unset, .unset, .unset, .unset, .unset, .unset, .unset, .unset] [])) := by
  obtain ⟨hx, hZ, hby, hml, hown, hrt, hlk⟩ := id C
  have lt_E_o : LT.lt (α := Nat) ob h0.size := E_o.lt
  have lt_F_settings : LT.lt (α := Nat) ob h0.size := F_settings.lt
  have lt_F_items : LT.lt (α := Nat) ob h0.size := F_items.lt
  have lt_E_se : LT.lt (α := Nat) se h0.size := E_se.lt
  have lt_F_en : LT.lt (α := Nat) se h0.size := F_en.lt
  have lt_E_il : LT.lt (α := Nat) il h0.size := E_il.lt
  have lt_F_mc : LT.lt (α := Nat) il h0.size := F_mc.lt
  have lt_F_size : LT.lt (α := Nat) il h0.size := F_size.lt
  have lt_F_life : LT.lt (α := Nat) se h0.size := F_life.lt
  have lt_F_sent : LT.lt (α := Nat) ob h0.size := F_sent.lt
  have lt_F_cy : LT.lt (α := Nat) ob h0.size := F_cy.lt
  have lt_F_md : LT.lt (α := Nat) ob h0.size := F_md.lt
  have lt_F_ec : LT.lt (α := Nat) ob h0.size := F_ec.lt
  refine Go.pre (st' := T.setTop (mkF m 138 #[.val (.long q0), .second, .val (.int p1), .val (.int p2), .val (.int p3), .val (.int p4), .val (.long life), .second, .val (.int p8), .val (.ref se), .val (.ref ob), .val (.int kk), .unset, .unset, .unset, .unset, .unset, .unset, .unset, .unset] [(.int (3 : Int32)), (.int kk)])) (fun target kt => ?_) ?_
  · show Steps p.tables e below (T.setTop (mkF m 135 #[.val (.long q0), .second, .val (.int p1), .val (.int p2), .val (.int p3), .val (.int p4), .val (.long life), .second, .val (.int p8), .val (.ref se), .val (.ref ob), .val (.int kk), .unset, .unset, .unset, .unset, .unset, .unset, .unset, .unset] [])) _
    refine XS.iload X0.here hx rfl (hb hby at_135) rfl ?_
    show Steps p.tables e below (T.setTop (mkF m 137 #[.val (.long q0), .second, .val (.int p1), .val (.int p2), .val (.int p3), .val (.int p4), .val (.long life), .second, .val (.int p8), .val (.ref se), .val (.ref ob), .val (.int kk), .unset, .unset, .unset, .unset, .unset, .unset, .unset, .unset] [(.int kk)])) _
    refine XS.iconst X0.here hx rfl (hb hby at_137) ?_
    exact kt
  by_cases h138_1 : kk < (3 : Int32)
  · refine Go.pre (st' := T.setTop (mkF m 159 #[.val (.long q0), .second, .val (.int p1), .val (.int p2), .val (.int p3), .val (.int p4), .val (.long life), .second, .val (.int p8), .val (.ref se), .val (.ref ob), .val (.int kk), .unset, .unset, .unset, .unset, .unset, .unset, .unset, .unset] [])) (fun target kt => ?_) ?_
    · show Steps p.tables e below (T.setTop (mkF m 138 #[.val (.long q0), .second, .val (.int p1), .val (.int p2), .val (.int p3), .val (.int p4), .val (.long life), .second, .val (.int p8), .val (.ref se), .val (.ref ob), .val (.int kk), .unset, .unset, .unset, .unset, .unset, .unset, .unset, .unset] [(.int (3 : Int32)), (.int kk)])) _
      refine XS.icmpYes X0.here hx rfl (pc0 := 138) (pc' := 159) rfl (hb hby at_138) rfl (tlt h138_1).1 (by decide) (by decide) ?_
      exact kt
    exact blk159 C hw (padS X0 (by decide) (by decide)) e0 N0 q0 p1 p2 p3 p4 p8 ob kk ec zD zC se il en mc life cy md (by omega) E_o F_settings F_items E_se F_en E_il F_mc F_size F_life F_sent F_cy F_md F_ec S_DUE S_CLOSE Ol (by omega)
  · refine Go.pre (st' := T.setTop (mkF m 141 #[.val (.long q0), .second, .val (.int p1), .val (.int p2), .val (.int p3), .val (.int p4), .val (.long life), .second, .val (.int p8), .val (.ref se), .val (.ref ob), .val (.int kk), .unset, .unset, .unset, .unset, .unset, .unset, .unset, .unset] [])) (fun target kt => ?_) ?_
    · show Steps p.tables e below (T.setTop (mkF m 138 #[.val (.long q0), .second, .val (.int p1), .val (.int p2), .val (.int p3), .val (.int p4), .val (.long life), .second, .val (.int p8), .val (.ref se), .val (.ref ob), .val (.int kk), .unset, .unset, .unset, .unset, .unset, .unset, .unset, .unset] [(.int (3 : Int32)), (.int kk)])) _
      refine XS.icmpNo X0.here hx rfl (hb hby at_138) rfl (flt h138_1).1 ?_
      exact kt
    refine Go.pre (st' := T.setTop (mkF m 147 #[.val (.long q0), .second, .val (.int p1), .val (.int p2), .val (.int p3), .val (.int p4), .val (.long life), .second, .val (.int p8), .val (.ref se), .val (.ref ob), .val (.int kk), .unset, .unset, .unset, .unset, .unset, .unset, .unset, .unset] [(.int (p2 &&& (16 : Int32))), (.ref ob)])) (fun target kt => ?_) ?_
    · show Steps p.tables e below (T.setTop (mkF m 141 #[.val (.long q0), .second, .val (.int p1), .val (.int p2), .val (.int p3), .val (.int p4), .val (.long life), .second, .val (.int p8), .val (.ref se), .val (.ref ob), .val (.int kk), .unset, .unset, .unset, .unset, .unset, .unset, .unset, .unset] [])) _
      refine XS.aload X0.here hx rfl (hb hby at_141) rfl rfl ?_
      show Steps p.tables e below (T.setTop (mkF m 143 #[.val (.long q0), .second, .val (.int p1), .val (.int p2), .val (.int p3), .val (.int p4), .val (.long life), .second, .val (.int p8), .val (.ref se), .val (.ref ob), .val (.int kk), .unset, .unset, .unset, .unset, .unset, .unset, .unset, .unset] [(.ref ob)])) _
      refine XS.iloadN X0.here hx rfl (hb hby at_143) rfl ?_
      show Steps p.tables e below (T.setTop (mkF m 144 #[.val (.long q0), .second, .val (.int p1), .val (.int p2), .val (.int p3), .val (.int p4), .val (.long life), .second, .val (.int p8), .val (.ref se), .val (.ref ob), .val (.int kk), .unset, .unset, .unset, .unset, .unset, .unset, .unset, .unset] [(.int p2), (.ref ob)])) _
      refine XS.bipush X0.here hx rfl (hb hby at_144) ?_
      show Steps p.tables e below (T.setTop (mkF m 146 #[.val (.long q0), .second, .val (.int p1), .val (.int p2), .val (.int p3), .val (.int p4), .val (.long life), .second, .val (.int p8), .val (.ref se), .val (.ref ob), .val (.int kk), .unset, .unset, .unset, .unset, .unset, .unset, .unset, .unset] [(.int (16 : Int32)), (.int p2), (.ref ob)])) _
      refine XS.iand X0.here hx rfl (hb hby at_146) rfl ?_
      exact kt
    by_cases h147_2 : (p2 &&& (16 : Int32)) = (0 : Int32)
    · refine Go.pre (st' := T.setTop (mkF m 154 #[.val (.long q0), .second, .val (.int p1), .val (.int p2), .val (.int p3), .val (.int p4), .val (.long life), .second, .val (.int p8), .val (.ref se), .val (.ref ob), .val (.int kk), .unset, .unset, .unset, .unset, .unset, .unset, .unset, .unset] [(.ref ob)])) (fun target kt => ?_) ?_
      · show Steps p.tables e below (T.setTop (mkF m 147 #[.val (.long q0), .second, .val (.int p1), .val (.int p2), .val (.int p3), .val (.int p4), .val (.long life), .second, .val (.int p8), .val (.ref se), .val (.ref ob), .val (.int kk), .unset, .unset, .unset, .unset, .unset, .unset, .unset, .unset] [(.int (p2 &&& (16 : Int32))), (.ref ob)])) _
        refine XS.ifYes X0.here hx rfl (pc0 := 147) (pc' := 154) rfl (hb hby at_147) rfl ((if0 _ _).trans (teq h147_2).1) (by decide) (by decide) ?_
        exact kt
      refine Go.pre (st' := T.setTop (mkF m 155 #[.val (.long q0), .second, .val (.int p1), .val (.int p2), .val (.int p3), .val (.int p4), .val (.long life), .second, .val (.int p8), .val (.ref se), .val (.ref ob), .val (.int kk), .unset, .unset, .unset, .unset, .unset, .unset, .unset, .unset] [(.int (0 : Int32)), (.ref ob)])) (fun target kt => ?_) ?_
      · show Steps p.tables e below (T.setTop (mkF m 154 #[.val (.long q0), .second, .val (.int p1), .val (.int p2), .val (.int p3), .val (.int p4), .val (.long life), .second, .val (.int p8), .val (.ref se), .val (.ref ob), .val (.int kk), .unset, .unset, .unset, .unset, .unset, .unset, .unset, .unset] [(.ref ob)])) _
        refine XS.iconst X0.here hx rfl (hb hby at_154) ?_
        exact kt
      obtain ⟨cq3, kq3, q3a, q3b, q3c⟩ := isOf hZ e0 E_o
      obtain ⟨_, _, ⟨T3, L3, k3, n3⟩, -, X3, ⟨Lc3, hQ3, l3, y3, z3⟩, st3⟩ := X0.virtualBack hx (y := (⟨"com/example/pulsekeep/pulsekeep/core/Subscription", "endCycle", "(Z)Lcom/example/pulsekeep/pulsekeep/core/Subscription$CycleEnd;"⟩ : MethodName)) (z := (⟨"com/example/pulsekeep/pulsekeep/core/Subscription", "endCycle", "(Z)Lcom/example/pulsekeep/pulsekeep/core/Subscription$CycleEnd;"⟩ : MethodName)) hown (mvT hZ (hw _ (List.mem_of_getElem? (i := 115) rfl))) (mvT hZ (hw _ (List.mem_of_getElem? (i := 116) rfl))) (notFace_of_selects (args := #[]) (mvT hZ (hw _ (List.mem_of_getElem? (i := 118) rfl)))) (mvT hZ (hw _ (List.mem_of_getElem? (i := 118) rfl))) (mvT hZ (hw _ (List.mem_of_getElem? (i := 117) rfl))) (by decide) (backOf (W := 0) (rm11 l Z a0 hw [] ob (0 : Int32) se il en mc life cy md zD zC h0 n0 (by omega) E_o F_settings F_items E_se F_en E_il F_mc F_size F_life F_sent F_cy F_md S_DUE S_CLOSE Ol (by omega)) hZ (hw _ (List.mem_of_getElem? (i := 119) rfl)) (hw _ (List.mem_of_getElem? (i := 29) rfl)) (by decide) (by decide)) q3a q3c (g := (mkF m 155 #[.val (.long q0), .second, .val (.int p1), .val (.int p2), .val (.int p3), .val (.int p4), .val (.long life), .second, .val (.int p8), .val (.ref se), .val (.ref ob), .val (.int kk), .unset, .unset, .unset, .unset, .unset, .unset, .unset, .unset] [(.int (0 : Int32)), (.ref ob)])) rfl (by rw [hml]; rfl) (Steps.refl _) (argsL := [(.int (0 : Int32))]) (rest := []) (lenOf pd135_0 rfl) rfl (by show 2 * 0 + _ ≤ _; exact Nat.le_of_eq rfl) (hb hby at_155) (fun vm₁ hvm => ⟨rfl, e0, (by decide : 14 + 1 ≤ _), (by decide : 108 + 4 ≤ _)⟩)
      dsimp only [Pt.U, Pt.locs, Pt.cells, Pt.slots] at X3 l3 y3 z3 st3 hQ3
      subst l3 y3 z3
      obtain ⟨rfl, N3q, K3, KF3, Fc3, Fd3⟩ := hQ3
      have sz3 : h0.size ≤ T3.heap.size := K3.1
      have N3 := Fr.app N0 N3q
      refine Go.trans st3 ?_
      show Go p e below s _ _ _ (T3.setTop (mkF m 158 #[.val (.long q0), .second, .val (.int p1), .val (.int p2), .val (.int p3), .val (.int p4), .val (.long life), .second, .val (.int p8), .val (.ref se), .val (.ref ob), .val (.int kk), .unset, .unset, .unset, .unset, .unset, .unset, .unset, .unset] [(.ref (own_end life (own_nc (0 : Int32) cy) zD zC))]))
      refine Go.pre (st' := T3.setTop (mkF m 159 #[.val (.long q0), .second, .val (.int p1), .val (.int p2), .val (.int p3), .val (.int p4), .val (.long life), .second, .val (.int p8), .val (.ref se), .val (.ref ob), .val (.int kk), .unset, .unset, .unset, .unset, .unset, .unset, .unset, .unset] [])) (fun target kt => ?_) ?_
      · show Steps p.tables e below (T3.setTop (mkF m 158 #[.val (.long q0), .second, .val (.int p1), .val (.int p2), .val (.int p3), .val (.int p4), .val (.long life), .second, .val (.int p8), .val (.ref se), .val (.ref ob), .val (.int kk), .unset, .unset, .unset, .unset, .unset, .unset, .unset, .unset] [(.ref (own_end life (own_nc (0 : Int32) cy) zD zC))])) _
        refine XS.pop X3.here hx rfl (hb hby at_158) rfl rfl ?_
        exact kt
      have Y4 : Exa Z T3.heap ob "com/example/pulsekeep/pulsekeep/core/Subscription" := (E_o.keep K3)
      have Y5 : Fld Z T3.heap ob "com/example/pulsekeep/pulsekeep/core/Subscription" "settings" "Lcom/example/pulsekeep/pulsekeep/core/SubscriptionSettings;" (.ref se) := (KF3 _ _ _ _ _ F_settings (pallS (Or.inr (slot_ne (Or.inl (hw _ (List.mem_of_getElem? (i := 114) rfl))) (Or.inl (hw _ (List.mem_of_getElem? (i := 132) rfl))) (by decide) (t := (.object "com/example/pulsekeep/pulsekeep/core/SubscriptionSettings")) (t' := .long) (by decide) (by decide))) (pallS (Or.inr (slot_ne (Or.inl (hw _ (List.mem_of_getElem? (i := 114) rfl))) (Or.inl (hw _ (List.mem_of_getElem? (i := 139) rfl))) (by decide) (t := (.object "com/example/pulsekeep/pulsekeep/core/SubscriptionSettings")) (t' := .boolean) (by decide) (by decide))) pall0)))
      have Y6 : Fld Z T3.heap ob "com/example/pulsekeep/pulsekeep/core/Subscription" "items" "Ljava/util/List;" (.ref il) := (KF3 _ _ _ _ _ F_items (pallS (Or.inr (slot_ne (Or.inr (hw _ (List.mem_of_getElem? (i := 88) rfl))) (Or.inl (hw _ (List.mem_of_getElem? (i := 132) rfl))) (by decide) (t := (.object "java/util/List")) (t' := .long) (by decide) (by decide))) (pallS (Or.inr (slot_ne (Or.inr (hw _ (List.mem_of_getElem? (i := 88) rfl))) (Or.inl (hw _ (List.mem_of_getElem? (i := 139) rfl))) (by decide) (t := (.object "java/util/List")) (t' := .boolean) (by decide) (by decide))) pall0)))
      have Y7 : Exa Z T3.heap se "com/example/pulsekeep/pulsekeep/core/SubscriptionSettings" := (E_se.keep K3)
      have Y8 : Fld Z T3.heap se "com/example/pulsekeep/pulsekeep/core/SubscriptionSettings" "publishingEnabled" "Z" (.int en) := (F_en.keep K3 (ninS (ne_exa E_se E_o (by decide)) nin0))
      have Y9 : Exa Z T3.heap il "java/util/ArrayList" := (E_il.keep K3)
      have Y10 : Fld Z T3.heap il "java/util/AbstractList" "modCount" "I" (.int mc) := (F_mc.keep K3 (ninS (ne_exa E_il E_o (by decide)) nin0))
      have Y11 : Fld Z T3.heap il "java/util/ArrayList" "size" "I" (.int (0 : Int32)) := (F_size.keep K3 (ninS (ne_exa E_il E_o (by decide)) nin0))
      have Y12 : Fld Z T3.heap se "com/example/pulsekeep/pulsekeep/core/SubscriptionSettings" "lifetimeCount" "J" (.long life) := (F_life.keep K3 (ninS (ne_exa E_se E_o (by decide)) nin0))
      have Y13 : Fld Z T3.heap ob "com/example/pulsekeep/pulsekeep/core/Subscription" "messageSent" "Z" (.int (0 : Int32)) := (KF3 _ _ _ _ _ F_sent (pallS (Or.inr (slot_ne (Or.inl (hw _ (List.mem_of_getElem? (i := 130) rfl))) (Or.inl (hw _ (List.mem_of_getElem? (i := 132) rfl))) (by decide) (t := .boolean) (t' := .long) (by decide) (by decide))) (pallS (Or.inr (slot_ne (Or.inl (hw _ (List.mem_of_getElem? (i := 130) rfl))) (Or.inl (hw _ (List.mem_of_getElem? (i := 139) rfl))) (by decide) (t := .boolean) (t' := .boolean) (by decide) (by decide))) pall0)))
      have Y14 : Fld Z T3.heap ob "com/example/pulsekeep/pulsekeep/core/Subscription" "emptyCycles" "J" (.long ec) := (KF3 _ _ _ _ _ F_ec (pallS (Or.inr (slot_ne (Or.inl (hw _ (List.mem_of_getElem? (i := 149) rfl))) (Or.inl (hw _ (List.mem_of_getElem? (i := 132) rfl))) (by decide) (t := .long) (t' := .long) (by decide) (by decide))) (pallS (Or.inr (slot_ne (Or.inl (hw _ (List.mem_of_getElem? (i := 149) rfl))) (Or.inl (hw _ (List.mem_of_getElem? (i := 139) rfl))) (by decide) (t := .long) (t' := .boolean) (by decide) (by decide))) pall0)))
      have Y15 : Old Z n0 T3.heap := (Ol.keep K3 (allS (by omega) all0))
      exact blk159 C hw X3 rfl N3 q0 p1 p2 p3 p4 p8 ob kk ec zD zC se il en mc life (own_nc (0 : Int32) cy) (own_due life (own_nc (0 : Int32) cy) md) (by omega) Y4 Y5 Y6 Y7 Y8 Y9 Y10 Y11 Y12 Y13 Fc3 Fd3 Y14 S_DUE S_CLOSE Y15 (by omega)
    · refine Go.pre (st' := T.setTop (mkF m 150 #[.val (.long q0), .second, .val (.int p1), .val (.int p2), .val (.int p3), .val (.int p4), .val (.long life), .second, .val (.int p8), .val (.ref se), .val (.ref ob), .val (.int kk), .unset, .unset, .unset, .unset, .unset, .unset, .unset, .unset] [(.ref ob)])) (fun target kt => ?_) ?_
      · show Steps p.tables e below (T.setTop (mkF m 147 #[.val (.long q0), .second, .val (.int p1), .val (.int p2), .val (.int p3), .val (.int p4), .val (.long life), .second, .val (.int p8), .val (.ref se), .val (.ref ob), .val (.int kk), .unset, .unset, .unset, .unset, .unset, .unset, .unset, .unset] [(.int (p2 &&& (16 : Int32))), (.ref ob)])) _
        refine XS.ifNo X0.here hx rfl (hb hby at_147) rfl ((if0 _ _).trans (feq h147_2).1) ?_
        exact kt
      refine Go.pre (st' := T.setTop (mkF m 155 #[.val (.long q0), .second, .val (.int p1), .val (.int p2), .val (.int p3), .val (.int p4), .val (.long life), .second, .val (.int p8), .val (.ref se), .val (.ref ob), .val (.int kk), .unset, .unset, .unset, .unset, .unset, .unset, .unset, .unset] [(.int (1 : Int32)), (.ref ob)])) (fun target kt => ?_) ?_
      · show Steps p.tables e below (T.setTop (mkF m 150 #[.val (.long q0), .second, .val (.int p1), .val (.int p2), .val (.int p3), .val (.int p4), .val (.long life), .second, .val (.int p8), .val (.ref se), .val (.ref ob), .val (.int kk), .unset, .unset, .unset, .unset, .unset, .unset, .unset, .unset] [(.ref ob)])) _
        refine XS.iconst X0.here hx rfl (hb hby at_150) ?_
        show Steps p.tables e below (T.setTop (mkF m 151 #[.val (.long q0), .second, .val (.int p1), .val (.int p2), .val (.int p3), .val (.int p4), .val (.long life), .second, .val (.int p8), .val (.ref se), .val (.ref ob), .val (.int kk), .unset, .unset, .unset, .unset, .unset, .unset, .unset, .unset] [(.int (1 : Int32)), (.ref ob)])) _
        refine XS.goto X0.here hx rfl (pc0 := 151) (pc' := 155) rfl (hb hby at_151) (by decide) (by decide) ?_
        exact kt
      obtain ⟨cq16, kq16, q16a, q16b, q16c⟩ := isOf hZ e0 E_o
      obtain ⟨_, _, ⟨T16, L16, k16, n16⟩, -, X16, ⟨Lc16, hQ16, l16, y16, z16⟩, st16⟩ := X0.virtualBack hx (y := (⟨"com/example/pulsekeep/pulsekeep/core/Subscription", "endCycle", "(Z)Lcom/example/pulsekeep/pulsekeep/core/Subscription$CycleEnd;"⟩ : MethodName)) (z := (⟨"com/example/pulsekeep/pulsekeep/core/Subscription", "endCycle", "(Z)Lcom/example/pulsekeep/pulsekeep/core/Subscription$CycleEnd;"⟩ : MethodName)) hown (mvT hZ (hw _ (List.mem_of_getElem? (i := 115) rfl))) (mvT hZ (hw _ (List.mem_of_getElem? (i := 116) rfl))) (notFace_of_selects (args := #[]) (mvT hZ (hw _ (List.mem_of_getElem? (i := 118) rfl)))) (mvT hZ (hw _ (List.mem_of_getElem? (i := 118) rfl))) (mvT hZ (hw _ (List.mem_of_getElem? (i := 117) rfl))) (by decide) (backOf (W := 0) (rm11 l Z a0 hw [] ob (1 : Int32) se il en mc life cy md zD zC h0 n0 (by omega) E_o F_settings F_items E_se F_en E_il F_mc F_size F_life F_sent F_cy F_md S_DUE S_CLOSE Ol (by omega)) hZ (hw _ (List.mem_of_getElem? (i := 119) rfl)) (hw _ (List.mem_of_getElem? (i := 29) rfl)) (by decide) (by decide)) q16a q16c (g := (mkF m 155 #[.val (.long q0), .second, .val (.int p1), .val (.int p2), .val (.int p3), .val (.int p4), .val (.long life), .second, .val (.int p8), .val (.ref se), .val (.ref ob), .val (.int kk), .unset, .unset, .unset, .unset, .unset, .unset, .unset, .unset] [(.int (1 : Int32)), (.ref ob)])) rfl (by rw [hml]; rfl) (Steps.refl _) (argsL := [(.int (1 : Int32))]) (rest := []) (lenOf pd135_0 rfl) rfl (by show 2 * 0 + _ ≤ _; exact Nat.le_of_eq rfl) (hb hby at_155) (fun vm₁ hvm => ⟨rfl, e0, (by decide : 14 + 1 ≤ _), (by decide : 108 + 4 ≤ _)⟩)
      dsimp only [Pt.U, Pt.locs, Pt.cells, Pt.slots] at X16 l16 y16 z16 st16 hQ16
      subst l16 y16 z16
      obtain ⟨rfl, N16q, K16, KF16, Fc16, Fd16⟩ := hQ16
      have sz16 : h0.size ≤ T16.heap.size := K16.1
      have N16 := Fr.app N0 N16q
      refine Go.trans st16 ?_
      show Go p e below s _ _ _ (T16.setTop (mkF m 158 #[.val (.long q0), .second, .val (.int p1), .val (.int p2), .val (.int p3), .val (.int p4), .val (.long life), .second, .val (.int p8), .val (.ref se), .val (.ref ob), .val (.int kk), .unset, .unset, .unset, .unset, .unset, .unset, .unset, .unset] [(.ref (own_end life (own_nc (1 : Int32) cy) zD zC))]))
      refine Go.pre (st' := T16.setTop (mkF m 159 #[.val (.long q0), .second, .val (.int p1), .val (.int p2), .val (.int p3), .val (.int p4), .val (.long life), .second, .val (.int p8), .val (.ref se), .val (.ref ob), .val (.int kk), .unset, .unset, .unset, .unset, .unset, .unset, .unset, .unset] [])) (fun target kt => ?_) ?_
      · show Steps p.tables e below (T16.setTop (mkF m 158 #[.val (.long q0), .second, .val (.int p1), .val (.int p2), .val (.int p3), .val (.int p4), .val (.long life), .second, .val (.int p8), .val (.ref se), .val (.ref ob), .val (.int kk), .unset, .unset, .unset, .unset, .unset, .unset, .unset, .unset] [(.ref (own_end life (own_nc (1 : Int32) cy) zD zC))])) _
        refine XS.pop X16.here hx rfl (hb hby at_158) rfl rfl ?_
        exact kt
      have Y17 : Exa Z T16.heap ob "com/example/pulsekeep/pulsekeep/core/Subscription" := (E_o.keep K16)
      have Y18 : Fld Z T16.heap ob "com/example/pulsekeep/pulsekeep/core/Subscription" "settings" "Lcom/example/pulsekeep/pulsekeep/core/SubscriptionSettings;" (.ref se) := (KF16 _ _ _ _ _ F_settings (pallS (Or.inr (slot_ne (Or.inl (hw _ (List.mem_of_getElem? (i := 114) rfl))) (Or.inl (hw _ (List.mem_of_getElem? (i := 132) rfl))) (by decide) (t := (.object "com/example/pulsekeep/pulsekeep/core/SubscriptionSettings")) (t' := .long) (by decide) (by decide))) (pallS (Or.inr (slot_ne (Or.inl (hw _ (List.mem_of_getElem? (i := 114) rfl))) (Or.inl (hw _ (List.mem_of_getElem? (i := 139) rfl))) (by decide) (t := (.object "com/example/pulsekeep/pulsekeep/core/SubscriptionSettings")) (t' := .boolean) (by decide) (by decide))) pall0)))
      have Y19 : Fld Z T16.heap ob "com/example/pulsekeep/pulsekeep/core/Subscription" "items" "Ljava/util/List;" (.ref il) := (KF16 _ _ _ _ _ F_items (pallS (Or.inr (slot_ne (Or.inr (hw _ (List.mem_of_getElem? (i := 88) rfl))) (Or.inl (hw _ (List.mem_of_getElem? (i := 132) rfl))) (by decide) (t := (.object "java/util/List")) (t' := .long) (by decide) (by decide))) (pallS (Or.inr (slot_ne (Or.inr (hw _ (List.mem_of_getElem? (i := 88) rfl))) (Or.inl (hw _ (List.mem_of_getElem? (i := 139) rfl))) (by decide) (t := (.object "java/util/List")) (t' := .boolean) (by decide) (by decide))) pall0)))
      have Y20 : Exa Z T16.heap se "com/example/pulsekeep/pulsekeep/core/SubscriptionSettings" := (E_se.keep K16)
      have Y21 : Fld Z T16.heap se "com/example/pulsekeep/pulsekeep/core/SubscriptionSettings" "publishingEnabled" "Z" (.int en) := (F_en.keep K16 (ninS (ne_exa E_se E_o (by decide)) nin0))
      have Y22 : Exa Z T16.heap il "java/util/ArrayList" := (E_il.keep K16)
      have Y23 : Fld Z T16.heap il "java/util/AbstractList" "modCount" "I" (.int mc) := (F_mc.keep K16 (ninS (ne_exa E_il E_o (by decide)) nin0))
      have Y24 : Fld Z T16.heap il "java/util/ArrayList" "size" "I" (.int (0 : Int32)) := (F_size.keep K16 (ninS (ne_exa E_il E_o (by decide)) nin0))
      have Y25 : Fld Z T16.heap se "com/example/pulsekeep/pulsekeep/core/SubscriptionSettings" "lifetimeCount" "J" (.long life) := (F_life.keep K16 (ninS (ne_exa E_se E_o (by decide)) nin0))
      have Y26 : Fld Z T16.heap ob "com/example/pulsekeep/pulsekeep/core/Subscription" "messageSent" "Z" (.int (0 : Int32)) := (KF16 _ _ _ _ _ F_sent (pallS (Or.inr (slot_ne (Or.inl (hw _ (List.mem_of_getElem? (i := 130) rfl))) (Or.inl (hw _ (List.mem_of_getElem? (i := 132) rfl))) (by decide) (t := .boolean) (t' := .long) (by decide) (by decide))) (pallS (Or.inr (slot_ne (Or.inl (hw _ (List.mem_of_getElem? (i := 130) rfl))) (Or.inl (hw _ (List.mem_of_getElem? (i := 139) rfl))) (by decide) (t := .boolean) (t' := .boolean) (by decide) (by decide))) pall0)))
      have Y27 : Fld Z T16.heap ob "com/example/pulsekeep/pulsekeep/core/Subscription" "emptyCycles" "J" (.long ec) := (KF16 _ _ _ _ _ F_ec (pallS (Or.inr (slot_ne (Or.inl (hw _ (List.mem_of_getElem? (i := 149) rfl))) (Or.inl (hw _ (List.mem_of_getElem? (i := 132) rfl))) (by decide) (t := .long) (t' := .long) (by decide) (by decide))) (pallS (Or.inr (slot_ne (Or.inl (hw _ (List.mem_of_getElem? (i := 149) rfl))) (Or.inl (hw _ (List.mem_of_getElem? (i := 139) rfl))) (by decide) (t := .long) (t' := .boolean) (by decide) (by decide))) pall0)))
      have Y28 : Old Z n0 T16.heap := (Ol.keep K16 (allS (by omega) all0))
      exact blk159 C hw X16 rfl N16 q0 p1 p2 p3 p4 p8 ob kk ec zD zC se il en mc life (own_nc (1 : Int32) cy) (own_due life (own_nc (1 : Int32) cy) md) (by omega) Y17 Y18 Y19 Y20 Y21 Y22 Y23 Y24 Y25 Y26 Fc16 Fd16 Y27 S_DUE S_CLOSE Y28 (by omega)
theorem pd111_0 : parseMethodDescriptor "(Z)Lcom/example/pulsekeep/pulsekeep/core/Subscription$CycleEnd;" = some ⟨[.boolean], some (.object "com/example/pulsekeep/pulsekeep/core/Subscription$CycleEnd")⟩ := by decide +kernel
set_option maxRecDepth 65536 in
set_option maxHeartbeats 40000000 in
theorem blk111 {p : Program} {l : Launch} {e : Env} {s : State} {m : MethodId} {args : Array Value} {below : List Frame} {meth : Method} {c : Code} {Z : State} {a0 : Array Value} {T : State} {locs : List Loc} {h0 : Heap} {n0 : Nat} (C : Ctx p s m meth c Z code 20 "com/example/pulsekeep/pulsekeep/core/SubscriptionStartAgainPinLaw" (some .boolean)) (hw : ∀ d ∈ tables_1, d.before a0 Z = true)
    (X0 : Stand p l e room_1 s m args below meth c T locs 13 104) (e0 : T.heap = h0) (N0 : Fr n0 locs) (q0 : Int64) (p1 : Int32) (p2 : Int32) (p3 : Int32) (p4 : Int32) (p8 : Int32) (ob : Addr) (kk : Int32) (ec : Int64) (zD : Addr) (zC : Addr) (se : Addr) (il : Addr) (en : Int32) (mc : Int32) (life : Int64) (cy : Int64) (md : Int32) (Z0 : n0 ≤ h0.size) (E_o : Exa Z h0 ob "com/example/pulsekeep/pulsekeep/core/Subscription") (F_settings : Fld Z h0 ob "com/example/pulsekeep/pulsekeep/core/Subscription" "settings" "Lcom/example/pulsekeep/pulsekeep/core/SubscriptionSettings;" (.ref se)) (F_items : Fld Z h0 ob "com/example/pulsekeep/pulsekeep/core/Subscription" "items" "Ljava/util/List;" (.ref il)) (E_se : Exa Z h0 se "com/example/pulsekeep/pulsekeep/core/SubscriptionSettings") (F_en : Fld Z h0 se "com/example/pulsekeep/pulsekeep/core/SubscriptionSettings" "publishingEnabled" "Z" (.int en)) (E_il : Exa Z h0 il "java/util/ArrayList") (F_mc : Fld Z h0 il "java/util/AbstractList" "modCount" "I" (.int mc)) (F_size : Fld Z h0 il "java/util/ArrayList" "size" "I" (.int (0 : Int32))) (F_life : Fld Z h0 se "com/example/pulsekeep/pulsekeep/core/SubscriptionSettings" "lifetimeCount" "J" (.long life)) (F_sent : Fld Z h0 ob "com/example/pulsekeep/pulsekeep/core/Subscription" "messageSent" "Z" (.int (0 : Int32))) (F_cy : Fld Z h0 ob "com/example/pulsekeep/pulsekeep/core/Subscription" "cyclesWithoutRequest" "J" (.long cy)) (F_md : Fld Z h0 ob "com/example/pulsekeep/pulsekeep/core/Subscription" "messageDue" "Z" (.int md)) (F_ec : Fld Z h0 ob "com/example/pulsekeep/pulsekeep/core/Subscription" "emptyCycles" "J" (.long ec)) (S_DUE : Sta Z Z.heap "com/example/pulsekeep/pulsekeep/core/Subscription$CycleEnd" "DUE" "Lcom/example/pulsekeep/pulsekeep/core/Subscription$CycleEnd;" (.ref zD)) (S_CLOSE : Sta Z Z.heap "com/example/pulsekeep/pulsekeep/core/Subscription$CycleEnd" "CLOSE" "Lcom/example/pulsekeep/pulsekeep/core/Subscription$CycleEnd;" (.ref zC)) (Ol : Old Z n0 h0) (g_ob : n0 ≤ ob) :
    Go p e below s 48 320 (fun v h L => v = some (.int 1) ∧ Fr n0 L) (T.setTop (mkF m 111 #[.val (.long q0), .second, .val (.int p1), .val (.int p2), .val (.int p3), .val (.int p4), .val (.long life), .second, .val (.int p8), .val (.ref se), .val (.ref ob), .val (.int kk), .unset, .unset, .unset, .unset, .unset, .unset, .unset, .unset] [])) := by
  obtain ⟨hx, hZ, hby, hml, hown, hrt, hlk⟩ := id C
  have lt_E_o : LT.lt (α := Nat) ob h0.size := E_o.lt
  have lt_F_settings : LT.lt (α := Nat) ob h0.size := F_settings.lt
  have lt_F_items : LT.lt (α := Nat) ob h0.size := F_items.lt
  have lt_E_se : LT.lt (α := Nat) se h0.size := E_se.lt
  have lt_F_en : LT.lt (α := Nat) se h0.size := F_en.lt
  have lt_E_il : LT.lt (α := Nat) il h0.size := E_il.lt
  have lt_F_mc : LT.lt (α := Nat) il h0.size := F_mc.lt
  have lt_F_size : LT.lt (α := Nat) il h0.size := F_size.lt
  have lt_F_life : LT.lt (α := Nat) se h0.size := F_life.lt
  have lt_F_sent : LT.lt (α := Nat) ob h0.size := F_sent.lt
  have lt_F_cy : LT.lt (α := Nat) ob h0.size := F_cy.lt
  have lt_F_md : LT.lt (α := Nat) ob h0.size := F_md.lt
  have lt_F_ec : LT.lt (α := Nat) ob h0.size := F_ec.lt
  refine Go.pre (st' := T.setTop (mkF m 114 #[.val (.long q0), .second, .val (.int p1), .val (.int p2), .val (.int p3), .val (.int p4), .val (.long life), .second, .val (.int p8), .val (.ref se), .val (.ref ob), .val (.int kk), .unset, .unset, .unset, .unset, .unset, .unset, .unset, .unset] [(.int (2 : Int32)), (.int kk)])) (fun target kt => ?_) ?_
  · show Steps p.tables e below (T.setTop (mkF m 111 #[.val (.long q0), .second, .val (.int p1), .val (.int p2), .val (.int p3), .val (.int p4), .val (.long life), .second, .val (.int p8), .val (.ref se), .val (.ref ob), .val (.int kk), .unset, .unset, .unset, .unset, .unset, .unset, .unset, .unset] [])) _
    refine XS.iload X0.here hx rfl (hb hby at_111) rfl ?_
    show Steps p.tables e below (T.setTop (mkF m 113 #[.val (.long q0), .second, .val (.int p1), .val (.int p2), .val (.int p3), .val (.int p4), .val (.long life), .second, .val (.int p8), .val (.ref se), .val (.ref ob), .val (.int kk), .unset, .unset, .unset, .unset, .unset, .unset, .unset, .unset] [(.int kk)])) _
    refine XS.iconst X0.here hx rfl (hb hby at_113) ?_
    exact kt
  by_cases h114_1 : kk < (2 : Int32)
  · refine Go.pre (st' := T.setTop (mkF m 135 #[.val (.long q0), .second, .val (.int p1), .val (.int p2), .val (.int p3), .val (.int p4), .val (.long life), .second, .val (.int p8), .val (.ref se), .val (.ref ob), .val (.int kk), .unset, .unset, .unset, .unset, .unset, .unset, .unset, .unset] [])) (fun target kt => ?_) ?_
    · show Steps p.tables e below (T.setTop (mkF m 114 #[.val (.long q0), .second, .val (.int p1), .val (.int p2), .val (.int p3), .val (.int p4), .val (.long life), .second, .val (.int p8), .val (.ref se), .val (.ref ob), .val (.int kk), .unset, .unset, .unset, .unset, .unset, .unset, .unset, .unset] [(.int (2 : Int32)), (.int kk)])) _
      refine XS.icmpYes X0.here hx rfl (pc0 := 114) (pc' := 135) rfl (hb hby at_114) rfl (tlt h114_1).1 (by decide) (by decide) ?_
      exact kt
    exact blk135 C hw (padS X0 (by decide) (by decide)) e0 N0 q0 p1 p2 p3 p4 p8 ob kk ec zD zC se il en mc life cy md (by omega) E_o F_settings F_items E_se F_en E_il F_mc F_size F_life F_sent F_cy F_md F_ec S_DUE S_CLOSE Ol (by omega)
  · refine Go.pre (st' := T.setTop (mkF m 117 #[.val (.long q0), .second, .val (.int p1), .val (.int p2), .val (.int p3), .val (.int p4), .val (.long life), .second, .val (.int p8), .val (.ref se), .val (.ref ob), .val (.int kk), .unset, .unset, .unset, .unset, .unset, .unset, .unset, .unset] [])) (fun target kt => ?_) ?_
    · show Steps p.tables e below (T.setTop (mkF m 114 #[.val (.long q0), .second, .val (.int p1), .val (.int p2), .val (.int p3), .val (.int p4), .val (.long life), .second, .val (.int p8), .val (.ref se), .val (.ref ob), .val (.int kk), .unset, .unset, .unset, .unset, .unset, .unset, .unset, .unset] [(.int (2 : Int32)), (.int kk)])) _
      refine XS.icmpNo X0.here hx rfl (hb hby at_114) rfl (flt h114_1).1 ?_
      exact kt
    refine Go.pre (st' := T.setTop (mkF m 123 #[.val (.long q0), .second, .val (.int p1), .val (.int p2), .val (.int p3), .val (.int p4), .val (.long life), .second, .val (.int p8), .val (.ref se), .val (.ref ob), .val (.int kk), .unset, .unset, .unset, .unset, .unset, .unset, .unset, .unset] [(.int (p2 &&& (8 : Int32))), (.ref ob)])) (fun target kt => ?_) ?_
    · show Steps p.tables e below (T.setTop (mkF m 117 #[.val (.long q0), .second, .val (.int p1), .val (.int p2), .val (.int p3), .val (.int p4), .val (.long life), .second, .val (.int p8), .val (.ref se), .val (.ref ob), .val (.int kk), .unset, .unset, .unset, .unset, .unset, .unset, .unset, .unset] [])) _
      refine XS.aload X0.here hx rfl (hb hby at_117) rfl rfl ?_
      show Steps p.tables e below (T.setTop (mkF m 119 #[.val (.long q0), .second, .val (.int p1), .val (.int p2), .val (.int p3), .val (.int p4), .val (.long life), .second, .val (.int p8), .val (.ref se), .val (.ref ob), .val (.int kk), .unset, .unset, .unset, .unset, .unset, .unset, .unset, .unset] [(.ref ob)])) _
      refine XS.iloadN X0.here hx rfl (hb hby at_119) rfl ?_
      show Steps p.tables e below (T.setTop (mkF m 120 #[.val (.long q0), .second, .val (.int p1), .val (.int p2), .val (.int p3), .val (.int p4), .val (.long life), .second, .val (.int p8), .val (.ref se), .val (.ref ob), .val (.int kk), .unset, .unset, .unset, .unset, .unset, .unset, .unset, .unset] [(.int p2), (.ref ob)])) _
      refine XS.bipush X0.here hx rfl (hb hby at_120) ?_
      show Steps p.tables e below (T.setTop (mkF m 122 #[.val (.long q0), .second, .val (.int p1), .val (.int p2), .val (.int p3), .val (.int p4), .val (.long life), .second, .val (.int p8), .val (.ref se), .val (.ref ob), .val (.int kk), .unset, .unset, .unset, .unset, .unset, .unset, .unset, .unset] [(.int (8 : Int32)), (.int p2), (.ref ob)])) _
      refine XS.iand X0.here hx rfl (hb hby at_122) rfl ?_
      exact kt
    by_cases h123_2 : (p2 &&& (8 : Int32)) = (0 : Int32)
    · refine Go.pre (st' := T.setTop (mkF m 130 #[.val (.long q0), .second, .val (.int p1), .val (.int p2), .val (.int p3), .val (.int p4), .val (.long life), .second, .val (.int p8), .val (.ref se), .val (.ref ob), .val (.int kk), .unset, .unset, .unset, .unset, .unset, .unset, .unset, .unset] [(.ref ob)])) (fun target kt => ?_) ?_
      · show Steps p.tables e below (T.setTop (mkF m 123 #[.val (.long q0), .second, .val (.int p1), .val (.int p2), .val (.int p3), .val (.int p4), .val (.long life), .second, .val (.int p8), .val (.ref se), .val (.ref ob), .val (.int kk), .unset, .unset, .unset, .unset, .unset, .unset, .unset, .unset] [(.int (p2 &&& (8 : Int32))), (.ref ob)])) _
        refine XS.ifYes X0.here hx rfl (pc0 := 123) (pc' := 130) rfl (hb hby at_123) rfl ((if0 _ _).trans (teq h123_2).1) (by decide) (by decide) ?_
        exact kt
      refine Go.pre (st' := T.setTop (mkF m 131 #[.val (.long q0), .second, .val (.int p1), .val (.int p2), .val (.int p3), .val (.int p4), .val (.long life), .second, .val (.int p8), .val (.ref se), .val (.ref ob), .val (.int kk), .unset, .unset, .unset, .unset, .unset, .unset, .unset, .unset] [(.int (0 : Int32)), (.ref ob)])) (fun target kt => ?_) ?_
      · show Steps p.tables e below (T.setTop (mkF m 130 #[.val (.long q0), .second, .val (.int p1), .val (.int p2), .val (.int p3), .val (.int p4), .val (.long life), .second, .val (.int p8), .val (.ref se), .val (.ref ob), .val (.int kk), .unset, .unset, .unset, .unset, .unset, .unset, .unset, .unset] [(.ref ob)])) _
        refine XS.iconst X0.here hx rfl (hb hby at_130) ?_
        exact kt
      obtain ⟨cq3, kq3, q3a, q3b, q3c⟩ := isOf hZ e0 E_o
      obtain ⟨_, _, ⟨T3, L3, k3, n3⟩, -, X3, ⟨Lc3, hQ3, l3, y3, z3⟩, st3⟩ := X0.virtualBack hx (y := (⟨"com/example/pulsekeep/pulsekeep/core/Subscription", "endCycle", "(Z)Lcom/example/pulsekeep/pulsekeep/core/Subscription$CycleEnd;"⟩ : MethodName)) (z := (⟨"com/example/pulsekeep/pulsekeep/core/Subscription", "endCycle", "(Z)Lcom/example/pulsekeep/pulsekeep/core/Subscription$CycleEnd;"⟩ : MethodName)) hown (mvT hZ (hw _ (List.mem_of_getElem? (i := 115) rfl))) (mvT hZ (hw _ (List.mem_of_getElem? (i := 116) rfl))) (notFace_of_selects (args := #[]) (mvT hZ (hw _ (List.mem_of_getElem? (i := 118) rfl)))) (mvT hZ (hw _ (List.mem_of_getElem? (i := 118) rfl))) (mvT hZ (hw _ (List.mem_of_getElem? (i := 117) rfl))) (by decide) (backOf (W := 0) (rm11 l Z a0 hw [] ob (0 : Int32) se il en mc life cy md zD zC h0 n0 (by omega) E_o F_settings F_items E_se F_en E_il F_mc F_size F_life F_sent F_cy F_md S_DUE S_CLOSE Ol (by omega)) hZ (hw _ (List.mem_of_getElem? (i := 119) rfl)) (hw _ (List.mem_of_getElem? (i := 29) rfl)) (by decide) (by decide)) q3a q3c (g := (mkF m 131 #[.val (.long q0), .second, .val (.int p1), .val (.int p2), .val (.int p3), .val (.int p4), .val (.long life), .second, .val (.int p8), .val (.ref se), .val (.ref ob), .val (.int kk), .unset, .unset, .unset, .unset, .unset, .unset, .unset, .unset] [(.int (0 : Int32)), (.ref ob)])) rfl (by rw [hml]; rfl) (Steps.refl _) (argsL := [(.int (0 : Int32))]) (rest := []) (lenOf pd111_0 rfl) rfl (by show 2 * 0 + _ ≤ _; exact Nat.le_of_eq rfl) (hb hby at_131) (fun vm₁ hvm => ⟨rfl, e0, (by decide : 13 + 1 ≤ _), (by decide : 104 + 4 ≤ _)⟩)
      dsimp only [Pt.U, Pt.locs, Pt.cells, Pt.slots] at X3 l3 y3 z3 st3 hQ3
      subst l3 y3 z3
      obtain ⟨rfl, N3q, K3, KF3, Fc3, Fd3⟩ := hQ3
      have sz3 : h0.size ≤ T3.heap.size := K3.1
      have N3 := Fr.app N0 N3q
      refine Go.trans st3 ?_
      show Go p e below s _ _ _ (T3.setTop (mkF m 134 #[.val (.long q0), .second, .val (.int p1), .val (.int p2), .val (.int p3), .val (.int p4), .val (.long life), .second, .val (.int p8), .val (.ref se), .val (.ref ob), .val (.int kk), .unset, .unset, .unset, .unset, .unset, .unset, .unset, .unset] [(.ref (own_end life (own_nc (0 : Int32) cy) zD zC))]))
      refine Go.pre (st' := T3.setTop (mkF m 135 #[.val (.long q0), .second, .val (.int p1), .val (.int p2), .val (.int p3), .val (.int p4), .val (.long life), .second, .val (.int p8), .val (.ref se), .val (.ref ob), .val (.int kk), .unset, .unset, .unset, .unset, .unset, .unset, .unset, .unset] [])) (fun target kt => ?_) ?_
      · show Steps p.tables e below (T3.setTop (mkF m 134 #[.val (.long q0), .second, .val (.int p1), .val (.int p2), .val (.int p3), .val (.int p4), .val (.long life), .second, .val (.int p8), .val (.ref se), .val (.ref ob), .val (.int kk), .unset, .unset, .unset, .unset, .unset, .unset, .unset, .unset] [(.ref (own_end life (own_nc (0 : Int32) cy) zD zC))])) _
        refine XS.pop X3.here hx rfl (hb hby at_134) rfl rfl ?_
        exact kt
      have Y4 : Exa Z T3.heap ob "com/example/pulsekeep/pulsekeep/core/Subscription" := (E_o.keep K3)
      have Y5 : Fld Z T3.heap ob "com/example/pulsekeep/pulsekeep/core/Subscription" "settings" "Lcom/example/pulsekeep/pulsekeep/core/SubscriptionSettings;" (.ref se) := (KF3 _ _ _ _ _ F_settings (pallS (Or.inr (slot_ne (Or.inl (hw _ (List.mem_of_getElem? (i := 114) rfl))) (Or.inl (hw _ (List.mem_of_getElem? (i := 132) rfl))) (by decide) (t := (.object "com/example/pulsekeep/pulsekeep/core/SubscriptionSettings")) (t' := .long) (by decide) (by decide))) (pallS (Or.inr (slot_ne (Or.inl (hw _ (List.mem_of_getElem? (i := 114) rfl))) (Or.inl (hw _ (List.mem_of_getElem? (i := 139) rfl))) (by decide) (t := (.object "com/example/pulsekeep/pulsekeep/core/SubscriptionSettings")) (t' := .boolean) (by decide) (by decide))) pall0)))
      have Y6 : Fld Z T3.heap ob "com/example/pulsekeep/pulsekeep/core/Subscription" "items" "Ljava/util/List;" (.ref il) := (KF3 _ _ _ _ _ F_items (pallS (Or.inr (slot_ne (Or.inr (hw _ (List.mem_of_getElem? (i := 88) rfl))) (Or.inl (hw _ (List.mem_of_getElem? (i := 132) rfl))) (by decide) (t := (.object "java/util/List")) (t' := .long) (by decide) (by decide))) (pallS (Or.inr (slot_ne (Or.inr (hw _ (List.mem_of_getElem? (i := 88) rfl))) (Or.inl (hw _ (List.mem_of_getElem? (i := 139) rfl))) (by decide) (t := (.object "java/util/List")) (t' := .boolean) (by decide) (by decide))) pall0)))
      have Y7 : Exa Z T3.heap se "com/example/pulsekeep/pulsekeep/core/SubscriptionSettings" := (E_se.keep K3)
      have Y8 : Fld Z T3.heap se "com/example/pulsekeep/pulsekeep/core/SubscriptionSettings" "publishingEnabled" "Z" (.int en) := (F_en.keep K3 (ninS (ne_exa E_se E_o (by decide)) nin0))
      have Y9 : Exa Z T3.heap il "java/util/ArrayList" := (E_il.keep K3)
      have Y10 : Fld Z T3.heap il "java/util/AbstractList" "modCount" "I" (.int mc) := (F_mc.keep K3 (ninS (ne_exa E_il E_o (by decide)) nin0))
      have Y11 : Fld Z T3.heap il "java/util/ArrayList" "size" "I" (.int (0 : Int32)) := (F_size.keep K3 (ninS (ne_exa E_il E_o (by decide)) nin0))
      have Y12 : Fld Z T3.heap se "com/example/pulsekeep/pulsekeep/core/SubscriptionSettings" "lifetimeCount" "J" (.long life) := (F_life.keep K3 (ninS (ne_exa E_se E_o (by decide)) nin0))
      have Y13 : Fld Z T3.heap ob "com/example/pulsekeep/pulsekeep/core/Subscription" "messageSent" "Z" (.int (0 : Int32)) := (KF3 _ _ _ _ _ F_sent (pallS (Or.inr (slot_ne (Or.inl (hw _ (List.mem_of_getElem? (i := 130) rfl))) (Or.inl (hw _ (List.mem_of_getElem? (i := 132) rfl))) (by decide) (t := .boolean) (t' := .long) (by decide) (by decide))) (pallS (Or.inr (slot_ne (Or.inl (hw _ (List.mem_of_getElem? (i := 130) rfl))) (Or.inl (hw _ (List.mem_of_getElem? (i := 139) rfl))) (by decide) (t := .boolean) (t' := .boolean) (by decide) (by decide))) pall0)))
      have Y14 : Fld Z T3.heap ob "com/example/pulsekeep/pulsekeep/core/Subscription" "emptyCycles" "J" (.long ec) := (KF3 _ _ _ _ _ F_ec (pallS (Or.inr (slot_ne (Or.inl (hw _ (List.mem_of_getElem? (i := 149) rfl))) (Or.inl (hw _ (List.mem_of_getElem? (i := 132) rfl))) (by decide) (t := .long) (t' := .long) (by decide) (by decide))) (pallS (Or.inr (slot_ne (Or.inl (hw _ (List.mem_of_getElem? (i := 149) rfl))) (Or.inl (hw _ (List.mem_of_getElem? (i := 139) rfl))) (by decide) (t := .long) (t' := .boolean) (by decide) (by decide))) pall0)))
      have Y15 : Old Z n0 T3.heap := (Ol.keep K3 (allS (by omega) all0))
      exact blk135 C hw X3 rfl N3 q0 p1 p2 p3 p4 p8 ob kk ec zD zC se il en mc life (own_nc (0 : Int32) cy) (own_due life (own_nc (0 : Int32) cy) md) (by omega) Y4 Y5 Y6 Y7 Y8 Y9 Y10 Y11 Y12 Y13 Fc3 Fd3 Y14 S_DUE S_CLOSE Y15 (by omega)
    · refine Go.pre (st' := T.setTop (mkF m 126 #[.val (.long q0), .second, .val (.int p1), .val (.int p2), .val (.int p3), .val (.int p4), .val (.long life), .second, .val (.int p8), .val (.ref se), .val (.ref ob), .val (.int kk), .unset, .unset, .unset, .unset, .unset, .unset, .unset, .unset] [(.ref ob)])) (fun target kt => ?_) ?_
      · show Steps p.tables e below (T.setTop (mkF m 123 #[.val (.long q0), .second, .val (.int p1), .val (.int p2), .val (.int p3), .val (.int p4), .val (.long life), .second, .val (.int p8), .val (.ref se), .val (.ref ob), .val (.int kk), .unset, .unset, .unset, .unset, .unset, .unset, .unset, .unset] [(.int (p2 &&& (8 : Int32))), (.ref ob)])) _
        refine XS.ifNo X0.here hx rfl (hb hby at_123) rfl ((if0 _ _).trans (feq h123_2).1) ?_
        exact kt
      refine Go.pre (st' := T.setTop (mkF m 131 #[.val (.long q0), .second, .val (.int p1), .val (.int p2), .val (.int p3), .val (.int p4), .val (.long life), .second, .val (.int p8), .val (.ref se), .val (.ref ob), .val (.int kk), .unset, .unset, .unset, .unset, .unset, .unset, .unset, .unset] [(.int (1 : Int32)), (.ref ob)])) (fun target kt => ?_) ?_
      · show Steps p.tables e below (T.setTop (mkF m 126 #[.val (.long q0), .second, .val (.int p1), .val (.int p2), .val (.int p3), .val (.int p4), .val (.long life), .second, .val (.int p8), .val (.ref se), .val (.ref ob), .val (.int kk), .unset, .unset, .unset, .unset, .unset, .unset, .unset, .unset] [(.ref ob)])) _
        refine XS.iconst X0.here hx rfl (hb hby at_126) ?_
        show Steps p.tables e below (T.setTop (mkF m 127 #[.val (.long q0), .second, .val (.int p1), .val (.int p2), .val (.int p3), .val (.int p4), .val (.long life), .second, .val (.int p8), .val (.ref se), .val (.ref ob), .val (.int kk), .unset, .unset, .unset, .unset, .unset, .unset, .unset, .unset] [(.int (1 : Int32)), (.ref ob)])) _
        refine XS.goto X0.here hx rfl (pc0 := 127) (pc' := 131) rfl (hb hby at_127) (by decide) (by decide) ?_
        exact kt
      obtain ⟨cq16, kq16, q16a, q16b, q16c⟩ := isOf hZ e0 E_o
      obtain ⟨_, _, ⟨T16, L16, k16, n16⟩, -, X16, ⟨Lc16, hQ16, l16, y16, z16⟩, st16⟩ := X0.virtualBack hx (y := (⟨"com/example/pulsekeep/pulsekeep/core/Subscription", "endCycle", "(Z)Lcom/example/pulsekeep/pulsekeep/core/Subscription$CycleEnd;"⟩ : MethodName)) (z := (⟨"com/example/pulsekeep/pulsekeep/core/Subscription", "endCycle", "(Z)Lcom/example/pulsekeep/pulsekeep/core/Subscription$CycleEnd;"⟩ : MethodName)) hown (mvT hZ (hw _ (List.mem_of_getElem? (i := 115) rfl))) (mvT hZ (hw _ (List.mem_of_getElem? (i := 116) rfl))) (notFace_of_selects (args := #[]) (mvT hZ (hw _ (List.mem_of_getElem? (i := 118) rfl)))) (mvT hZ (hw _ (List.mem_of_getElem? (i := 118) rfl))) (mvT hZ (hw _ (List.mem_of_getElem? (i := 117) rfl))) (by decide) (backOf (W := 0) (rm11 l Z a0 hw [] ob (1 : Int32) se il en mc life cy md zD zC h0 n0 (by omega) E_o F_settings F_items E_se F_en E_il F_mc F_size F_life F_sent F_cy F_md S_DUE S_CLOSE Ol (by omega)) hZ (hw _ (List.mem_of_getElem? (i := 119) rfl)) (hw _ (List.mem_of_getElem? (i := 29) rfl)) (by decide) (by decide)) q16a q16c (g := (mkF m 131 #[.val (.long q0), .second, .val (.int p1), .val (.int p2), .val (.int p3), .val (.int p4), .val (.long life), .second, .val (.int p8), .val (.ref se), .val (.ref ob), .val (.int kk), .unset, .unset, .unset, .unset, .unset, .unset, .unset, .unset] [(.int (1 : Int32)), (.ref ob)])) rfl (by rw [hml]; rfl) (Steps.refl _) (argsL := [(.int (1 : Int32))]) (rest := []) (lenOf pd111_0 rfl) rfl (by show 2 * 0 + _ ≤ _; exact Nat.le_of_eq rfl) (hb hby at_131) (fun vm₁ hvm => ⟨rfl, e0, (by decide : 13 + 1 ≤ _), (by decide : 104 + 4 ≤ _)⟩)
      dsimp only [Pt.U, Pt.locs, Pt.cells, Pt.slots] at X16 l16 y16 z16 st16 hQ16
      subst l16 y16 z16
      obtain ⟨rfl, N16q, K16, KF16, Fc16, Fd16⟩ := hQ16
      have sz16 : h0.size ≤ T16.heap.size := K16.1
      have N16 := Fr.app N0 N16q
      refine Go.trans st16 ?_
      show Go p e below s _ _ _ (T16.setTop (mkF m 134 #[.val (.long q0), .second, .val (.int p1), .val (.int p2), .val (.int p3), .val (.int p4), .val (.long life), .second, .val (.int p8), .val (.ref se), .val (.ref ob), .val (.int kk), .unset, .unset, .unset, .unset, .unset, .unset, .unset, .unset] [(.ref (own_end life (own_nc (1 : Int32) cy) zD zC))]))
      refine Go.pre (st' := T16.setTop (mkF m 135 #[.val (.long q0), .second, .val (.int p1), .val (.int p2), .val (.int p3), .val (.int p4), .val (.long life), .second, .val (.int p8), .val (.ref se), .val (.ref ob), .val (.int kk), .unset, .unset, .unset, .unset, .unset, .unset, .unset, .unset] [])) (fun target kt => ?_) ?_
      · show Steps p.tables e below (T16.setTop (mkF m 134 #[.val (.long q0), .second, .val (.int p1), .val (.int p2), .val (.int p3), .val (.int p4), .val (.long life), .second, .val (.int p8), .val (.ref se), .val (.ref ob), .val (.int kk), .unset, .unset, .unset, .unset, .unset, .unset, .unset, .unset] [(.ref (own_end life (own_nc (1 : Int32) cy) zD zC))])) _
        refine XS.pop X16.here hx rfl (hb hby at_134) rfl rfl ?_
        exact kt
      have Y17 : Exa Z T16.heap ob "com/example/pulsekeep/pulsekeep/core/Subscription" := (E_o.keep K16)
      have Y18 : Fld Z T16.heap ob "com/example/pulsekeep/pulsekeep/core/Subscription" "settings" "Lcom/example/pulsekeep/pulsekeep/core/SubscriptionSettings;" (.ref se) := (KF16 _ _ _ _ _ F_settings (pallS (Or.inr (slot_ne (Or.inl (hw _ (List.mem_of_getElem? (i := 114) rfl))) (Or.inl (hw _ (List.mem_of_getElem? (i := 132) rfl))) (by decide) (t := (.object "com/example/pulsekeep/pulsekeep/core/SubscriptionSettings")) (t' := .long) (by decide) (by decide))) (pallS (Or.inr (slot_ne (Or.inl (hw _ (List.mem_of_getElem? (i := 114) rfl))) (Or.inl (hw _ (List.mem_of_getElem? (i := 139) rfl))) (by decide) (t := (.object "com/example/pulsekeep/pulsekeep/core/SubscriptionSettings")) (t' := .boolean) (by decide) (by decide))) pall0)))
      have Y19 : Fld Z T16.heap ob "com/example/pulsekeep/pulsekeep/core/Subscription" "items" "Ljava/util/List;" (.ref il) := (KF16 _ _ _ _ _ F_items (pallS (Or.inr (slot_ne (Or.inr (hw _ (List.mem_of_getElem? (i := 88) rfl))) (Or.inl (hw _ (List.mem_of_getElem? (i := 132) rfl))) (by decide) (t := (.object "java/util/List")) (t' := .long) (by decide) (by decide))) (pallS (Or.inr (slot_ne (Or.inr (hw _ (List.mem_of_getElem? (i := 88) rfl))) (Or.inl (hw _ (List.mem_of_getElem? (i := 139) rfl))) (by decide) (t := (.object "java/util/List")) (t' := .boolean) (by decide) (by decide))) pall0)))
      have Y20 : Exa Z T16.heap se "com/example/pulsekeep/pulsekeep/core/SubscriptionSettings" := (E_se.keep K16)
      have Y21 : Fld Z T16.heap se "com/example/pulsekeep/pulsekeep/core/SubscriptionSettings" "publishingEnabled" "Z" (.int en) := (F_en.keep K16 (ninS (ne_exa E_se E_o (by decide)) nin0))
      have Y22 : Exa Z T16.heap il "java/util/ArrayList" := (E_il.keep K16)
      have Y23 : Fld Z T16.heap il "java/util/AbstractList" "modCount" "I" (.int mc) := (F_mc.keep K16 (ninS (ne_exa E_il E_o (by decide)) nin0))
      have Y24 : Fld Z T16.heap il "java/util/ArrayList" "size" "I" (.int (0 : Int32)) := (F_size.keep K16 (ninS (ne_exa E_il E_o (by decide)) nin0))
      have Y25 : Fld Z T16.heap se "com/example/pulsekeep/pulsekeep/core/SubscriptionSettings" "lifetimeCount" "J" (.long life) := (F_life.keep K16 (ninS (ne_exa E_se E_o (by decide)) nin0))
      have Y26 : Fld Z T16.heap ob "com/example/pulsekeep/pulsekeep/core/Subscription" "messageSent" "Z" (.int (0 : Int32)) := (KF16 _ _ _ _ _ F_sent (pallS (Or.inr (slot_ne (Or.inl (hw _ (List.mem_of_getElem? (i := 130) rfl))) (Or.inl (hw _ (List.mem_of_getElem? (i := 132) rfl))) (by decide) (t := .boolean) (t' := .long) (by decide) (by decide))) (pallS (Or.inr (slot_ne (Or.inl (hw _ (List.mem_of_getElem? (i := 130) rfl))) (Or.inl (hw _ (List.mem_of_getElem? (i := 139) rfl))) (by decide) (t := .boolean) (t' := .boolean) (by decide) (by decide))) pall0)))
      have Y27 : Fld Z T16.heap ob "com/example/pulsekeep/pulsekeep/core/Subscription" "emptyCycles" "J" (.long ec) := (KF16 _ _ _ _ _ F_ec (pallS (Or.inr (slot_ne (Or.inl (hw _ (List.mem_of_getElem? (i := 149) rfl))) (Or.inl (hw _ (List.mem_of_getElem? (i := 132) rfl))) (by decide) (t := .long) (t' := .long) (by decide) (by decide))) (pallS (Or.inr (slot_ne (Or.inl (hw _ (List.mem_of_getElem? (i := 149) rfl))) (Or.inl (hw _ (List.mem_of_getElem? (i := 139) rfl))) (by decide) (t := .long) (t' := .boolean) (by decide) (by decide))) pall0)))
      have Y28 : Old Z n0 T16.heap := (Ol.keep K16 (allS (by omega) all0))
      exact blk135 C hw X16 rfl N16 q0 p1 p2 p3 p4 p8 ob kk ec zD zC se il en mc life (own_nc (1 : Int32) cy) (own_due life (own_nc (1 : Int32) cy) md) (by omega) Y17 Y18 Y19 Y20 Y21 Y22 Y23 Y24 Y25 Y26 Fc16 Fd16 Y27 S_DUE S_CLOSE Y28 (by omega)
theorem pd88_0 : parseMethodDescriptor "(Z)Lcom/example/pulsekeep/pulsekeep/core/Subscription$CycleEnd;" = some ⟨[.boolean], some (.object "com/example/pulsekeep/pulsekeep/core/Subscription$CycleEnd")⟩ := by decide +kernel
set_option maxRecDepth 65536 in
set_option maxHeartbeats 40000000 in
theorem blk88 {p : Program} {l : Launch} {e : Env} {s : State} {m : MethodId} {args : Array Value} {below : List Frame} {meth : Method} {c : Code} {Z : State} {a0 : Array Value} {T : State} {locs : List Loc} {h0 : Heap} {n0 : Nat} (C : Ctx p s m meth c Z code 20 "com/example/pulsekeep/pulsekeep/core/SubscriptionStartAgainPinLaw" (some .boolean)) (hw : ∀ d ∈ tables_1, d.before a0 Z = true)
    (X0 : Stand p l e room_1 s m args below meth c T locs 12 100) (e0 : T.heap = h0) (N0 : Fr n0 locs) (q0 : Int64) (p1 : Int32) (p2 : Int32) (p3 : Int32) (p4 : Int32) (p8 : Int32) (ob : Addr) (kk : Int32) (ec : Int64) (zD : Addr) (zC : Addr) (se : Addr) (il : Addr) (en : Int32) (mc : Int32) (life : Int64) (cy : Int64) (md : Int32) (Z0 : n0 ≤ h0.size) (E_o : Exa Z h0 ob "com/example/pulsekeep/pulsekeep/core/Subscription") (F_settings : Fld Z h0 ob "com/example/pulsekeep/pulsekeep/core/Subscription" "settings" "Lcom/example/pulsekeep/pulsekeep/core/SubscriptionSettings;" (.ref se)) (F_items : Fld Z h0 ob "com/example/pulsekeep/pulsekeep/core/Subscription" "items" "Ljava/util/List;" (.ref il)) (E_se : Exa Z h0 se "com/example/pulsekeep/pulsekeep/core/SubscriptionSettings") (F_en : Fld Z h0 se "com/example/pulsekeep/pulsekeep/core/SubscriptionSettings" "publishingEnabled" "Z" (.int en)) (E_il : Exa Z h0 il "java/util/ArrayList") (F_mc : Fld Z h0 il "java/util/AbstractList" "modCount" "I" (.int mc)) (F_size : Fld Z h0 il "java/util/ArrayList" "size" "I" (.int (0 : Int32))) (F_life : Fld Z h0 se "com/example/pulsekeep/pulsekeep/core/SubscriptionSettings" "lifetimeCount" "J" (.long life)) (F_sent : Fld Z h0 ob "com/example/pulsekeep/pulsekeep/core/Subscription" "messageSent" "Z" (.int (0 : Int32))) (F_cy : Fld Z h0 ob "com/example/pulsekeep/pulsekeep/core/Subscription" "cyclesWithoutRequest" "J" (.long cy)) (F_md : Fld Z h0 ob "com/example/pulsekeep/pulsekeep/core/Subscription" "messageDue" "Z" (.int md)) (F_ec : Fld Z h0 ob "com/example/pulsekeep/pulsekeep/core/Subscription" "emptyCycles" "J" (.long ec)) (S_DUE : Sta Z Z.heap "com/example/pulsekeep/pulsekeep/core/Subscription$CycleEnd" "DUE" "Lcom/example/pulsekeep/pulsekeep/core/Subscription$CycleEnd;" (.ref zD)) (S_CLOSE : Sta Z Z.heap "com/example/pulsekeep/pulsekeep/core/Subscription$CycleEnd" "CLOSE" "Lcom/example/pulsekeep/pulsekeep/core/Subscription$CycleEnd;" (.ref zC)) (Ol : Old Z n0 h0) (g_ob : n0 ≤ ob) :
    Go p e below s 48 320 (fun v h L => v = some (.int 1) ∧ Fr n0 L) (T.setTop (mkF m 88 #[.val (.long q0), .second, .val (.int p1), .val (.int p2), .val (.int p3), .val (.int p4), .val (.long life), .second, .val (.int p8), .val (.ref se), .val (.ref ob), .val (.int kk), .unset, .unset, .unset, .unset, .unset, .unset, .unset, .unset] [])) := by
  obtain ⟨hx, hZ, hby, hml, hown, hrt, hlk⟩ := id C
  have lt_E_o : LT.lt (α := Nat) ob h0.size := E_o.lt
  have lt_F_settings : LT.lt (α := Nat) ob h0.size := F_settings.lt
  have lt_F_items : LT.lt (α := Nat) ob h0.size := F_items.lt
  have lt_E_se : LT.lt (α := Nat) se h0.size := E_se.lt
  have lt_F_en : LT.lt (α := Nat) se h0.size := F_en.lt
  have lt_E_il : LT.lt (α := Nat) il h0.size := E_il.lt
  have lt_F_mc : LT.lt (α := Nat) il h0.size := F_mc.lt
  have lt_F_size : LT.lt (α := Nat) il h0.size := F_size.lt
  have lt_F_life : LT.lt (α := Nat) se h0.size := F_life.lt
  have lt_F_sent : LT.lt (α := Nat) ob h0.size := F_sent.lt
  have lt_F_cy : LT.lt (α := Nat) ob h0.size := F_cy.lt
  have lt_F_md : LT.lt (α := Nat) ob h0.size := F_md.lt
  have lt_F_ec : LT.lt (α := Nat) ob h0.size := F_ec.lt
  refine Go.pre (st' := T.setTop (mkF m 91 #[.val (.long q0), .second, .val (.int p1), .val (.int p2), .val (.int p3), .val (.int p4), .val (.long life), .second, .val (.int p8), .val (.ref se), .val (.ref ob), .val (.int kk), .unset, .unset, .unset, .unset, .unset, .unset, .unset, .unset] [(.int (1 : Int32)), (.int kk)])) (fun target kt => ?_) ?_
  · show Steps p.tables e below (T.setTop (mkF m 88 #[.val (.long q0), .second, .val (.int p1), .val (.int p2), .val (.int p3), .val (.int p4), .val (.long life), .second, .val (.int p8), .val (.ref se), .val (.ref ob), .val (.int kk), .unset, .unset, .unset, .unset, .unset, .unset, .unset, .unset] [])) _
    refine XS.iload X0.here hx rfl (hb hby at_88) rfl ?_
    show Steps p.tables e below (T.setTop (mkF m 90 #[.val (.long q0), .second, .val (.int p1), .val (.int p2), .val (.int p3), .val (.int p4), .val (.long life), .second, .val (.int p8), .val (.ref se), .val (.ref ob), .val (.int kk), .unset, .unset, .unset, .unset, .unset, .unset, .unset, .unset] [(.int kk)])) _
    refine XS.iconst X0.here hx rfl (hb hby at_90) ?_
    exact kt
  by_cases h91_1 : kk < (1 : Int32)
  · refine Go.pre (st' := T.setTop (mkF m 111 #[.val (.long q0), .second, .val (.int p1), .val (.int p2), .val (.int p3), .val (.int p4), .val (.long life), .second, .val (.int p8), .val (.ref se), .val (.ref ob), .val (.int kk), .unset, .unset, .unset, .unset, .unset, .unset, .unset, .unset] [])) (fun target kt => ?_) ?_
    · show Steps p.tables e below (T.setTop (mkF m 91 #[.val (.long q0), .second, .val (.int p1), .val (.int p2), .val (.int p3), .val (.int p4), .val (.long life), .second, .val (.int p8), .val (.ref se), .val (.ref ob), .val (.int kk), .unset, .unset, .unset, .unset, .unset, .unset, .unset, .unset] [(.int (1 : Int32)), (.int kk)])) _
      refine XS.icmpYes X0.here hx rfl (pc0 := 91) (pc' := 111) rfl (hb hby at_91) rfl (tlt h91_1).1 (by decide) (by decide) ?_
      exact kt
    exact blk111 C hw (padS X0 (by decide) (by decide)) e0 N0 q0 p1 p2 p3 p4 p8 ob kk ec zD zC se il en mc life cy md (by omega) E_o F_settings F_items E_se F_en E_il F_mc F_size F_life F_sent F_cy F_md F_ec S_DUE S_CLOSE Ol (by omega)
  · refine Go.pre (st' := T.setTop (mkF m 94 #[.val (.long q0), .second, .val (.int p1), .val (.int p2), .val (.int p3), .val (.int p4), .val (.long life), .second, .val (.int p8), .val (.ref se), .val (.ref ob), .val (.int kk), .unset, .unset, .unset, .unset, .unset, .unset, .unset, .unset] [])) (fun target kt => ?_) ?_
    · show Steps p.tables e below (T.setTop (mkF m 91 #[.val (.long q0), .second, .val (.int p1), .val (.int p2), .val (.int p3), .val (.int p4), .val (.long life), .second, .val (.int p8), .val (.ref se), .val (.ref ob), .val (.int kk), .unset, .unset, .unset, .unset, .unset, .unset, .unset, .unset] [(.int (1 : Int32)), (.int kk)])) _
      refine XS.icmpNo X0.here hx rfl (hb hby at_91) rfl (flt h91_1).1 ?_
      exact kt
    refine Go.pre (st' := T.setTop (mkF m 99 #[.val (.long q0), .second, .val (.int p1), .val (.int p2), .val (.int p3), .val (.int p4), .val (.long life), .second, .val (.int p8), .val (.ref se), .val (.ref ob), .val (.int kk), .unset, .unset, .unset, .unset, .unset, .unset, .unset, .unset] [(.int (p2 &&& (4 : Int32))), (.ref ob)])) (fun target kt => ?_) ?_
    · show Steps p.tables e below (T.setTop (mkF m 94 #[.val (.long q0), .second, .val (.int p1), .val (.int p2), .val (.int p3), .val (.int p4), .val (.long life), .second, .val (.int p8), .val (.ref se), .val (.ref ob), .val (.int kk), .unset, .unset, .unset, .unset, .unset, .unset, .unset, .unset] [])) _
      refine XS.aload X0.here hx rfl (hb hby at_94) rfl rfl ?_
      show Steps p.tables e below (T.setTop (mkF m 96 #[.val (.long q0), .second, .val (.int p1), .val (.int p2), .val (.int p3), .val (.int p4), .val (.long life), .second, .val (.int p8), .val (.ref se), .val (.ref ob), .val (.int kk), .unset, .unset, .unset, .unset, .unset, .unset, .unset, .unset] [(.ref ob)])) _
      refine XS.iloadN X0.here hx rfl (hb hby at_96) rfl ?_
      show Steps p.tables e below (T.setTop (mkF m 97 #[.val (.long q0), .second, .val (.int p1), .val (.int p2), .val (.int p3), .val (.int p4), .val (.long life), .second, .val (.int p8), .val (.ref se), .val (.ref ob), .val (.int kk), .unset, .unset, .unset, .unset, .unset, .unset, .unset, .unset] [(.int p2), (.ref ob)])) _
      refine XS.iconst X0.here hx rfl (hb hby at_97) ?_
      show Steps p.tables e below (T.setTop (mkF m 98 #[.val (.long q0), .second, .val (.int p1), .val (.int p2), .val (.int p3), .val (.int p4), .val (.long life), .second, .val (.int p8), .val (.ref se), .val (.ref ob), .val (.int kk), .unset, .unset, .unset, .unset, .unset, .unset, .unset, .unset] [(.int (4 : Int32)), (.int p2), (.ref ob)])) _
      refine XS.iand X0.here hx rfl (hb hby at_98) rfl ?_
      exact kt
    by_cases h99_2 : (p2 &&& (4 : Int32)) = (0 : Int32)
    · refine Go.pre (st' := T.setTop (mkF m 106 #[.val (.long q0), .second, .val (.int p1), .val (.int p2), .val (.int p3), .val (.int p4), .val (.long life), .second, .val (.int p8), .val (.ref se), .val (.ref ob), .val (.int kk), .unset, .unset, .unset, .unset, .unset, .unset, .unset, .unset] [(.ref ob)])) (fun target kt => ?_) ?_
      · show Steps p.tables e below (T.setTop (mkF m 99 #[.val (.long q0), .second, .val (.int p1), .val (.int p2), .val (.int p3), .val (.int p4), .val (.long life), .second, .val (.int p8), .val (.ref se), .val (.ref ob), .val (.int kk), .unset, .unset, .unset, .unset, .unset, .unset, .unset, .unset] [(.int (p2 &&& (4 : Int32))), (.ref ob)])) _
        refine XS.ifYes X0.here hx rfl (pc0 := 99) (pc' := 106) rfl (hb hby at_99) rfl ((if0 _ _).trans (teq h99_2).1) (by decide) (by decide) ?_
        exact kt
      refine Go.pre (st' := T.setTop (mkF m 107 #[.val (.long q0), .second, .val (.int p1), .val (.int p2), .val (.int p3), .val (.int p4), .val (.long life), .second, .val (.int p8), .val (.ref se), .val (.ref ob), .val (.int kk), .unset, .unset, .unset, .unset, .unset, .unset, .unset, .unset] [(.int (0 : Int32)), (.ref ob)])) (fun target kt => ?_) ?_
      · show Steps p.tables e below (T.setTop (mkF m 106 #[.val (.long q0), .second, .val (.int p1), .val (.int p2), .val (.int p3), .val (.int p4), .val (.long life), .second, .val (.int p8), .val (.ref se), .val (.ref ob), .val (.int kk), .unset, .unset, .unset, .unset, .unset, .unset, .unset, .unset] [(.ref ob)])) _
        refine XS.iconst X0.here hx rfl (hb hby at_106) ?_
        exact kt
      obtain ⟨cq3, kq3, q3a, q3b, q3c⟩ := isOf hZ e0 E_o
      obtain ⟨_, _, ⟨T3, L3, k3, n3⟩, -, X3, ⟨Lc3, hQ3, l3, y3, z3⟩, st3⟩ := X0.virtualBack hx (y := (⟨"com/example/pulsekeep/pulsekeep/core/Subscription", "endCycle", "(Z)Lcom/example/pulsekeep/pulsekeep/core/Subscription$CycleEnd;"⟩ : MethodName)) (z := (⟨"com/example/pulsekeep/pulsekeep/core/Subscription", "endCycle", "(Z)Lcom/example/pulsekeep/pulsekeep/core/Subscription$CycleEnd;"⟩ : MethodName)) hown (mvT hZ (hw _ (List.mem_of_getElem? (i := 115) rfl))) (mvT hZ (hw _ (List.mem_of_getElem? (i := 116) rfl))) (notFace_of_selects (args := #[]) (mvT hZ (hw _ (List.mem_of_getElem? (i := 118) rfl)))) (mvT hZ (hw _ (List.mem_of_getElem? (i := 118) rfl))) (mvT hZ (hw _ (List.mem_of_getElem? (i := 117) rfl))) (by decide) (backOf (W := 0) (rm11 l Z a0 hw [] ob (0 : Int32) se il en mc life cy md zD zC h0 n0 (by omega) E_o F_settings F_items E_se F_en E_il F_mc F_size F_life F_sent F_cy F_md S_DUE S_CLOSE Ol (by omega)) hZ (hw _ (List.mem_of_getElem? (i := 119) rfl)) (hw _ (List.mem_of_getElem? (i := 29) rfl)) (by decide) (by decide)) q3a q3c (g := (mkF m 107 #[.val (.long q0), .second, .val (.int p1), .val (.int p2), .val (.int p3), .val (.int p4), .val (.long life), .second, .val (.int p8), .val (.ref se), .val (.ref ob), .val (.int kk), .unset, .unset, .unset, .unset, .unset, .unset, .unset, .unset] [(.int (0 : Int32)), (.ref ob)])) rfl (by rw [hml]; rfl) (Steps.refl _) (argsL := [(.int (0 : Int32))]) (rest := []) (lenOf pd88_0 rfl) rfl (by show 2 * 0 + _ ≤ _; exact Nat.le_of_eq rfl) (hb hby at_107) (fun vm₁ hvm => ⟨rfl, e0, (by decide : 12 + 1 ≤ _), (by decide : 100 + 4 ≤ _)⟩)
      dsimp only [Pt.U, Pt.locs, Pt.cells, Pt.slots] at X3 l3 y3 z3 st3 hQ3
      subst l3 y3 z3
      obtain ⟨rfl, N3q, K3, KF3, Fc3, Fd3⟩ := hQ3
      have sz3 : h0.size ≤ T3.heap.size := K3.1
      have N3 := Fr.app N0 N3q
      refine Go.trans st3 ?_
      show Go p e below s _ _ _ (T3.setTop (mkF m 110 #[.val (.long q0), .second, .val (.int p1), .val (.int p2), .val (.int p3), .val (.int p4), .val (.long life), .second, .val (.int p8), .val (.ref se), .val (.ref ob), .val (.int kk), .unset, .unset, .unset, .unset, .unset, .unset, .unset, .unset] [(.ref (own_end life (own_nc (0 : Int32) cy) zD zC))]))
      refine Go.pre (st' := T3.setTop (mkF m 111 #[.val (.long q0), .second, .val (.int p1), .val (.int p2), .val (.int p3), .val (.int p4), .val (.long life), .second, .val (.int p8), .val (.ref se), .val (.ref ob), .val (.int kk), .unset, .unset, .unset, .unset, .unset, .unset, .unset, .unset] [])) (fun target kt => ?_) ?_
      · show Steps p.tables e below (T3.setTop (mkF m 110 #[.val (.long q0), .second, .val (.int p1), .val (.int p2), .val (.int p3), .val (.int p4), .val (.long life), .second, .val (.int p8), .val (.ref se), .val (.ref ob), .val (.int kk), .unset, .unset, .unset, .unset, .unset, .unset, .unset, .unset] [(.ref (own_end life (own_nc (0 : Int32) cy) zD zC))])) _
        refine XS.pop X3.here hx rfl (hb hby at_110) rfl rfl ?_
        exact kt
      have Y4 : Exa Z T3.heap ob "com/example/pulsekeep/pulsekeep/core/Subscription" := (E_o.keep K3)
      have Y5 : Fld Z T3.heap ob "com/example/pulsekeep/pulsekeep/core/Subscription" "settings" "Lcom/example/pulsekeep/pulsekeep/core/SubscriptionSettings;" (.ref se) := (KF3 _ _ _ _ _ F_settings (pallS (Or.inr (slot_ne (Or.inl (hw _ (List.mem_of_getElem? (i := 114) rfl))) (Or.inl (hw _ (List.mem_of_getElem? (i := 132) rfl))) (by decide) (t := (.object "com/example/pulsekeep/pulsekeep/core/SubscriptionSettings")) (t' := .long) (by decide) (by decide))) (pallS (Or.inr (slot_ne (Or.inl (hw _ (List.mem_of_getElem? (i := 114) rfl))) (Or.inl (hw _ (List.mem_of_getElem? (i := 139) rfl))) (by decide) (t := (.object "com/example/pulsekeep/pulsekeep/core/SubscriptionSettings")) (t' := .boolean) (by decide) (by decide))) pall0)))
      have Y6 : Fld Z T3.heap ob "com/example/pulsekeep/pulsekeep/core/Subscription" "items" "Ljava/util/List;" (.ref il) := (KF3 _ _ _ _ _ F_items (pallS (Or.inr (slot_ne (Or.inr (hw _ (List.mem_of_getElem? (i := 88) rfl))) (Or.inl (hw _ (List.mem_of_getElem? (i := 132) rfl))) (by decide) (t := (.object "java/util/List")) (t' := .long) (by decide) (by decide))) (pallS (Or.inr (slot_ne (Or.inr (hw _ (List.mem_of_getElem? (i := 88) rfl))) (Or.inl (hw _ (List.mem_of_getElem? (i := 139) rfl))) (by decide) (t := (.object "java/util/List")) (t' := .boolean) (by decide) (by decide))) pall0)))
      have Y7 : Exa Z T3.heap se "com/example/pulsekeep/pulsekeep/core/SubscriptionSettings" := (E_se.keep K3)
      have Y8 : Fld Z T3.heap se "com/example/pulsekeep/pulsekeep/core/SubscriptionSettings" "publishingEnabled" "Z" (.int en) := (F_en.keep K3 (ninS (ne_exa E_se E_o (by decide)) nin0))
      have Y9 : Exa Z T3.heap il "java/util/ArrayList" := (E_il.keep K3)
      have Y10 : Fld Z T3.heap il "java/util/AbstractList" "modCount" "I" (.int mc) := (F_mc.keep K3 (ninS (ne_exa E_il E_o (by decide)) nin0))
      have Y11 : Fld Z T3.heap il "java/util/ArrayList" "size" "I" (.int (0 : Int32)) := (F_size.keep K3 (ninS (ne_exa E_il E_o (by decide)) nin0))
      have Y12 : Fld Z T3.heap se "com/example/pulsekeep/pulsekeep/core/SubscriptionSettings" "lifetimeCount" "J" (.long life) := (F_life.keep K3 (ninS (ne_exa E_se E_o (by decide)) nin0))
      have Y13 : Fld Z T3.heap ob "com/example/pulsekeep/pulsekeep/core/Subscription" "messageSent" "Z" (.int (0 : Int32)) := (KF3 _ _ _ _ _ F_sent (pallS (Or.inr (slot_ne (Or.inl (hw _ (List.mem_of_getElem? (i := 130) rfl))) (Or.inl (hw _ (List.mem_of_getElem? (i := 132) rfl))) (by decide) (t := .boolean) (t' := .long) (by decide) (by decide))) (pallS (Or.inr (slot_ne (Or.inl (hw _ (List.mem_of_getElem? (i := 130) rfl))) (Or.inl (hw _ (List.mem_of_getElem? (i := 139) rfl))) (by decide) (t := .boolean) (t' := .boolean) (by decide) (by decide))) pall0)))
      have Y14 : Fld Z T3.heap ob "com/example/pulsekeep/pulsekeep/core/Subscription" "emptyCycles" "J" (.long ec) := (KF3 _ _ _ _ _ F_ec (pallS (Or.inr (slot_ne (Or.inl (hw _ (List.mem_of_getElem? (i := 149) rfl))) (Or.inl (hw _ (List.mem_of_getElem? (i := 132) rfl))) (by decide) (t := .long) (t' := .long) (by decide) (by decide))) (pallS (Or.inr (slot_ne (Or.inl (hw _ (List.mem_of_getElem? (i := 149) rfl))) (Or.inl (hw _ (List.mem_of_getElem? (i := 139) rfl))) (by decide) (t := .long) (t' := .boolean) (by decide) (by decide))) pall0)))
      have Y15 : Old Z n0 T3.heap := (Ol.keep K3 (allS (by omega) all0))
      exact blk111 C hw X3 rfl N3 q0 p1 p2 p3 p4 p8 ob kk ec zD zC se il en mc life (own_nc (0 : Int32) cy) (own_due life (own_nc (0 : Int32) cy) md) (by omega) Y4 Y5 Y6 Y7 Y8 Y9 Y10 Y11 Y12 Y13 Fc3 Fd3 Y14 S_DUE S_CLOSE Y15 (by omega)
    · refine Go.pre (st' := T.setTop (mkF m 102 #[.val (.long q0), .second, .val (.int p1), .val (.int p2), .val (.int p3), .val (.int p4), .val (.long life), .second, .val (.int p8), .val (.ref se), .val (.ref ob), .val (.int kk), .unset, .unset, .unset, .unset, .unset, .unset, .unset, .unset] [(.ref ob)])) (fun target kt => ?_) ?_
      · show Steps p.tables e below (T.setTop (mkF m 99 #[.val (.long q0), .second, .val (.int p1), .val (.int p2), .val (.int p3), .val (.int p4), .val (.long life), .second, .val (.int p8), .val (.ref se), .val (.ref ob), .val (.int kk), .unset, .unset, .unset, .unset, .unset, .unset, .unset, .unset] [(.int (p2 &&& (4 : Int32))), (.ref ob)])) _
        refine XS.ifNo X0.here hx rfl (hb hby at_99) rfl ((if0 _ _).trans (feq h99_2).1) ?_
        exact kt
      refine Go.pre (st' := T.setTop (mkF m 107 #[.val (.long q0), .second, .val (.int p1), .val (.int p2), .val (.int p3), .val (.int p4), .val (.long life), .second, .val (.int p8), .val (.ref se), .val (.ref ob), .val (.int kk), .unset, .unset, .unset, .unset, .unset, .unset, .unset, .unset] [(.int (1 : Int32)), (.ref ob)])) (fun target kt => ?_) ?_
      · show Steps p.tables e below (T.setTop (mkF m 102 #[.val (.long q0), .second, .val (.int p1), .val (.int p2), .val (.int p3), .val (.int p4), .val (.long life), .second, .val (.int p8), .val (.ref se), .val (.ref ob), .val (.int kk), .unset, .unset, .unset, .unset, .unset, .unset, .unset, .unset] [(.ref ob)])) _
        refine XS.iconst X0.here hx rfl (hb hby at_102) ?_
        show Steps p.tables e below (T.setTop (mkF m 103 #[.val (.long q0), .second, .val (.int p1), .val (.int p2), .val (.int p3), .val (.int p4), .val (.long life), .second, .val (.int p8), .val (.ref se), .val (.ref ob), .val (.int kk), .unset, .unset, .unset, .unset, .unset, .unset, .unset, .unset] [(.int (1 : Int32)), (.ref ob)])) _
        refine XS.goto X0.here hx rfl (pc0 := 103) (pc' := 107) rfl (hb hby at_103) (by decide) (by decide) ?_
        exact kt
      obtain ⟨cq16, kq16, q16a, q16b, q16c⟩ := isOf hZ e0 E_o
      obtain ⟨_, _, ⟨T16, L16, k16, n16⟩, -, X16, ⟨Lc16, hQ16, l16, y16, z16⟩, st16⟩ := X0.virtualBack hx (y := (⟨"com/example/pulsekeep/pulsekeep/core/Subscription", "endCycle", "(Z)Lcom/example/pulsekeep/pulsekeep/core/Subscription$CycleEnd;"⟩ : MethodName)) (z := (⟨"com/example/pulsekeep/pulsekeep/core/Subscription", "endCycle", "(Z)Lcom/example/pulsekeep/pulsekeep/core/Subscription$CycleEnd;"⟩ : MethodName)) hown (mvT hZ (hw _ (List.mem_of_getElem? (i := 115) rfl))) (mvT hZ (hw _ (List.mem_of_getElem? (i := 116) rfl))) (notFace_of_selects (args := #[]) (mvT hZ (hw _ (List.mem_of_getElem? (i := 118) rfl)))) (mvT hZ (hw _ (List.mem_of_getElem? (i := 118) rfl))) (mvT hZ (hw _ (List.mem_of_getElem? (i := 117) rfl))) (by decide) (backOf (W := 0) (rm11 l Z a0 hw [] ob (1 : Int32) se il en mc life cy md zD zC h0 n0 (by omega) E_o F_settings F_items E_se F_en E_il F_mc F_size F_life F_sent F_cy F_md S_DUE S_CLOSE Ol (by omega)) hZ (hw _ (List.mem_of_getElem? (i := 119) rfl)) (hw _ (List.mem_of_getElem? (i := 29) rfl)) (by decide) (by decide)) q16a q16c (g := (mkF m 107 #[.val (.long q0), .second, .val (.int p1), .val (.int p2), .val (.int p3), .val (.int p4), .val (.long life), .second, .val (.int p8), .val (.ref se), .val (.ref ob), .val (.int kk), .unset, .unset, .unset, .unset, .unset, .unset, .unset, .unset] [(.int (1 : Int32)), (.ref ob)])) rfl (by rw [hml]; rfl) (Steps.refl _) (argsL := [(.int (1 : Int32))]) (rest := []) (lenOf pd88_0 rfl) rfl (by show 2 * 0 + _ ≤ _; exact Nat.le_of_eq rfl) (hb hby at_107) (fun vm₁ hvm => ⟨rfl, e0, (by decide : 12 + 1 ≤ _), (by decide : 100 + 4 ≤ _)⟩)
      dsimp only [Pt.U, Pt.locs, Pt.cells, Pt.slots] at X16 l16 y16 z16 st16 hQ16
      subst l16 y16 z16
      obtain ⟨rfl, N16q, K16, KF16, Fc16, Fd16⟩ := hQ16
      have sz16 : h0.size ≤ T16.heap.size := K16.1
      have N16 := Fr.app N0 N16q
      refine Go.trans st16 ?_
      show Go p e below s _ _ _ (T16.setTop (mkF m 110 #[.val (.long q0), .second, .val (.int p1), .val (.int p2), .val (.int p3), .val (.int p4), .val (.long life), .second, .val (.int p8), .val (.ref se), .val (.ref ob), .val (.int kk), .unset, .unset, .unset, .unset, .unset, .unset, .unset, .unset] [(.ref (own_end life (own_nc (1 : Int32) cy) zD zC))]))
      refine Go.pre (st' := T16.setTop (mkF m 111 #[.val (.long q0), .second, .val (.int p1), .val (.int p2), .val (.int p3), .val (.int p4), .val (.long life), .second, .val (.int p8), .val (.ref se), .val (.ref ob), .val (.int kk), .unset, .unset, .unset, .unset, .unset, .unset, .unset, .unset] [])) (fun target kt => ?_) ?_
      · show Steps p.tables e below (T16.setTop (mkF m 110 #[.val (.long q0), .second, .val (.int p1), .val (.int p2), .val (.int p3), .val (.int p4), .val (.long life), .second, .val (.int p8), .val (.ref se), .val (.ref ob), .val (.int kk), .unset, .unset, .unset, .unset, .unset, .unset, .unset, .unset] [(.ref (own_end life (own_nc (1 : Int32) cy) zD zC))])) _
        refine XS.pop X16.here hx rfl (hb hby at_110) rfl rfl ?_
        exact kt
      have Y17 : Exa Z T16.heap ob "com/example/pulsekeep/pulsekeep/core/Subscription" := (E_o.keep K16)
      have Y18 : Fld Z T16.heap ob "com/example/pulsekeep/pulsekeep/core/Subscription" "settings" "Lcom/example/pulsekeep/pulsekeep/core/SubscriptionSettings;" (.ref se) := (KF16 _ _ _ _ _ F_settings (pallS (Or.inr (slot_ne (Or.inl (hw _ (List.mem_of_getElem? (i := 114) rfl))) (Or.inl (hw _ (List.mem_of_getElem? (i := 132) rfl))) (by decide) (t := (.object "com/example/pulsekeep/pulsekeep/core/SubscriptionSettings")) (t' := .long) (by decide) (by decide))) (pallS (Or.inr (slot_ne (Or.inl (hw _ (List.mem_of_getElem? (i := 114) rfl))) (Or.inl (hw _ (List.mem_of_getElem? (i := 139) rfl))) (by decide) (t := (.object "com/example/pulsekeep/pulsekeep/core/SubscriptionSettings")) (t' := .boolean) (by decide) (by decide))) pall0)))
      have Y19 : Fld Z T16.heap ob "com/example/pulsekeep/pulsekeep/core/Subscription" "items" "Ljava/util/List;" (.ref il) := (KF16 _ _ _ _ _ F_items (pallS (Or.inr (slot_ne (Or.inr (hw _ (List.mem_of_getElem? (i := 88) rfl))) (Or.inl (hw _ (List.mem_of_getElem? (i := 132) rfl))) (by decide) (t := (.object "java/util/List")) (t' := .long) (by decide) (by decide))) (pallS (Or.inr (slot_ne (Or.inr (hw _ (List.mem_of_getElem? (i := 88) rfl))) (Or.inl (hw _ (List.mem_of_getElem? (i := 139) rfl))) (by decide) (t := (.object "java/util/List")) (t' := .boolean) (by decide) (by decide))) pall0)))
      have Y20 : Exa Z T16.heap se "com/example/pulsekeep/pulsekeep/core/SubscriptionSettings" := (E_se.keep K16)
      have Y21 : Fld Z T16.heap se "com/example/pulsekeep/pulsekeep/core/SubscriptionSettings" "publishingEnabled" "Z" (.int en) := (F_en.keep K16 (ninS (ne_exa E_se E_o (by decide)) nin0))
      have Y22 : Exa Z T16.heap il "java/util/ArrayList" := (E_il.keep K16)
      have Y23 : Fld Z T16.heap il "java/util/AbstractList" "modCount" "I" (.int mc) := (F_mc.keep K16 (ninS (ne_exa E_il E_o (by decide)) nin0))
      have Y24 : Fld Z T16.heap il "java/util/ArrayList" "size" "I" (.int (0 : Int32)) := (F_size.keep K16 (ninS (ne_exa E_il E_o (by decide)) nin0))
      have Y25 : Fld Z T16.heap se "com/example/pulsekeep/pulsekeep/core/SubscriptionSettings" "lifetimeCount" "J" (.long life) := (F_life.keep K16 (ninS (ne_exa E_se E_o (by decide)) nin0))
      have Y26 : Fld Z T16.heap ob "com/example/pulsekeep/pulsekeep/core/Subscription" "messageSent" "Z" (.int (0 : Int32)) := (KF16 _ _ _ _ _ F_sent (pallS (Or.inr (slot_ne (Or.inl (hw _ (List.mem_of_getElem? (i := 130) rfl))) (Or.inl (hw _ (List.mem_of_getElem? (i := 132) rfl))) (by decide) (t := .boolean) (t' := .long) (by decide) (by decide))) (pallS (Or.inr (slot_ne (Or.inl (hw _ (List.mem_of_getElem? (i := 130) rfl))) (Or.inl (hw _ (List.mem_of_getElem? (i := 139) rfl))) (by decide) (t := .boolean) (t' := .boolean) (by decide) (by decide))) pall0)))
      have Y27 : Fld Z T16.heap ob "com/example/pulsekeep/pulsekeep/core/Subscription" "emptyCycles" "J" (.long ec) := (KF16 _ _ _ _ _ F_ec (pallS (Or.inr (slot_ne (Or.inl (hw _ (List.mem_of_getElem? (i := 149) rfl))) (Or.inl (hw _ (List.mem_of_getElem? (i := 132) rfl))) (by decide) (t := .long) (t' := .long) (by decide) (by decide))) (pallS (Or.inr (slot_ne (Or.inl (hw _ (List.mem_of_getElem? (i := 149) rfl))) (Or.inl (hw _ (List.mem_of_getElem? (i := 139) rfl))) (by decide) (t := .long) (t' := .boolean) (by decide) (by decide))) pall0)))
      have Y28 : Old Z n0 T16.heap := (Ol.keep K16 (allS (by omega) all0))
      exact blk111 C hw X16 rfl N16 q0 p1 p2 p3 p4 p8 ob kk ec zD zC se il en mc life (own_nc (1 : Int32) cy) (own_due life (own_nc (1 : Int32) cy) md) (by omega) Y17 Y18 Y19 Y20 Y21 Y22 Y23 Y24 Y25 Y26 Fc16 Fd16 Y27 S_DUE S_CLOSE Y28 (by omega)
/-! SubscriptionStartAgainPinLaw.law (0) -/
theorem pn_0 : plainName "com/example/pulsekeep/pulsekeep/core/SubscriptionStartAgainPinLaw" = true := by first | (simp [plainName, overriddenIn]; done) | decide +kernel
theorem pd0_0 : parseMethodDescriptor "(DJJJZI)V" = some ⟨[.double, .long, .long, .long, .boolean, .int], none⟩ := by decide +kernel
theorem pd0_1 : parseMethodDescriptor "()V" = some ⟨[], none⟩ := by decide +kernel
theorem pd0_2 : parseMethodDescriptor "(JLcom/example/pulsekeep/pulsekeep/core/Subscriber;Lcom/example/pulsekeep/pulsekeep/core/SubscriptionSettings;)V" = some ⟨[.long, (.object "com/example/pulsekeep/pulsekeep/core/Subscriber"), (.object "com/example/pulsekeep/pulsekeep/core/SubscriptionSettings")], none⟩ := by decide +kernel
theorem ef_0 (m : MethodId) (q0 : Int64) (p1 : Int32) (p2 : Int32) (p3 : Int32) (p4 : Int32) : entryFrame m #[(.long q0), (.int p1), (.int p2), (.int p3), (.int p4)] maxLocals = (mkF m 0 #[.val (.long q0), .second, .val (.int p1), .val (.int p2), .val (.int p3), .val (.int p4), .unset, .unset, .unset, .unset, .unset, .unset, .unset, .unset, .unset, .unset, .unset, .unset, .unset, .unset] []) := by first | (simp [entryFrame, mkF, argsToLocals, Value.category, maxLocals]; done) | rfl
def Q0 (Z : State) (q0 : Int64) (p1 : Int32) (p2 : Int32) (p3 : Int32) (p4 : Int32) (z7 : Addr) (z21 : Addr) (z23 : Addr) (h0 : Heap) (n0 : Nat) (v : Option Value) (h : Heap) (L : List Loc) : Prop := v = some (.int 1) ∧ Fr n0 L
set_option maxRecDepth 65536 in
set_option maxHeartbeats 40000000 in
theorem rm0 (l : Launch) (Z : State) (a0 : Array Value) (hw : ∀ d ∈ tables_1, d.before a0 Z = true) (ws : List Jvm.Cond) (q0 : Int64) (p1 : Int32) (p2 : Int32) (p3 : Int32) (p4 : Int32) (z7 : Addr) (z21 : Addr) (z23 : Addr) (h0 : Heap) (n0 : Nat) (Z0 : n0 ≤ h0.size) (S_DEFAULTCAPACITY_EMPTY_ELEMENTDATA : Sta Z Z.heap "java/util/ArrayList" "DEFAULTCAPACITY_EMPTY_ELEMENTDATA" "[Ljava/lang/Object;" (.ref z7)) (Ol : Old Z n0 h0) (S_DUE : Sta Z Z.heap "com/example/pulsekeep/pulsekeep/core/Subscription$CycleEnd" "DUE" "Lcom/example/pulsekeep/pulsekeep/core/Subscription$CycleEnd;" (.ref z21)) (S_CLOSE : Sta Z Z.heap "com/example/pulsekeep/pulsekeep/core/Subscription$CycleEnd" "CLOSE" "Lcom/example/pulsekeep/pulsekeep/core/Subscription$CycleEnd;" (.ref z23)) :
    MetFree l x (head1 (Jvm.Cond.code x code maxLocals ret :: ws) room_1) (fun a U => a = #[(.long q0), (.int p1), (.int p2), (.int p3), (.int p4)] ∧ Z.Warmed39 U.vm ∧ U.heap = h0 ∧ EXL U) (fun _ _ _ _ _ => True) (fun _ U o U' => ∃ v L, o = .returned v ∧ Q0 Z q0 p1 p2 p3 p4 z7 z21 z23 h0 n0 v U'.heap L ∧ FrameEnd U o U' L 48 320) := by
  refine MetFree.of_bodySF (plainFor_of_name pn_0) hisR ?_
  intro p e s m args below meth c s₁ Bd hml0 hP hK
  obtain ⟨rfl, hZ, hh, hEX⟩ := hP
  have hx := Bd.exec
  have hby := Bd.bytes
  have hml : c.maxLocals = 20 := hml0
  have hown : s.vm.findClass "com/example/pulsekeep/pulsekeep/core/SubscriptionStartAgainPinLaw" = some m.cls := findClass_of_methodNamed Bd.named
  have hnm := (name_of_methodNamed Bd.named Bd.method).1
  have hrt := Bd.returns
  have hlk := Bd.notSynchronized
  have X0 : Stand p l e room_1 s m #[(.long q0), (.int p1), (.int p2), (.int p3), (.int p4)] below meth c s₁ [] 0 0 := Stand.of_body Bd
  have e0 : s₁.heap = h0 := by rw [← hh, Bd.state]; rfl
  have N0 := Fr.nil n0
  show Go p e below s 48 320 (Q0 Z q0 p1 p2 p3 p4 z7 z21 z23 h0 n0) (s₁.setTop (entryFrame m #[(.long q0), (.int p1), (.int p2), (.int p3), (.int p4)] maxLocals))
  rw [ef_0 m q0 p1 p2 p3 p4]
  refine Go.pre (st' := s₁.setTop (mkF m 9 #[.val (.long q0), .second, .val (.int p1), .val (.int p2), .val (.int p3), .val (.int p4), .val (.long (((1 : Int32) + (p1 &&& (7 : Int32))).toInt64)), .second, .unset, .unset, .unset, .unset, .unset, .unset, .unset, .unset, .unset, .unset, .unset, .unset] [])) (fun target kt => ?_) ?_
  · show Steps p.tables e below (s₁.setTop (mkF m 0 #[.val (.long q0), .second, .val (.int p1), .val (.int p2), .val (.int p3), .val (.int p4), .unset, .unset, .unset, .unset, .unset, .unset, .unset, .unset, .unset, .unset, .unset, .unset, .unset, .unset] [])) _
    refine XS.iconst X0.here hx rfl (hb hby at_0) ?_
    show Steps p.tables e below (s₁.setTop (mkF m 1 #[.val (.long q0), .second, .val (.int p1), .val (.int p2), .val (.int p3), .val (.int p4), .unset, .unset, .unset, .unset, .unset, .unset, .unset, .unset, .unset, .unset, .unset, .unset, .unset, .unset] [(.int (1 : Int32))])) _
    refine XS.iloadN X0.here hx rfl (hb hby at_1) rfl ?_
    show Steps p.tables e below (s₁.setTop (mkF m 2 #[.val (.long q0), .second, .val (.int p1), .val (.int p2), .val (.int p3), .val (.int p4), .unset, .unset, .unset, .unset, .unset, .unset, .unset, .unset, .unset, .unset, .unset, .unset, .unset, .unset] [(.int p1), (.int (1 : Int32))])) _
    refine XS.bipush X0.here hx rfl (hb hby at_2) ?_
    show Steps p.tables e below (s₁.setTop (mkF m 4 #[.val (.long q0), .second, .val (.int p1), .val (.int p2), .val (.int p3), .val (.int p4), .unset, .unset, .unset, .unset, .unset, .unset, .unset, .unset, .unset, .unset, .unset, .unset, .unset, .unset] [(.int (7 : Int32)), (.int p1), (.int (1 : Int32))])) _
    refine XS.iand X0.here hx rfl (hb hby at_4) rfl ?_
    show Steps p.tables e below (s₁.setTop (mkF m 5 #[.val (.long q0), .second, .val (.int p1), .val (.int p2), .val (.int p3), .val (.int p4), .unset, .unset, .unset, .unset, .unset, .unset, .unset, .unset, .unset, .unset, .unset, .unset, .unset, .unset] [(.int (p1 &&& (7 : Int32))), (.int (1 : Int32))])) _
    refine XS.iadd X0.here hx rfl (hb hby at_5) rfl ?_
    show Steps p.tables e below (s₁.setTop (mkF m 6 #[.val (.long q0), .second, .val (.int p1), .val (.int p2), .val (.int p3), .val (.int p4), .unset, .unset, .unset, .unset, .unset, .unset, .unset, .unset, .unset, .unset, .unset, .unset, .unset, .unset] [(.int ((1 : Int32) + (p1 &&& (7 : Int32))))])) _
    refine XS.i2l X0.here hx rfl (hb hby at_6) rfl ?_
    show Steps p.tables e below (s₁.setTop (mkF m 7 #[.val (.long q0), .second, .val (.int p1), .val (.int p2), .val (.int p3), .val (.int p4), .unset, .unset, .unset, .unset, .unset, .unset, .unset, .unset, .unset, .unset, .unset, .unset, .unset, .unset] [(.long (((1 : Int32) + (p1 &&& (7 : Int32))).toInt64))])) _
    refine XS.lstore X0.here hx rfl (hb hby at_7) rfl (l' := #[.val (.long q0), .second, .val (.int p1), .val (.int p2), .val (.int p3), .val (.int p4), .val (.long (((1 : Int32) + (p1 &&& (7 : Int32))).toInt64)), .second, .unset, .unset, .unset, .unset, .unset, .unset, .unset, .unset, .unset, .unset, .unset, .unset]) rfl ?_
    exact kt
  obtain ⟨life, hlife⟩ : ∃ z, z = (((1 : Int32) + (p1 &&& (7 : Int32))).toInt64) := ⟨_, rfl⟩
  rw [← hlife]
  refine Go.pre (st' := s₁.setTop (mkF m 16 #[.val (.long q0), .second, .val (.int p1), .val (.int p2), .val (.int p3), .val (.int p4), .val (.long life), .second, .unset, .unset, .unset, .unset, .unset, .unset, .unset, .unset, .unset, .unset, .unset, .unset] [(.int ((p4 >>> ((8 : Int32) &&& 31)) &&& (1 : Int32)))])) (fun target kt => ?_) ?_
  · show Steps p.tables e below (s₁.setTop (mkF m 9 #[.val (.long q0), .second, .val (.int p1), .val (.int p2), .val (.int p3), .val (.int p4), .val (.long life), .second, .unset, .unset, .unset, .unset, .unset, .unset, .unset, .unset, .unset, .unset, .unset, .unset] [])) _
    refine XS.iload X0.here hx rfl (hb hby at_9) rfl ?_
    show Steps p.tables e below (s₁.setTop (mkF m 11 #[.val (.long q0), .second, .val (.int p1), .val (.int p2), .val (.int p3), .val (.int p4), .val (.long life), .second, .unset, .unset, .unset, .unset, .unset, .unset, .unset, .unset, .unset, .unset, .unset, .unset] [(.int p4)])) _
    refine XS.bipush X0.here hx rfl (hb hby at_11) ?_
    show Steps p.tables e below (s₁.setTop (mkF m 13 #[.val (.long q0), .second, .val (.int p1), .val (.int p2), .val (.int p3), .val (.int p4), .val (.long life), .second, .unset, .unset, .unset, .unset, .unset, .unset, .unset, .unset, .unset, .unset, .unset, .unset] [(.int (8 : Int32)), (.int p4)])) _
    refine XS.ishr X0.here hx rfl (hb hby at_13) rfl ?_
    show Steps p.tables e below (s₁.setTop (mkF m 14 #[.val (.long q0), .second, .val (.int p1), .val (.int p2), .val (.int p3), .val (.int p4), .val (.long life), .second, .unset, .unset, .unset, .unset, .unset, .unset, .unset, .unset, .unset, .unset, .unset, .unset] [(.int (p4 >>> ((8 : Int32) &&& 31)))])) _
    refine XS.iconst X0.here hx rfl (hb hby at_14) ?_
    show Steps p.tables e below (s₁.setTop (mkF m 15 #[.val (.long q0), .second, .val (.int p1), .val (.int p2), .val (.int p3), .val (.int p4), .val (.long life), .second, .unset, .unset, .unset, .unset, .unset, .unset, .unset, .unset, .unset, .unset, .unset, .unset] [(.int (1 : Int32)), (.int (p4 >>> ((8 : Int32) &&& 31)))])) _
    refine XS.iand X0.here hx rfl (hb hby at_15) rfl ?_
    exact kt
  by_cases h16_1 : ((p4 >>> ((8 : Int32) &&& 31)) &&& (1 : Int32)) = (0 : Int32)
  · refine Go.pre (st' := s₁.setTop (mkF m 23 #[.val (.long q0), .second, .val (.int p1), .val (.int p2), .val (.int p3), .val (.int p4), .val (.long life), .second, .unset, .unset, .unset, .unset, .unset, .unset, .unset, .unset, .unset, .unset, .unset, .unset] [])) (fun target kt => ?_) ?_
    · show Steps p.tables e below (s₁.setTop (mkF m 16 #[.val (.long q0), .second, .val (.int p1), .val (.int p2), .val (.int p3), .val (.int p4), .val (.long life), .second, .unset, .unset, .unset, .unset, .unset, .unset, .unset, .unset, .unset, .unset, .unset, .unset] [(.int ((p4 >>> ((8 : Int32) &&& 31)) &&& (1 : Int32)))])) _
      refine XS.ifYes X0.here hx rfl (pc0 := 16) (pc' := 23) rfl (hb hby at_16) rfl ((if0 _ _).trans (teq h16_1).1) (by decide) (by decide) ?_
      exact kt
    refine Go.pre (st' := s₁.setTop (mkF m 26 #[.val (.long q0), .second, .val (.int p1), .val (.int p2), .val (.int p3), .val (.int p4), .val (.long life), .second, .val (.int (0 : Int32)), .unset, .unset, .unset, .unset, .unset, .unset, .unset, .unset, .unset, .unset, .unset] [])) (fun target kt => ?_) ?_
    · show Steps p.tables e below (s₁.setTop (mkF m 23 #[.val (.long q0), .second, .val (.int p1), .val (.int p2), .val (.int p3), .val (.int p4), .val (.long life), .second, .unset, .unset, .unset, .unset, .unset, .unset, .unset, .unset, .unset, .unset, .unset, .unset] [])) _
      refine XS.iconst X0.here hx rfl (hb hby at_23) ?_
      show Steps p.tables e below (s₁.setTop (mkF m 24 #[.val (.long q0), .second, .val (.int p1), .val (.int p2), .val (.int p3), .val (.int p4), .val (.long life), .second, .unset, .unset, .unset, .unset, .unset, .unset, .unset, .unset, .unset, .unset, .unset, .unset] [(.int (0 : Int32))])) _
      refine XS.istore X0.here hx rfl (hb hby at_24) rfl (l' := #[.val (.long q0), .second, .val (.int p1), .val (.int p2), .val (.int p3), .val (.int p4), .val (.long life), .second, .val (.int (0 : Int32)), .unset, .unset, .unset, .unset, .unset, .unset, .unset, .unset, .unset, .unset, .unset]) rfl ?_
      exact kt
    obtain ⟨T2, h2, X2, e2, E2, A2, D2, -, st2⟩ := newO X0 hx hZ hown (hw _ (List.mem_of_getElem? (i := 0) rfl)) (hw _ (List.mem_of_getElem? (i := 1) rfl)) (hw _ (List.mem_of_getElem? (i := 2) rfl)) e0 (g := (mkF m 26 #[.val (.long q0), .second, .val (.int p1), .val (.int p2), .val (.int p3), .val (.int p4), .val (.long life), .second, .val (.int (0 : Int32)), .unset, .unset, .unset, .unset, .unset, .unset, .unset, .unset, .unset, .unset, .unset] [])) rfl (hb hby at_26) (by decide) (by decide)
    obtain ⟨b2, g2⟩ : ∃ z, z = h0.size := ⟨_, rfl⟩
    rw [← g2] at A2 D2 st2
    have sz2 : h0.size ≤ h2.size := E2.1
    have lt2 : b2 < h2.size := A2.lt
    have F2_publishingIntervalMs : Fld Z h2 b2 "com/example/pulsekeep/pulsekeep/core/SubscriptionSettings" "publishingIntervalMs" "D" (.double 0) := D2 (Or.inr (hw _ (List.mem_of_getElem? (i := 16) rfl))) (ty := .double) (by decide)
    have F2_lifetimeCount : Fld Z h2 b2 "com/example/pulsekeep/pulsekeep/core/SubscriptionSettings" "lifetimeCount" "J" (.long (0 : Int64)) := D2 (Or.inr (hw _ (List.mem_of_getElem? (i := 18) rfl))) (ty := .long) (by decide)
    have F2_maxKeepAliveCount : Fld Z h2 b2 "com/example/pulsekeep/pulsekeep/core/SubscriptionSettings" "maxKeepAliveCount" "J" (.long (0 : Int64)) := D2 (Or.inr (hw _ (List.mem_of_getElem? (i := 20) rfl))) (ty := .long) (by decide)
    have F2_maxNotificationsPerPublish : Fld Z h2 b2 "com/example/pulsekeep/pulsekeep/core/SubscriptionSettings" "maxNotificationsPerPublish" "J" (.long (0 : Int64)) := D2 (Or.inr (hw _ (List.mem_of_getElem? (i := 22) rfl))) (ty := .long) (by decide)
    have F2_publishingEnabled : Fld Z h2 b2 "com/example/pulsekeep/pulsekeep/core/SubscriptionSettings" "publishingEnabled" "Z" (.int (0 : Int32)) := D2 (Or.inr (hw _ (List.mem_of_getElem? (i := 24) rfl))) (ty := .boolean) (by decide)
    have F2_priority : Fld Z h2 b2 "com/example/pulsekeep/pulsekeep/core/SubscriptionSettings" "priority" "I" (.int (0 : Int32)) := D2 (Or.inr (hw _ (List.mem_of_getElem? (i := 26) rfl))) (ty := .int) (by decide)
    refine Go.pre st2 ?_
    show Go p e below s _ _ _ (T2.setTop (mkF m 29 #[.val (.long q0), .second, .val (.int p1), .val (.int p2), .val (.int p3), .val (.int p4), .val (.long life), .second, .val (.int (0 : Int32)), .unset, .unset, .unset, .unset, .unset, .unset, .unset, .unset, .unset, .unset, .unset] [(.ref b2)]))
    refine Go.pre (st' := T2.setTop (mkF m 59 #[.val (.long q0), .second, .val (.int p1), .val (.int p2), .val (.int p3), .val (.int p4), .val (.long life), .second, .val (.int (0 : Int32)), .unset, .unset, .unset, .unset, .unset, .unset, .unset, .unset, .unset, .unset, .unset] [(.int (p4 &&& (255 : Int32))), (.int (0 : Int32)), (.long ((((p1.toUInt32 >>> ((6 : Int32) &&& 31).toUInt32).toInt32) &&& (3 : Int32)).toInt64)), (.long (((1 : Int32) + (((p1.toUInt32 >>> ((3 : Int32) &&& 31).toUInt32).toInt32) &&& (7 : Int32))).toInt64)), (.long life), (.double (4636737291354636288 : UInt64)), (.ref b2), (.ref b2)])) (fun target kt => ?_) ?_
    · show Steps p.tables e below (T2.setTop (mkF m 29 #[.val (.long q0), .second, .val (.int p1), .val (.int p2), .val (.int p3), .val (.int p4), .val (.long life), .second, .val (.int (0 : Int32)), .unset, .unset, .unset, .unset, .unset, .unset, .unset, .unset, .unset, .unset, .unset] [(.ref b2)])) _
      refine XS.dup X2.here hx rfl (hb hby at_29) rfl rfl ?_
      show Steps p.tables e below (T2.setTop (mkF m 30 #[.val (.long q0), .second, .val (.int p1), .val (.int p2), .val (.int p3), .val (.int p4), .val (.long life), .second, .val (.int (0 : Int32)), .unset, .unset, .unset, .unset, .unset, .unset, .unset, .unset, .unset, .unset, .unset] [(.ref b2), (.ref b2)])) _
      refine X2.ldc2DoubleC hx hown (mvT hZ (hw _ (List.mem_of_getElem? (i := 3) rfl))) (g := (mkF m 30 #[.val (.long q0), .second, .val (.int p1), .val (.int p2), .val (.int p3), .val (.int p4), .val (.long life), .second, .val (.int (0 : Int32)), .unset, .unset, .unset, .unset, .unset, .unset, .unset, .unset, .unset, .unset, .unset] [(.ref b2), (.ref b2)])) rfl (hb hby at_30) _ ?_
      show Steps p.tables e below (T2.setTop (mkF m 33 #[.val (.long q0), .second, .val (.int p1), .val (.int p2), .val (.int p3), .val (.int p4), .val (.long life), .second, .val (.int (0 : Int32)), .unset, .unset, .unset, .unset, .unset, .unset, .unset, .unset, .unset, .unset, .unset] [(.double (4636737291354636288 : UInt64)), (.ref b2), (.ref b2)])) _
      refine XS.lload X2.here hx rfl (hb hby at_33) rfl ?_
      show Steps p.tables e below (T2.setTop (mkF m 35 #[.val (.long q0), .second, .val (.int p1), .val (.int p2), .val (.int p3), .val (.int p4), .val (.long life), .second, .val (.int (0 : Int32)), .unset, .unset, .unset, .unset, .unset, .unset, .unset, .unset, .unset, .unset, .unset] [(.long life), (.double (4636737291354636288 : UInt64)), (.ref b2), (.ref b2)])) _
      refine XS.iconst X2.here hx rfl (hb hby at_35) ?_
      show Steps p.tables e below (T2.setTop (mkF m 36 #[.val (.long q0), .second, .val (.int p1), .val (.int p2), .val (.int p3), .val (.int p4), .val (.long life), .second, .val (.int (0 : Int32)), .unset, .unset, .unset, .unset, .unset, .unset, .unset, .unset, .unset, .unset, .unset] [(.int (1 : Int32)), (.long life), (.double (4636737291354636288 : UInt64)), (.ref b2), (.ref b2)])) _
      refine XS.iloadN X2.here hx rfl (hb hby at_36) rfl ?_
      show Steps p.tables e below (T2.setTop (mkF m 37 #[.val (.long q0), .second, .val (.int p1), .val (.int p2), .val (.int p3), .val (.int p4), .val (.long life), .second, .val (.int (0 : Int32)), .unset, .unset, .unset, .unset, .unset, .unset, .unset, .unset, .unset, .unset, .unset] [(.int p1), (.int (1 : Int32)), (.long life), (.double (4636737291354636288 : UInt64)), (.ref b2), (.ref b2)])) _
      refine XS.iconst X2.here hx rfl (hb hby at_37) ?_
      show Steps p.tables e below (T2.setTop (mkF m 38 #[.val (.long q0), .second, .val (.int p1), .val (.int p2), .val (.int p3), .val (.int p4), .val (.long life), .second, .val (.int (0 : Int32)), .unset, .unset, .unset, .unset, .unset, .unset, .unset, .unset, .unset, .unset, .unset] [(.int (3 : Int32)), (.int p1), (.int (1 : Int32)), (.long life), (.double (4636737291354636288 : UInt64)), (.ref b2), (.ref b2)])) _
      refine XS.iushr X2.here hx rfl (hb hby at_38) rfl ?_
      show Steps p.tables e below (T2.setTop (mkF m 39 #[.val (.long q0), .second, .val (.int p1), .val (.int p2), .val (.int p3), .val (.int p4), .val (.long life), .second, .val (.int (0 : Int32)), .unset, .unset, .unset, .unset, .unset, .unset, .unset, .unset, .unset, .unset, .unset] [(.int ((p1.toUInt32 >>> ((3 : Int32) &&& 31).toUInt32).toInt32)), (.int (1 : Int32)), (.long life), (.double (4636737291354636288 : UInt64)), (.ref b2), (.ref b2)])) _
      refine XS.bipush X2.here hx rfl (hb hby at_39) ?_
      show Steps p.tables e below (T2.setTop (mkF m 41 #[.val (.long q0), .second, .val (.int p1), .val (.int p2), .val (.int p3), .val (.int p4), .val (.long life), .second, .val (.int (0 : Int32)), .unset, .unset, .unset, .unset, .unset, .unset, .unset, .unset, .unset, .unset, .unset] [(.int (7 : Int32)), (.int ((p1.toUInt32 >>> ((3 : Int32) &&& 31).toUInt32).toInt32)), (.int (1 : Int32)), (.long life), (.double (4636737291354636288 : UInt64)), (.ref b2), (.ref b2)])) _
      refine XS.iand X2.here hx rfl (hb hby at_41) rfl ?_
      show Steps p.tables e below (T2.setTop (mkF m 42 #[.val (.long q0), .second, .val (.int p1), .val (.int p2), .val (.int p3), .val (.int p4), .val (.long life), .second, .val (.int (0 : Int32)), .unset, .unset, .unset, .unset, .unset, .unset, .unset, .unset, .unset, .unset, .unset] [(.int (((p1.toUInt32 >>> ((3 : Int32) &&& 31).toUInt32).toInt32) &&& (7 : Int32))), (.int (1 : Int32)), (.long life), (.double (4636737291354636288 : UInt64)), (.ref b2), (.ref b2)])) _
      refine XS.iadd X2.here hx rfl (hb hby at_42) rfl ?_
      show Steps p.tables e below (T2.setTop (mkF m 43 #[.val (.long q0), .second, .val (.int p1), .val (.int p2), .val (.int p3), .val (.int p4), .val (.long life), .second, .val (.int (0 : Int32)), .unset, .unset, .unset, .unset, .unset, .unset, .unset, .unset, .unset, .unset, .unset] [(.int ((1 : Int32) + (((p1.toUInt32 >>> ((3 : Int32) &&& 31).toUInt32).toInt32) &&& (7 : Int32)))), (.long life), (.double (4636737291354636288 : UInt64)), (.ref b2), (.ref b2)])) _
      refine XS.i2l X2.here hx rfl (hb hby at_43) rfl ?_
      show Steps p.tables e below (T2.setTop (mkF m 44 #[.val (.long q0), .second, .val (.int p1), .val (.int p2), .val (.int p3), .val (.int p4), .val (.long life), .second, .val (.int (0 : Int32)), .unset, .unset, .unset, .unset, .unset, .unset, .unset, .unset, .unset, .unset, .unset] [(.long (((1 : Int32) + (((p1.toUInt32 >>> ((3 : Int32) &&& 31).toUInt32).toInt32) &&& (7 : Int32))).toInt64)), (.long life), (.double (4636737291354636288 : UInt64)), (.ref b2), (.ref b2)])) _
      refine XS.iloadN X2.here hx rfl (hb hby at_44) rfl ?_
      show Steps p.tables e below (T2.setTop (mkF m 45 #[.val (.long q0), .second, .val (.int p1), .val (.int p2), .val (.int p3), .val (.int p4), .val (.long life), .second, .val (.int (0 : Int32)), .unset, .unset, .unset, .unset, .unset, .unset, .unset, .unset, .unset, .unset, .unset] [(.int p1), (.long (((1 : Int32) + (((p1.toUInt32 >>> ((3 : Int32) &&& 31).toUInt32).toInt32) &&& (7 : Int32))).toInt64)), (.long life), (.double (4636737291354636288 : UInt64)), (.ref b2), (.ref b2)])) _
      refine XS.bipush X2.here hx rfl (hb hby at_45) ?_
      show Steps p.tables e below (T2.setTop (mkF m 47 #[.val (.long q0), .second, .val (.int p1), .val (.int p2), .val (.int p3), .val (.int p4), .val (.long life), .second, .val (.int (0 : Int32)), .unset, .unset, .unset, .unset, .unset, .unset, .unset, .unset, .unset, .unset, .unset] [(.int (6 : Int32)), (.int p1), (.long (((1 : Int32) + (((p1.toUInt32 >>> ((3 : Int32) &&& 31).toUInt32).toInt32) &&& (7 : Int32))).toInt64)), (.long life), (.double (4636737291354636288 : UInt64)), (.ref b2), (.ref b2)])) _
      refine XS.iushr X2.here hx rfl (hb hby at_47) rfl ?_
      show Steps p.tables e below (T2.setTop (mkF m 48 #[.val (.long q0), .second, .val (.int p1), .val (.int p2), .val (.int p3), .val (.int p4), .val (.long life), .second, .val (.int (0 : Int32)), .unset, .unset, .unset, .unset, .unset, .unset, .unset, .unset, .unset, .unset, .unset] [(.int ((p1.toUInt32 >>> ((6 : Int32) &&& 31).toUInt32).toInt32)), (.long (((1 : Int32) + (((p1.toUInt32 >>> ((3 : Int32) &&& 31).toUInt32).toInt32) &&& (7 : Int32))).toInt64)), (.long life), (.double (4636737291354636288 : UInt64)), (.ref b2), (.ref b2)])) _
      refine XS.iconst X2.here hx rfl (hb hby at_48) ?_
      show Steps p.tables e below (T2.setTop (mkF m 49 #[.val (.long q0), .second, .val (.int p1), .val (.int p2), .val (.int p3), .val (.int p4), .val (.long life), .second, .val (.int (0 : Int32)), .unset, .unset, .unset, .unset, .unset, .unset, .unset, .unset, .unset, .unset, .unset] [(.int (3 : Int32)), (.int ((p1.toUInt32 >>> ((6 : Int32) &&& 31).toUInt32).toInt32)), (.long (((1 : Int32) + (((p1.toUInt32 >>> ((3 : Int32) &&& 31).toUInt32).toInt32) &&& (7 : Int32))).toInt64)), (.long life), (.double (4636737291354636288 : UInt64)), (.ref b2), (.ref b2)])) _
      refine XS.iand X2.here hx rfl (hb hby at_49) rfl ?_
      show Steps p.tables e below (T2.setTop (mkF m 50 #[.val (.long q0), .second, .val (.int p1), .val (.int p2), .val (.int p3), .val (.int p4), .val (.long life), .second, .val (.int (0 : Int32)), .unset, .unset, .unset, .unset, .unset, .unset, .unset, .unset, .unset, .unset, .unset] [(.int (((p1.toUInt32 >>> ((6 : Int32) &&& 31).toUInt32).toInt32) &&& (3 : Int32))), (.long (((1 : Int32) + (((p1.toUInt32 >>> ((3 : Int32) &&& 31).toUInt32).toInt32) &&& (7 : Int32))).toInt64)), (.long life), (.double (4636737291354636288 : UInt64)), (.ref b2), (.ref b2)])) _
      refine XS.i2l X2.here hx rfl (hb hby at_50) rfl ?_
      show Steps p.tables e below (T2.setTop (mkF m 51 #[.val (.long q0), .second, .val (.int p1), .val (.int p2), .val (.int p3), .val (.int p4), .val (.long life), .second, .val (.int (0 : Int32)), .unset, .unset, .unset, .unset, .unset, .unset, .unset, .unset, .unset, .unset, .unset] [(.long ((((p1.toUInt32 >>> ((6 : Int32) &&& 31).toUInt32).toInt32) &&& (3 : Int32)).toInt64)), (.long (((1 : Int32) + (((p1.toUInt32 >>> ((3 : Int32) &&& 31).toUInt32).toInt32) &&& (7 : Int32))).toInt64)), (.long life), (.double (4636737291354636288 : UInt64)), (.ref b2), (.ref b2)])) _
      refine XS.iload X2.here hx rfl (hb hby at_51) rfl ?_
      show Steps p.tables e below (T2.setTop (mkF m 53 #[.val (.long q0), .second, .val (.int p1), .val (.int p2), .val (.int p3), .val (.int p4), .val (.long life), .second, .val (.int (0 : Int32)), .unset, .unset, .unset, .unset, .unset, .unset, .unset, .unset, .unset, .unset, .unset] [(.int (0 : Int32)), (.long ((((p1.toUInt32 >>> ((6 : Int32) &&& 31).toUInt32).toInt32) &&& (3 : Int32)).toInt64)), (.long (((1 : Int32) + (((p1.toUInt32 >>> ((3 : Int32) &&& 31).toUInt32).toInt32) &&& (7 : Int32))).toInt64)), (.long life), (.double (4636737291354636288 : UInt64)), (.ref b2), (.ref b2)])) _
      refine XS.iload X2.here hx rfl (hb hby at_53) rfl ?_
      show Steps p.tables e below (T2.setTop (mkF m 55 #[.val (.long q0), .second, .val (.int p1), .val (.int p2), .val (.int p3), .val (.int p4), .val (.long life), .second, .val (.int (0 : Int32)), .unset, .unset, .unset, .unset, .unset, .unset, .unset, .unset, .unset, .unset, .unset] [(.int p4), (.int (0 : Int32)), (.long ((((p1.toUInt32 >>> ((6 : Int32) &&& 31).toUInt32).toInt32) &&& (3 : Int32)).toInt64)), (.long (((1 : Int32) + (((p1.toUInt32 >>> ((3 : Int32) &&& 31).toUInt32).toInt32) &&& (7 : Int32))).toInt64)), (.long life), (.double (4636737291354636288 : UInt64)), (.ref b2), (.ref b2)])) _
      refine XS.sipush X2.here hx rfl (hb hby at_55) ?_
      show Steps p.tables e below (T2.setTop (mkF m 58 #[.val (.long q0), .second, .val (.int p1), .val (.int p2), .val (.int p3), .val (.int p4), .val (.long life), .second, .val (.int (0 : Int32)), .unset, .unset, .unset, .unset, .unset, .unset, .unset, .unset, .unset, .unset, .unset] [(.int (255 : Int32)), (.int p4), (.int (0 : Int32)), (.long ((((p1.toUInt32 >>> ((6 : Int32) &&& 31).toUInt32).toInt32) &&& (3 : Int32)).toInt64)), (.long (((1 : Int32) + (((p1.toUInt32 >>> ((3 : Int32) &&& 31).toUInt32).toInt32) &&& (7 : Int32))).toInt64)), (.long life), (.double (4636737291354636288 : UInt64)), (.ref b2), (.ref b2)])) _
      refine XS.iand X2.here hx rfl (hb hby at_58) rfl ?_
      exact kt
    obtain ⟨_, _, ⟨T3, L3, k3, n3⟩, -, X3, ⟨Lc3, hQ3, l3, y3, z3⟩, st3⟩ := X2.specialBack hx (y := (⟨"com/example/pulsekeep/pulsekeep/core/SubscriptionSettings", "<init>", "(DJJJZI)V"⟩ : MethodName)) rfl hown (mvT hZ (hw _ (List.mem_of_getElem? (i := 4) rfl))) (mvT hZ (hw _ (List.mem_of_getElem? (i := 5) rfl))) (mvT hZ (hw _ (List.mem_of_getElem? (i := 6) rfl))) (by decide) (backOf (W := 1) (rm1 l Z a0 hw [] b2 (4636737291354636288 : UInt64) life (((1 : Int32) + (((p1.toUInt32 >>> ((3 : Int32) &&& 31).toUInt32).toInt32) &&& (7 : Int32))).toInt64) ((((p1.toUInt32 >>> ((6 : Int32) &&& 31).toUInt32).toInt32) &&& (3 : Int32)).toInt64) (0 : Int32) (p4 &&& (255 : Int32)) (.double 0) (.long (0 : Int64)) (.long (0 : Int64)) (.long (0 : Int64)) (.int (0 : Int32)) (.int (0 : Int32)) h2 n0 (by omega) F2_publishingIntervalMs A2 (by omega) F2_lifetimeCount F2_maxKeepAliveCount F2_maxNotificationsPerPublish F2_publishingEnabled F2_priority) hZ (hw _ (List.mem_of_getElem? (i := 6) rfl)) (hw _ (List.mem_of_getElem? (i := 2) rfl)) (by decide) (by decide)) (g := (mkF m 59 #[.val (.long q0), .second, .val (.int p1), .val (.int p2), .val (.int p3), .val (.int p4), .val (.long life), .second, .val (.int (0 : Int32)), .unset, .unset, .unset, .unset, .unset, .unset, .unset, .unset, .unset, .unset, .unset] [(.int (p4 &&& (255 : Int32))), (.int (0 : Int32)), (.long ((((p1.toUInt32 >>> ((6 : Int32) &&& 31).toUInt32).toInt32) &&& (3 : Int32)).toInt64)), (.long (((1 : Int32) + (((p1.toUInt32 >>> ((3 : Int32) &&& 31).toUInt32).toInt32) &&& (7 : Int32))).toInt64)), (.long life), (.double (4636737291354636288 : UInt64)), (.ref b2), (.ref b2)])) rfl (by rw [hml]; rfl) (Steps.refl _) (a := b2) (argsL := [(.double (4636737291354636288 : UInt64)), (.long life), (.long (((1 : Int32) + (((p1.toUInt32 >>> ((3 : Int32) &&& 31).toUInt32).toInt32) &&& (7 : Int32))).toInt64)), (.long ((((p1.toUInt32 >>> ((6 : Int32) &&& 31).toUInt32).toInt32) &&& (3 : Int32)).toInt64)), (.int (0 : Int32)), (.int (p4 &&& (255 : Int32)))]) (rest := [(.ref b2)]) (lenOf pd0_0 rfl) rfl (by show 2 * 0 + _ ≤ _; exact Nat.le_of_eq rfl) (hb hby at_59) (fun vm₁ hvm => ⟨rfl, e2, (by decide : 1 + 0 ≤ _), (by decide : 6 + 0 ≤ _)⟩)
    dsimp only [Pt.U, Pt.locs, Pt.cells, Pt.slots] at X3 l3 y3 z3 st3 hQ3
    subst l3 y3 z3
    obtain ⟨rfl, N3q, K3, KF3, Y3_0, Y3_1, Y3_2, Y3_3, Y3_4, Y3_5⟩ := hQ3
    have sz3 : h2.size ≤ T3.heap.size := K3.1
    have N3 := Fr.app N0 N3q
    refine Go.trans st3 ?_
    show Go p e below s _ _ _ (T3.setTop (mkF m 62 #[.val (.long q0), .second, .val (.int p1), .val (.int p2), .val (.int p3), .val (.int p4), .val (.long life), .second, .val (.int (0 : Int32)), .unset, .unset, .unset, .unset, .unset, .unset, .unset, .unset, .unset, .unset, .unset] [(.ref b2)]))
    refine Go.pre (st' := T3.setTop (mkF m 64 #[.val (.long q0), .second, .val (.int p1), .val (.int p2), .val (.int p3), .val (.int p4), .val (.long life), .second, .val (.int (0 : Int32)), .val (.ref b2), .unset, .unset, .unset, .unset, .unset, .unset, .unset, .unset, .unset, .unset] [])) (fun target kt => ?_) ?_
    · show Steps p.tables e below (T3.setTop (mkF m 62 #[.val (.long q0), .second, .val (.int p1), .val (.int p2), .val (.int p3), .val (.int p4), .val (.long life), .second, .val (.int (0 : Int32)), .unset, .unset, .unset, .unset, .unset, .unset, .unset, .unset, .unset, .unset, .unset] [(.ref b2)])) _
      refine XS.astore X3.here hx rfl (hb hby at_62) rfl rfl (l' := #[.val (.long q0), .second, .val (.int p1), .val (.int p2), .val (.int p3), .val (.int p4), .val (.long life), .second, .val (.int (0 : Int32)), .val (.ref b2), .unset, .unset, .unset, .unset, .unset, .unset, .unset, .unset, .unset, .unset]) rfl ?_
      exact kt
    obtain ⟨T4, h4, X4, e4, E4, A4, D4, -, st4⟩ := newO X3 hx hZ hown (hw _ (List.mem_of_getElem? (i := 27) rfl)) (hw _ (List.mem_of_getElem? (i := 28) rfl)) (hw _ (List.mem_of_getElem? (i := 29) rfl)) rfl (g := (mkF m 64 #[.val (.long q0), .second, .val (.int p1), .val (.int p2), .val (.int p3), .val (.int p4), .val (.long life), .second, .val (.int (0 : Int32)), .val (.ref b2), .unset, .unset, .unset, .unset, .unset, .unset, .unset, .unset, .unset, .unset] [])) rfl (hb hby at_64) (by decide) (by decide)
    obtain ⟨b4, g4⟩ : ∃ z, z = T3.heap.size := ⟨_, rfl⟩
    rw [← g4] at A4 D4 st4
    have sz4 : T3.heap.size ≤ h4.size := E4.1
    have lt4 : b4 < h4.size := A4.lt
    have F4_items : Fld Z h4 b4 "com/example/pulsekeep/pulsekeep/core/Subscription" "items" "Ljava/util/List;" .null := D4 (Or.inr (hw _ (List.mem_of_getElem? (i := 88) rfl))) (ty := (.object "java/util/List")) (by decide)
    have F4_valueBudget : Fld Z h4 b4 "com/example/pulsekeep/pulsekeep/core/Subscription" "valueBudget" "Lcom/example/pulsekeep/pulsekeep/core/MonitoredItem$ValueBudget;" .null := D4 (Or.inr (hw _ (List.mem_of_getElem? (i := 97) rfl))) (ty := (.object "com/example/pulsekeep/pulsekeep/core/MonitoredItem$ValueBudget")) (by decide)
    have F4_stopPacing : Fld Z h4 b4 "com/example/pulsekeep/pulsekeep/core/Subscription" "stopPacing" "Ljava/lang/Runnable;" .null := D4 (Or.inl (hw _ (List.mem_of_getElem? (i := 102) rfl))) (ty := (.object "java/lang/Runnable")) (by decide)
    have F4_nextItemId : Fld Z h4 b4 "com/example/pulsekeep/pulsekeep/core/Subscription" "nextItemId" "J" (.long (0 : Int64)) := D4 (Or.inl (hw _ (List.mem_of_getElem? (i := 104) rfl))) (ty := .long) (by decide)
    have F4_nextSequenceNumber : Fld Z h4 b4 "com/example/pulsekeep/pulsekeep/core/Subscription" "nextSequenceNumber" "J" (.long (0 : Int64)) := D4 (Or.inl (hw _ (List.mem_of_getElem? (i := 106) rfl))) (ty := .long) (by decide)
    have F4_nextPartAt : Fld Z h4 b4 "com/example/pulsekeep/pulsekeep/core/Subscription" "nextPartAt" "I" (.int (0 : Int32)) := D4 (Or.inl (hw _ (List.mem_of_getElem? (i := 108) rfl))) (ty := .int) (by decide)
    have F4_id : Fld Z h4 b4 "com/example/pulsekeep/pulsekeep/core/Subscription" "id" "J" (.long (0 : Int64)) := D4 (Or.inr (hw _ (List.mem_of_getElem? (i := 110) rfl))) (ty := .long) (by decide)
    have F4_owner : Fld Z h4 b4 "com/example/pulsekeep/pulsekeep/core/Subscription" "owner" "Lcom/example/pulsekeep/pulsekeep/core/Subscriber;" .null := D4 (Or.inl (hw _ (List.mem_of_getElem? (i := 112) rfl))) (ty := (.object "com/example/pulsekeep/pulsekeep/core/Subscriber")) (by decide)
    have F4_settings : Fld Z h4 b4 "com/example/pulsekeep/pulsekeep/core/Subscription" "settings" "Lcom/example/pulsekeep/pulsekeep/core/SubscriptionSettings;" .null := D4 (Or.inl (hw _ (List.mem_of_getElem? (i := 114) rfl))) (ty := (.object "com/example/pulsekeep/pulsekeep/core/SubscriptionSettings")) (by decide)
    have F4_messageSent : Fld Z h4 b4 "com/example/pulsekeep/pulsekeep/core/Subscription" "messageSent" "Z" (.int (0 : Int32)) := D4 (Or.inl (hw _ (List.mem_of_getElem? (i := 130) rfl))) (ty := .boolean) (by decide)
    have F4_cyclesWithoutRequest : Fld Z h4 b4 "com/example/pulsekeep/pulsekeep/core/Subscription" "cyclesWithoutRequest" "J" (.long (0 : Int64)) := D4 (Or.inl (hw _ (List.mem_of_getElem? (i := 132) rfl))) (ty := .long) (by decide)
    have F4_messageDue : Fld Z h4 b4 "com/example/pulsekeep/pulsekeep/core/Subscription" "messageDue" "Z" (.int (0 : Int32)) := D4 (Or.inl (hw _ (List.mem_of_getElem? (i := 139) rfl))) (ty := .boolean) (by decide)
    have F4_emptyCycles : Fld Z h4 b4 "com/example/pulsekeep/pulsekeep/core/Subscription" "emptyCycles" "J" (.long (0 : Int64)) := D4 (Or.inl (hw _ (List.mem_of_getElem? (i := 149) rfl))) (ty := .long) (by decide)
    refine Go.pre st4 ?_
    show Go p e below s _ _ _ (T4.setTop (mkF m 67 #[.val (.long q0), .second, .val (.int p1), .val (.int p2), .val (.int p3), .val (.int p4), .val (.long life), .second, .val (.int (0 : Int32)), .val (.ref b2), .unset, .unset, .unset, .unset, .unset, .unset, .unset, .unset, .unset, .unset] [(.ref b4)]))
    refine Go.pre (st' := T4.setTop (mkF m 69 #[.val (.long q0), .second, .val (.int p1), .val (.int p2), .val (.int p3), .val (.int p4), .val (.long life), .second, .val (.int (0 : Int32)), .val (.ref b2), .unset, .unset, .unset, .unset, .unset, .unset, .unset, .unset, .unset, .unset] [(.long q0), (.ref b4), (.ref b4)])) (fun target kt => ?_) ?_
    · show Steps p.tables e below (T4.setTop (mkF m 67 #[.val (.long q0), .second, .val (.int p1), .val (.int p2), .val (.int p3), .val (.int p4), .val (.long life), .second, .val (.int (0 : Int32)), .val (.ref b2), .unset, .unset, .unset, .unset, .unset, .unset, .unset, .unset, .unset, .unset] [(.ref b4)])) _
      refine XS.dup X4.here hx rfl (hb hby at_67) rfl rfl ?_
      show Steps p.tables e below (T4.setTop (mkF m 68 #[.val (.long q0), .second, .val (.int p1), .val (.int p2), .val (.int p3), .val (.int p4), .val (.long life), .second, .val (.int (0 : Int32)), .val (.ref b2), .unset, .unset, .unset, .unset, .unset, .unset, .unset, .unset, .unset, .unset] [(.ref b4), (.ref b4)])) _
      refine XS.lloadN X4.here hx rfl (hb hby at_68) rfl ?_
      exact kt
    obtain ⟨T5, h5, X5, e5, E5, A5, D5, -, st5⟩ := newO X4 hx hZ hown (hw _ (List.mem_of_getElem? (i := 30) rfl)) (hw _ (List.mem_of_getElem? (i := 31) rfl)) (hw _ (List.mem_of_getElem? (i := 32) rfl)) e4 (g := (mkF m 69 #[.val (.long q0), .second, .val (.int p1), .val (.int p2), .val (.int p3), .val (.int p4), .val (.long life), .second, .val (.int (0 : Int32)), .val (.ref b2), .unset, .unset, .unset, .unset, .unset, .unset, .unset, .unset, .unset, .unset] [(.long q0), (.ref b4), (.ref b4)])) rfl (hb hby at_69) (by decide) (by decide)
    obtain ⟨b5, g5⟩ : ∃ z, z = h4.size := ⟨_, rfl⟩
    rw [← g5] at A5 D5 st5
    have sz5 : h4.size ≤ h5.size := E5.1
    have lt5 : b5 < h5.size := A5.lt
    have F5_subscriptions : Fld Z h5 b5 "com/example/pulsekeep/pulsekeep/core/Subscriber" "subscriptions" "Ljava/util/List;" .null := D5 (Or.inr (hw _ (List.mem_of_getElem? (i := 62) rfl))) (ty := (.object "java/util/List")) (by decide)
    have F5_requests : Fld Z h5 b5 "com/example/pulsekeep/pulsekeep/core/Subscriber" "requests" "Ljava/util/ArrayDeque;" .null := D5 (Or.inr (hw _ (List.mem_of_getElem? (i := 76) rfl))) (ty := (.object "java/util/ArrayDeque")) (by decide)
    have F5_kept : Fld Z h5 b5 "com/example/pulsekeep/pulsekeep/core/Subscriber" "kept" "Ljava/util/ArrayDeque;" .null := D5 (Or.inr (hw _ (List.mem_of_getElem? (i := 78) rfl))) (ty := (.object "java/util/ArrayDeque")) (by decide)
    have F5_departures : Fld Z h5 b5 "com/example/pulsekeep/pulsekeep/core/Subscriber" "departures" "Ljava/util/ArrayDeque;" .null := D5 (Or.inr (hw _ (List.mem_of_getElem? (i := 80) rfl))) (ty := (.object "java/util/ArrayDeque")) (by decide)
    refine Go.pre st5 ?_
    show Go p e below s _ _ _ (T5.setTop (mkF m 72 #[.val (.long q0), .second, .val (.int p1), .val (.int p2), .val (.int p3), .val (.int p4), .val (.long life), .second, .val (.int (0 : Int32)), .val (.ref b2), .unset, .unset, .unset, .unset, .unset, .unset, .unset, .unset, .unset, .unset] [(.ref b5), (.long q0), (.ref b4), (.ref b4)]))
    refine Go.pre (st' := T5.setTop (mkF m 73 #[.val (.long q0), .second, .val (.int p1), .val (.int p2), .val (.int p3), .val (.int p4), .val (.long life), .second, .val (.int (0 : Int32)), .val (.ref b2), .unset, .unset, .unset, .unset, .unset, .unset, .unset, .unset, .unset, .unset] [(.ref b5), (.ref b5), (.long q0), (.ref b4), (.ref b4)])) (fun target kt => ?_) ?_
    · show Steps p.tables e below (T5.setTop (mkF m 72 #[.val (.long q0), .second, .val (.int p1), .val (.int p2), .val (.int p3), .val (.int p4), .val (.long life), .second, .val (.int (0 : Int32)), .val (.ref b2), .unset, .unset, .unset, .unset, .unset, .unset, .unset, .unset, .unset, .unset] [(.ref b5), (.long q0), (.ref b4), (.ref b4)])) _
      refine XS.dup X5.here hx rfl (hb hby at_72) rfl rfl ?_
      exact kt
    have Y8 : Old Z n0 h5 := ((((Ol.ext E2).keep K3 (allS (by omega) all0)).ext E4).ext E5)
    obtain ⟨_, _, ⟨T6, L6, k6, n6⟩, -, X6, ⟨Lc6, hQ6, l6, y6, z6⟩, st6⟩ := X5.specialBack hx (y := (⟨"com/example/pulsekeep/pulsekeep/core/Subscriber", "<init>", "()V"⟩ : MethodName)) rfl hown (mvT hZ (hw _ (List.mem_of_getElem? (i := 33) rfl))) (mvT hZ (hw _ (List.mem_of_getElem? (i := 34) rfl))) (mvT hZ (hw _ (List.mem_of_getElem? (i := 35) rfl))) (by decide) (backOf (W := 5) (rm4 l Z a0 hw [] b5 z7 .null .null .null .null h5 n0 (by omega) S_DEFAULTCAPACITY_EMPTY_ELEMENTDATA Y8 F5_subscriptions A5 (by omega) F5_requests F5_kept F5_departures) hZ (hw _ (List.mem_of_getElem? (i := 35) rfl)) (hw _ (List.mem_of_getElem? (i := 32) rfl)) (by decide) (by decide)) (g := (mkF m 73 #[.val (.long q0), .second, .val (.int p1), .val (.int p2), .val (.int p3), .val (.int p4), .val (.long life), .second, .val (.int (0 : Int32)), .val (.ref b2), .unset, .unset, .unset, .unset, .unset, .unset, .unset, .unset, .unset, .unset] [(.ref b5), (.ref b5), (.long q0), (.ref b4), (.ref b4)])) rfl (by rw [hml]; rfl) (Steps.refl _) (a := b5) (argsL := []) (rest := [(.ref b5), (.long q0), (.ref b4), (.ref b4)]) (lenOf pd0_1 rfl) rfl (by show 2 * 0 + _ ≤ _; exact Nat.le_of_eq rfl) (hb hby at_73) (fun vm₁ hvm => ⟨rfl, e5, (by decide : 3 + 7 ≤ _), (by decide : 27 + 63 ≤ _)⟩)
    dsimp only [Pt.U, Pt.locs, Pt.cells, Pt.slots] at X6 l6 y6 z6 st6 hQ6
    subst l6 y6 z6
    obtain ⟨b6_0, b6_1, b6_2, b6_3, b6_4, b6_5, b6_6, k6_0, k6_1, k6_2, rfl, N6q, K6, KF6, gb6_0, ltb6_0, gb6_1, ltb6_1, lob6_1, gb6_2, ltb6_2, lob6_2, gb6_3, ltb6_3, lob6_3, gb6_4, ltb6_4, lob6_4, gb6_5, ltb6_5, lob6_5, gb6_6, ltb6_6, lob6_6, Y6_0, Y6_1, Y6_2, Y6_3, Y6_4, Y6_5, Y6_6, Y6_7, Y6_8, Y6_9, Y6_10, Y6_11, Y6_12, Y6_13, Y6_14, Y6_15, Y6_16⟩ := hQ6
    have sz6 : h5.size ≤ T6.heap.size := K6.1
    have N6 := Fr.app N3 N6q
    refine Go.trans st6 ?_
    show Go p e below s _ _ _ (T6.setTop (mkF m 76 #[.val (.long q0), .second, .val (.int p1), .val (.int p2), .val (.int p3), .val (.int p4), .val (.long life), .second, .val (.int (0 : Int32)), .val (.ref b2), .unset, .unset, .unset, .unset, .unset, .unset, .unset, .unset, .unset, .unset] [(.ref b5), (.long q0), (.ref b4), (.ref b4)]))
    refine Go.pre (st' := T6.setTop (mkF m 78 #[.val (.long q0), .second, .val (.int p1), .val (.int p2), .val (.int p3), .val (.int p4), .val (.long life), .second, .val (.int (0 : Int32)), .val (.ref b2), .unset, .unset, .unset, .unset, .unset, .unset, .unset, .unset, .unset, .unset] [(.ref b2), (.ref b5), (.long q0), (.ref b4), (.ref b4)])) (fun target kt => ?_) ?_
    · show Steps p.tables e below (T6.setTop (mkF m 76 #[.val (.long q0), .second, .val (.int p1), .val (.int p2), .val (.int p3), .val (.int p4), .val (.long life), .second, .val (.int (0 : Int32)), .val (.ref b2), .unset, .unset, .unset, .unset, .unset, .unset, .unset, .unset, .unset, .unset] [(.ref b5), (.long q0), (.ref b4), (.ref b4)])) _
      refine XS.aload X6.here hx rfl (hb hby at_76) rfl rfl ?_
      exact kt
    have Y10 : Old Z n0 T6.heap := (Y8.keep K6 (allS (by omega) all0))
    have Y11 : Fld Z T6.heap b4 "com/example/pulsekeep/pulsekeep/core/Subscription" "items" "Ljava/util/List;" .null := ((F4_items.ext E5).keep K6 (ninS (by show @Ne Nat b4 b5; omega) nin0))
    have Y12 : Exa Z T6.heap b4 "com/example/pulsekeep/pulsekeep/core/Subscription" := ((A4.ext E5).keep K6)
    have Y13 : Fld Z T6.heap b4 "com/example/pulsekeep/pulsekeep/core/Subscription" "valueBudget" "Lcom/example/pulsekeep/pulsekeep/core/MonitoredItem$ValueBudget;" .null := ((F4_valueBudget.ext E5).keep K6 (ninS (by show @Ne Nat b4 b5; omega) nin0))
    have Y14 : Fld Z T6.heap b4 "com/example/pulsekeep/pulsekeep/core/Subscription" "stopPacing" "Ljava/lang/Runnable;" .null := ((F4_stopPacing.ext E5).keep K6 (ninS (by show @Ne Nat b4 b5; omega) nin0))
    have Y15 : Fld Z T6.heap b4 "com/example/pulsekeep/pulsekeep/core/Subscription" "nextItemId" "J" (.long (0 : Int64)) := ((F4_nextItemId.ext E5).keep K6 (ninS (by show @Ne Nat b4 b5; omega) nin0))
    have Y16 : Fld Z T6.heap b4 "com/example/pulsekeep/pulsekeep/core/Subscription" "nextSequenceNumber" "J" (.long (0 : Int64)) := ((F4_nextSequenceNumber.ext E5).keep K6 (ninS (by show @Ne Nat b4 b5; omega) nin0))
    have Y17 : Fld Z T6.heap b4 "com/example/pulsekeep/pulsekeep/core/Subscription" "nextPartAt" "I" (.int (0 : Int32)) := ((F4_nextPartAt.ext E5).keep K6 (ninS (by show @Ne Nat b4 b5; omega) nin0))
    have Y18 : Fld Z T6.heap b4 "com/example/pulsekeep/pulsekeep/core/Subscription" "id" "J" (.long (0 : Int64)) := ((F4_id.ext E5).keep K6 (ninS (by show @Ne Nat b4 b5; omega) nin0))
    have Y19 : Fld Z T6.heap b4 "com/example/pulsekeep/pulsekeep/core/Subscription" "owner" "Lcom/example/pulsekeep/pulsekeep/core/Subscriber;" .null := ((F4_owner.ext E5).keep K6 (ninS (by show @Ne Nat b4 b5; omega) nin0))
    have Y20 : Fld Z T6.heap b4 "com/example/pulsekeep/pulsekeep/core/Subscription" "settings" "Lcom/example/pulsekeep/pulsekeep/core/SubscriptionSettings;" .null := ((F4_settings.ext E5).keep K6 (ninS (by show @Ne Nat b4 b5; omega) nin0))
    obtain ⟨_, _, ⟨T9, L9, k9, n9⟩, -, X9, ⟨Lc9, hQ9, l9, y9, z9⟩, st9⟩ := X6.specialBack hx (y := (⟨"com/example/pulsekeep/pulsekeep/core/Subscription", "<init>", "(JLcom/example/pulsekeep/pulsekeep/core/Subscriber;Lcom/example/pulsekeep/pulsekeep/core/SubscriptionSettings;)V"⟩ : MethodName)) rfl hown (mvT hZ (hw _ (List.mem_of_getElem? (i := 81) rfl))) (mvT hZ (hw _ (List.mem_of_getElem? (i := 82) rfl))) (mvT hZ (hw _ (List.mem_of_getElem? (i := 83) rfl))) (by decide) (backOfL (W := 1) (rm9 l Z a0 hw [] b4 q0 b5 b2 z7 .null .null .null (.long (0 : Int64)) (.long (0 : Int64)) (.int (0 : Int32)) (.long (0 : Int64)) .null .null T6.heap n0 (by omega) S_DEFAULTCAPACITY_EMPTY_ELEMENTDATA Y10 Y11 Y12 (by omega) Y13 Y14 Y15 Y16 Y17 Y18 Y19 Y20) hZ (hw _ (List.mem_of_getElem? (i := 83) rfl)) (hw _ (List.mem_of_getElem? (i := 29) rfl)) (by decide) (by decide)) (g := (mkF m 78 #[.val (.long q0), .second, .val (.int p1), .val (.int p2), .val (.int p3), .val (.int p4), .val (.long life), .second, .val (.int (0 : Int32)), .val (.ref b2), .unset, .unset, .unset, .unset, .unset, .unset, .unset, .unset, .unset, .unset] [(.ref b2), (.ref b5), (.long q0), (.ref b4), (.ref b4)])) rfl (by rw [hml]; rfl) (Steps.refl _) (a := b4) (argsL := [(.long q0), (.ref b5), (.ref b2)]) (rest := [(.ref b4)]) (lenOf pd0_2 rfl) rfl (by show 2 * 0 + _ ≤ _; exact Nat.le_of_eq rfl) (hb hby at_78) (fun vm₁ hvm => ⟨rfl, rfl, (by decide : 10 + 2 ≤ _), (by decide : 90 + 5 ≤ _), EXL.rides (t := T6.setVm vm₁) hEX hvm X6.same⟩)
    dsimp only [Pt.U, Pt.locs, Pt.cells, Pt.slots] at X9 l9 y9 z9 st9 hQ9
    subst l9 y9 z9
    obtain ⟨b9_0, b9_1, rfl, N9q, K9, KF9, gb9_0, ltb9_0, gb9_1, ltb9_1, lob9_1, Y9_0, Y9_1, Y9_2, Y9_3, Y9_4, Y9_5, Y9_6, Y9_7, Y9_8, Y9_9, Y9_10, Y9_11, Y9_12⟩ := hQ9
    have sz9 : T6.heap.size ≤ T9.heap.size := K9.1
    have N9 := Fr.app N6 N9q
    refine Go.trans st9 ?_
    show Go p e below s _ _ _ (T9.setTop (mkF m 81 #[.val (.long q0), .second, .val (.int p1), .val (.int p2), .val (.int p3), .val (.int p4), .val (.long life), .second, .val (.int (0 : Int32)), .val (.ref b2), .unset, .unset, .unset, .unset, .unset, .unset, .unset, .unset, .unset, .unset] [(.ref b4)]))
    refine Go.pre (st' := T9.setTop (mkF m 88 #[.val (.long q0), .second, .val (.int p1), .val (.int p2), .val (.int p3), .val (.int p4), .val (.long life), .second, .val (.int (0 : Int32)), .val (.ref b2), .val (.ref b4), .val (.int (p2 &&& (3 : Int32))), .unset, .unset, .unset, .unset, .unset, .unset, .unset, .unset] [])) (fun target kt => ?_) ?_
    · show Steps p.tables e below (T9.setTop (mkF m 81 #[.val (.long q0), .second, .val (.int p1), .val (.int p2), .val (.int p3), .val (.int p4), .val (.long life), .second, .val (.int (0 : Int32)), .val (.ref b2), .unset, .unset, .unset, .unset, .unset, .unset, .unset, .unset, .unset, .unset] [(.ref b4)])) _
      refine XS.astore X9.here hx rfl (hb hby at_81) rfl rfl (l' := #[.val (.long q0), .second, .val (.int p1), .val (.int p2), .val (.int p3), .val (.int p4), .val (.long life), .second, .val (.int (0 : Int32)), .val (.ref b2), .val (.ref b4), .unset, .unset, .unset, .unset, .unset, .unset, .unset, .unset, .unset]) rfl ?_
      show Steps p.tables e below (T9.setTop (mkF m 83 #[.val (.long q0), .second, .val (.int p1), .val (.int p2), .val (.int p3), .val (.int p4), .val (.long life), .second, .val (.int (0 : Int32)), .val (.ref b2), .val (.ref b4), .unset, .unset, .unset, .unset, .unset, .unset, .unset, .unset, .unset] [])) _
      refine XS.iloadN X9.here hx rfl (hb hby at_83) rfl ?_
      show Steps p.tables e below (T9.setTop (mkF m 84 #[.val (.long q0), .second, .val (.int p1), .val (.int p2), .val (.int p3), .val (.int p4), .val (.long life), .second, .val (.int (0 : Int32)), .val (.ref b2), .val (.ref b4), .unset, .unset, .unset, .unset, .unset, .unset, .unset, .unset, .unset] [(.int p2)])) _
      refine XS.iconst X9.here hx rfl (hb hby at_84) ?_
      show Steps p.tables e below (T9.setTop (mkF m 85 #[.val (.long q0), .second, .val (.int p1), .val (.int p2), .val (.int p3), .val (.int p4), .val (.long life), .second, .val (.int (0 : Int32)), .val (.ref b2), .val (.ref b4), .unset, .unset, .unset, .unset, .unset, .unset, .unset, .unset, .unset] [(.int (3 : Int32)), (.int p2)])) _
      refine XS.iand X9.here hx rfl (hb hby at_85) rfl ?_
      show Steps p.tables e below (T9.setTop (mkF m 86 #[.val (.long q0), .second, .val (.int p1), .val (.int p2), .val (.int p3), .val (.int p4), .val (.long life), .second, .val (.int (0 : Int32)), .val (.ref b2), .val (.ref b4), .unset, .unset, .unset, .unset, .unset, .unset, .unset, .unset, .unset] [(.int (p2 &&& (3 : Int32)))])) _
      refine XS.istore X9.here hx rfl (hb hby at_86) rfl (l' := #[.val (.long q0), .second, .val (.int p1), .val (.int p2), .val (.int p3), .val (.int p4), .val (.long life), .second, .val (.int (0 : Int32)), .val (.ref b2), .val (.ref b4), .val (.int (p2 &&& (3 : Int32))), .unset, .unset, .unset, .unset, .unset, .unset, .unset, .unset]) rfl ?_
      exact kt
    have C : Ctx p s m meth c Z code 20 "com/example/pulsekeep/pulsekeep/core/SubscriptionStartAgainPinLaw" (some .boolean) := ⟨hx, hZ, hby, hml, hown, hrt, hlk⟩
    have Y22 : Old Z n0 T9.heap := (Y10.keep K9 (allS (by omega) all0))
    have Y24 : Exa Z T9.heap b4 "com/example/pulsekeep/pulsekeep/core/Subscription" := (Y12.keep K9)
    have Y25 : Exa Z T9.heap b2 "com/example/pulsekeep/pulsekeep/core/SubscriptionSettings" := (((((A2.keep K3).ext E4).ext E5).keep K6).keep K9)
    have Y26 : Fld Z T9.heap b2 "com/example/pulsekeep/pulsekeep/core/SubscriptionSettings" "publishingEnabled" "Z" (.int ((0 : Int32) &&& 1)) := ((((Y3_4.ext E4).ext E5).keep K6 (ninS (by show @Ne Nat b2 b5; omega) nin0)).keep K9 (ninS (by show @Ne Nat b2 b4; omega) nin0))
    have Y27 : Fld Z T9.heap b2 "com/example/pulsekeep/pulsekeep/core/SubscriptionSettings" "lifetimeCount" "J" (.long life) := ((((Y3_1.ext E4).ext E5).keep K6 (ninS (by show @Ne Nat b2 b5; omega) nin0)).keep K9 (ninS (by show @Ne Nat b2 b4; omega) nin0))
    have Y28 : Fld Z T9.heap b4 "com/example/pulsekeep/pulsekeep/core/Subscription" "messageSent" "Z" (.int (0 : Int32)) := (KF9 _ _ _ _ _ ((F4_messageSent.ext E5).keep K6 (ninS (by show @Ne Nat b4 b5; omega) nin0)) (pallS (Or.inr (slot_ne (Or.inl (hw _ (List.mem_of_getElem? (i := 130) rfl))) (Or.inr (hw _ (List.mem_of_getElem? (i := 88) rfl))) (by decide) (t := .boolean) (t' := (.object "java/util/List")) (by decide) (by decide))) (pallS (Or.inr (slot_ne (Or.inl (hw _ (List.mem_of_getElem? (i := 130) rfl))) (Or.inr (hw _ (List.mem_of_getElem? (i := 97) rfl))) (by decide) (t := .boolean) (t' := (.object "com/example/pulsekeep/pulsekeep/core/MonitoredItem$ValueBudget")) (by decide) (by decide))) (pallS (Or.inr (slot_ne (Or.inl (hw _ (List.mem_of_getElem? (i := 130) rfl))) (Or.inl (hw _ (List.mem_of_getElem? (i := 102) rfl))) (by decide) (t := .boolean) (t' := (.object "java/lang/Runnable")) (by decide) (by decide))) (pallS (Or.inr (slot_ne (Or.inl (hw _ (List.mem_of_getElem? (i := 130) rfl))) (Or.inl (hw _ (List.mem_of_getElem? (i := 104) rfl))) (by decide) (t := .boolean) (t' := .long) (by decide) (by decide))) (pallS (Or.inr (slot_ne (Or.inl (hw _ (List.mem_of_getElem? (i := 130) rfl))) (Or.inl (hw _ (List.mem_of_getElem? (i := 106) rfl))) (by decide) (t := .boolean) (t' := .long) (by decide) (by decide))) (pallS (Or.inr (slot_ne (Or.inl (hw _ (List.mem_of_getElem? (i := 130) rfl))) (Or.inl (hw _ (List.mem_of_getElem? (i := 108) rfl))) (by decide) (t := .boolean) (t' := .int) (by decide) (by decide))) (pallS (Or.inr (slot_ne (Or.inl (hw _ (List.mem_of_getElem? (i := 130) rfl))) (Or.inr (hw _ (List.mem_of_getElem? (i := 110) rfl))) (by decide) (t := .boolean) (t' := .long) (by decide) (by decide))) (pallS (Or.inr (slot_ne (Or.inl (hw _ (List.mem_of_getElem? (i := 130) rfl))) (Or.inl (hw _ (List.mem_of_getElem? (i := 112) rfl))) (by decide) (t := .boolean) (t' := (.object "com/example/pulsekeep/pulsekeep/core/Subscriber")) (by decide) (by decide))) (pallS (Or.inr (slot_ne (Or.inl (hw _ (List.mem_of_getElem? (i := 130) rfl))) (Or.inl (hw _ (List.mem_of_getElem? (i := 114) rfl))) (by decide) (t := .boolean) (t' := (.object "com/example/pulsekeep/pulsekeep/core/SubscriptionSettings")) (by decide) (by decide))) pall0))))))))))
    have Y29 : Fld Z T9.heap b4 "com/example/pulsekeep/pulsekeep/core/Subscription" "cyclesWithoutRequest" "J" (.long (0 : Int64)) := (KF9 _ _ _ _ _ ((F4_cyclesWithoutRequest.ext E5).keep K6 (ninS (by show @Ne Nat b4 b5; omega) nin0)) (pallS (Or.inr (slot_ne (Or.inl (hw _ (List.mem_of_getElem? (i := 132) rfl))) (Or.inr (hw _ (List.mem_of_getElem? (i := 88) rfl))) (by decide) (t := .long) (t' := (.object "java/util/List")) (by decide) (by decide))) (pallS (Or.inr (slot_ne (Or.inl (hw _ (List.mem_of_getElem? (i := 132) rfl))) (Or.inr (hw _ (List.mem_of_getElem? (i := 97) rfl))) (by decide) (t := .long) (t' := (.object "com/example/pulsekeep/pulsekeep/core/MonitoredItem$ValueBudget")) (by decide) (by decide))) (pallS (Or.inr (slot_ne (Or.inl (hw _ (List.mem_of_getElem? (i := 132) rfl))) (Or.inl (hw _ (List.mem_of_getElem? (i := 102) rfl))) (by decide) (t := .long) (t' := (.object "java/lang/Runnable")) (by decide) (by decide))) (pallS (Or.inr (slot_ne (Or.inl (hw _ (List.mem_of_getElem? (i := 132) rfl))) (Or.inl (hw _ (List.mem_of_getElem? (i := 104) rfl))) (by decide) (t := .long) (t' := .long) (by decide) (by decide))) (pallS (Or.inr (slot_ne (Or.inl (hw _ (List.mem_of_getElem? (i := 132) rfl))) (Or.inl (hw _ (List.mem_of_getElem? (i := 106) rfl))) (by decide) (t := .long) (t' := .long) (by decide) (by decide))) (pallS (Or.inr (slot_ne (Or.inl (hw _ (List.mem_of_getElem? (i := 132) rfl))) (Or.inl (hw _ (List.mem_of_getElem? (i := 108) rfl))) (by decide) (t := .long) (t' := .int) (by decide) (by decide))) (pallS (Or.inr (slot_ne (Or.inl (hw _ (List.mem_of_getElem? (i := 132) rfl))) (Or.inr (hw _ (List.mem_of_getElem? (i := 110) rfl))) (by decide) (t := .long) (t' := .long) (by decide) (by decide))) (pallS (Or.inr (slot_ne (Or.inl (hw _ (List.mem_of_getElem? (i := 132) rfl))) (Or.inl (hw _ (List.mem_of_getElem? (i := 112) rfl))) (by decide) (t := .long) (t' := (.object "com/example/pulsekeep/pulsekeep/core/Subscriber")) (by decide) (by decide))) (pallS (Or.inr (slot_ne (Or.inl (hw _ (List.mem_of_getElem? (i := 132) rfl))) (Or.inl (hw _ (List.mem_of_getElem? (i := 114) rfl))) (by decide) (t := .long) (t' := (.object "com/example/pulsekeep/pulsekeep/core/SubscriptionSettings")) (by decide) (by decide))) pall0))))))))))
    have Y30 : Fld Z T9.heap b4 "com/example/pulsekeep/pulsekeep/core/Subscription" "messageDue" "Z" (.int (0 : Int32)) := (KF9 _ _ _ _ _ ((F4_messageDue.ext E5).keep K6 (ninS (by show @Ne Nat b4 b5; omega) nin0)) (pallS (Or.inr (slot_ne (Or.inl (hw _ (List.mem_of_getElem? (i := 139) rfl))) (Or.inr (hw _ (List.mem_of_getElem? (i := 88) rfl))) (by decide) (t := .boolean) (t' := (.object "java/util/List")) (by decide) (by decide))) (pallS (Or.inr (slot_ne (Or.inl (hw _ (List.mem_of_getElem? (i := 139) rfl))) (Or.inr (hw _ (List.mem_of_getElem? (i := 97) rfl))) (by decide) (t := .boolean) (t' := (.object "com/example/pulsekeep/pulsekeep/core/MonitoredItem$ValueBudget")) (by decide) (by decide))) (pallS (Or.inr (slot_ne (Or.inl (hw _ (List.mem_of_getElem? (i := 139) rfl))) (Or.inl (hw _ (List.mem_of_getElem? (i := 102) rfl))) (by decide) (t := .boolean) (t' := (.object "java/lang/Runnable")) (by decide) (by decide))) (pallS (Or.inr (slot_ne (Or.inl (hw _ (List.mem_of_getElem? (i := 139) rfl))) (Or.inl (hw _ (List.mem_of_getElem? (i := 104) rfl))) (by decide) (t := .boolean) (t' := .long) (by decide) (by decide))) (pallS (Or.inr (slot_ne (Or.inl (hw _ (List.mem_of_getElem? (i := 139) rfl))) (Or.inl (hw _ (List.mem_of_getElem? (i := 106) rfl))) (by decide) (t := .boolean) (t' := .long) (by decide) (by decide))) (pallS (Or.inr (slot_ne (Or.inl (hw _ (List.mem_of_getElem? (i := 139) rfl))) (Or.inl (hw _ (List.mem_of_getElem? (i := 108) rfl))) (by decide) (t := .boolean) (t' := .int) (by decide) (by decide))) (pallS (Or.inr (slot_ne (Or.inl (hw _ (List.mem_of_getElem? (i := 139) rfl))) (Or.inr (hw _ (List.mem_of_getElem? (i := 110) rfl))) (by decide) (t := .boolean) (t' := .long) (by decide) (by decide))) (pallS (Or.inr (slot_ne (Or.inl (hw _ (List.mem_of_getElem? (i := 139) rfl))) (Or.inl (hw _ (List.mem_of_getElem? (i := 112) rfl))) (by decide) (t := .boolean) (t' := (.object "com/example/pulsekeep/pulsekeep/core/Subscriber")) (by decide) (by decide))) (pallS (Or.inr (slot_ne (Or.inl (hw _ (List.mem_of_getElem? (i := 139) rfl))) (Or.inl (hw _ (List.mem_of_getElem? (i := 114) rfl))) (by decide) (t := .boolean) (t' := (.object "com/example/pulsekeep/pulsekeep/core/SubscriptionSettings")) (by decide) (by decide))) pall0))))))))))
    have Y31 : Fld Z T9.heap b4 "com/example/pulsekeep/pulsekeep/core/Subscription" "emptyCycles" "J" (.long (0 : Int64)) := (KF9 _ _ _ _ _ ((F4_emptyCycles.ext E5).keep K6 (ninS (by show @Ne Nat b4 b5; omega) nin0)) (pallS (Or.inr (slot_ne (Or.inl (hw _ (List.mem_of_getElem? (i := 149) rfl))) (Or.inr (hw _ (List.mem_of_getElem? (i := 88) rfl))) (by decide) (t := .long) (t' := (.object "java/util/List")) (by decide) (by decide))) (pallS (Or.inr (slot_ne (Or.inl (hw _ (List.mem_of_getElem? (i := 149) rfl))) (Or.inr (hw _ (List.mem_of_getElem? (i := 97) rfl))) (by decide) (t := .long) (t' := (.object "com/example/pulsekeep/pulsekeep/core/MonitoredItem$ValueBudget")) (by decide) (by decide))) (pallS (Or.inr (slot_ne (Or.inl (hw _ (List.mem_of_getElem? (i := 149) rfl))) (Or.inl (hw _ (List.mem_of_getElem? (i := 102) rfl))) (by decide) (t := .long) (t' := (.object "java/lang/Runnable")) (by decide) (by decide))) (pallS (Or.inr (slot_ne (Or.inl (hw _ (List.mem_of_getElem? (i := 149) rfl))) (Or.inl (hw _ (List.mem_of_getElem? (i := 104) rfl))) (by decide) (t := .long) (t' := .long) (by decide) (by decide))) (pallS (Or.inr (slot_ne (Or.inl (hw _ (List.mem_of_getElem? (i := 149) rfl))) (Or.inl (hw _ (List.mem_of_getElem? (i := 106) rfl))) (by decide) (t := .long) (t' := .long) (by decide) (by decide))) (pallS (Or.inr (slot_ne (Or.inl (hw _ (List.mem_of_getElem? (i := 149) rfl))) (Or.inl (hw _ (List.mem_of_getElem? (i := 108) rfl))) (by decide) (t := .long) (t' := .int) (by decide) (by decide))) (pallS (Or.inr (slot_ne (Or.inl (hw _ (List.mem_of_getElem? (i := 149) rfl))) (Or.inr (hw _ (List.mem_of_getElem? (i := 110) rfl))) (by decide) (t := .long) (t' := .long) (by decide) (by decide))) (pallS (Or.inr (slot_ne (Or.inl (hw _ (List.mem_of_getElem? (i := 149) rfl))) (Or.inl (hw _ (List.mem_of_getElem? (i := 112) rfl))) (by decide) (t := .long) (t' := (.object "com/example/pulsekeep/pulsekeep/core/Subscriber")) (by decide) (by decide))) (pallS (Or.inr (slot_ne (Or.inl (hw _ (List.mem_of_getElem? (i := 149) rfl))) (Or.inl (hw _ (List.mem_of_getElem? (i := 114) rfl))) (by decide) (t := .long) (t' := (.object "com/example/pulsekeep/pulsekeep/core/SubscriptionSettings")) (by decide) (by decide))) pall0))))))))))
    exact blk88 C hw (padS X9 (by decide) (by decide)) rfl N9 q0 p1 p2 p3 p4 (0 : Int32) b4 (p2 &&& (3 : Int32)) (0 : Int64) z21 z23 b2 b9_0 ((0 : Int32) &&& 1) (0 : Int32) life (0 : Int64) (0 : Int32) (by omega) Y24 Y9_7 Y9_0 Y25 Y26 Y9_8 Y9_10 Y9_9 Y27 Y28 Y29 Y30 Y31 S_DUE S_CLOSE Y22 (by omega)
  · refine Go.pre (st' := s₁.setTop (mkF m 19 #[.val (.long q0), .second, .val (.int p1), .val (.int p2), .val (.int p3), .val (.int p4), .val (.long life), .second, .unset, .unset, .unset, .unset, .unset, .unset, .unset, .unset, .unset, .unset, .unset, .unset] [])) (fun target kt => ?_) ?_
    · show Steps p.tables e below (s₁.setTop (mkF m 16 #[.val (.long q0), .second, .val (.int p1), .val (.int p2), .val (.int p3), .val (.int p4), .val (.long life), .second, .unset, .unset, .unset, .unset, .unset, .unset, .unset, .unset, .unset, .unset, .unset, .unset] [(.int ((p4 >>> ((8 : Int32) &&& 31)) &&& (1 : Int32)))])) _
      refine XS.ifNo X0.here hx rfl (hb hby at_16) rfl ((if0 _ _).trans (feq h16_1).1) ?_
      exact kt
    refine Go.pre (st' := s₁.setTop (mkF m 26 #[.val (.long q0), .second, .val (.int p1), .val (.int p2), .val (.int p3), .val (.int p4), .val (.long life), .second, .val (.int (1 : Int32)), .unset, .unset, .unset, .unset, .unset, .unset, .unset, .unset, .unset, .unset, .unset] [])) (fun target kt => ?_) ?_
    · show Steps p.tables e below (s₁.setTop (mkF m 19 #[.val (.long q0), .second, .val (.int p1), .val (.int p2), .val (.int p3), .val (.int p4), .val (.long life), .second, .unset, .unset, .unset, .unset, .unset, .unset, .unset, .unset, .unset, .unset, .unset, .unset] [])) _
      refine XS.iconst X0.here hx rfl (hb hby at_19) ?_
      show Steps p.tables e below (s₁.setTop (mkF m 20 #[.val (.long q0), .second, .val (.int p1), .val (.int p2), .val (.int p3), .val (.int p4), .val (.long life), .second, .unset, .unset, .unset, .unset, .unset, .unset, .unset, .unset, .unset, .unset, .unset, .unset] [(.int (1 : Int32))])) _
      refine XS.goto X0.here hx rfl (pc0 := 20) (pc' := 24) rfl (hb hby at_20) (by decide) (by decide) ?_
      show Steps p.tables e below (s₁.setTop (mkF m 24 #[.val (.long q0), .second, .val (.int p1), .val (.int p2), .val (.int p3), .val (.int p4), .val (.long life), .second, .unset, .unset, .unset, .unset, .unset, .unset, .unset, .unset, .unset, .unset, .unset, .unset] [(.int (1 : Int32))])) _
      refine XS.istore X0.here hx rfl (hb hby at_24) rfl (l' := #[.val (.long q0), .second, .val (.int p1), .val (.int p2), .val (.int p3), .val (.int p4), .val (.long life), .second, .val (.int (1 : Int32)), .unset, .unset, .unset, .unset, .unset, .unset, .unset, .unset, .unset, .unset, .unset]) rfl ?_
      exact kt
    obtain ⟨T32, h32, X32, e32, E32, A32, D32, -, st32⟩ := newO X0 hx hZ hown (hw _ (List.mem_of_getElem? (i := 0) rfl)) (hw _ (List.mem_of_getElem? (i := 1) rfl)) (hw _ (List.mem_of_getElem? (i := 2) rfl)) e0 (g := (mkF m 26 #[.val (.long q0), .second, .val (.int p1), .val (.int p2), .val (.int p3), .val (.int p4), .val (.long life), .second, .val (.int (1 : Int32)), .unset, .unset, .unset, .unset, .unset, .unset, .unset, .unset, .unset, .unset, .unset] [])) rfl (hb hby at_26) (by decide) (by decide)
    obtain ⟨b32, g32⟩ : ∃ z, z = h0.size := ⟨_, rfl⟩
    rw [← g32] at A32 D32 st32
    have sz32 : h0.size ≤ h32.size := E32.1
    have lt32 : b32 < h32.size := A32.lt
    have F32_publishingIntervalMs : Fld Z h32 b32 "com/example/pulsekeep/pulsekeep/core/SubscriptionSettings" "publishingIntervalMs" "D" (.double 0) := D32 (Or.inr (hw _ (List.mem_of_getElem? (i := 16) rfl))) (ty := .double) (by decide)
    have F32_lifetimeCount : Fld Z h32 b32 "com/example/pulsekeep/pulsekeep/core/SubscriptionSettings" "lifetimeCount" "J" (.long (0 : Int64)) := D32 (Or.inr (hw _ (List.mem_of_getElem? (i := 18) rfl))) (ty := .long) (by decide)
    have F32_maxKeepAliveCount : Fld Z h32 b32 "com/example/pulsekeep/pulsekeep/core/SubscriptionSettings" "maxKeepAliveCount" "J" (.long (0 : Int64)) := D32 (Or.inr (hw _ (List.mem_of_getElem? (i := 20) rfl))) (ty := .long) (by decide)
    have F32_maxNotificationsPerPublish : Fld Z h32 b32 "com/example/pulsekeep/pulsekeep/core/SubscriptionSettings" "maxNotificationsPerPublish" "J" (.long (0 : Int64)) := D32 (Or.inr (hw _ (List.mem_of_getElem? (i := 22) rfl))) (ty := .long) (by decide)
    have F32_publishingEnabled : Fld Z h32 b32 "com/example/pulsekeep/pulsekeep/core/SubscriptionSettings" "publishingEnabled" "Z" (.int (0 : Int32)) := D32 (Or.inr (hw _ (List.mem_of_getElem? (i := 24) rfl))) (ty := .boolean) (by decide)
    have F32_priority : Fld Z h32 b32 "com/example/pulsekeep/pulsekeep/core/SubscriptionSettings" "priority" "I" (.int (0 : Int32)) := D32 (Or.inr (hw _ (List.mem_of_getElem? (i := 26) rfl))) (ty := .int) (by decide)
    refine Go.pre st32 ?_
    show Go p e below s _ _ _ (T32.setTop (mkF m 29 #[.val (.long q0), .second, .val (.int p1), .val (.int p2), .val (.int p3), .val (.int p4), .val (.long life), .second, .val (.int (1 : Int32)), .unset, .unset, .unset, .unset, .unset, .unset, .unset, .unset, .unset, .unset, .unset] [(.ref b32)]))
    refine Go.pre (st' := T32.setTop (mkF m 59 #[.val (.long q0), .second, .val (.int p1), .val (.int p2), .val (.int p3), .val (.int p4), .val (.long life), .second, .val (.int (1 : Int32)), .unset, .unset, .unset, .unset, .unset, .unset, .unset, .unset, .unset, .unset, .unset] [(.int (p4 &&& (255 : Int32))), (.int (1 : Int32)), (.long ((((p1.toUInt32 >>> ((6 : Int32) &&& 31).toUInt32).toInt32) &&& (3 : Int32)).toInt64)), (.long (((1 : Int32) + (((p1.toUInt32 >>> ((3 : Int32) &&& 31).toUInt32).toInt32) &&& (7 : Int32))).toInt64)), (.long life), (.double (4636737291354636288 : UInt64)), (.ref b32), (.ref b32)])) (fun target kt => ?_) ?_
    · show Steps p.tables e below (T32.setTop (mkF m 29 #[.val (.long q0), .second, .val (.int p1), .val (.int p2), .val (.int p3), .val (.int p4), .val (.long life), .second, .val (.int (1 : Int32)), .unset, .unset, .unset, .unset, .unset, .unset, .unset, .unset, .unset, .unset, .unset] [(.ref b32)])) _
      refine XS.dup X32.here hx rfl (hb hby at_29) rfl rfl ?_
      show Steps p.tables e below (T32.setTop (mkF m 30 #[.val (.long q0), .second, .val (.int p1), .val (.int p2), .val (.int p3), .val (.int p4), .val (.long life), .second, .val (.int (1 : Int32)), .unset, .unset, .unset, .unset, .unset, .unset, .unset, .unset, .unset, .unset, .unset] [(.ref b32), (.ref b32)])) _
      refine X32.ldc2DoubleC hx hown (mvT hZ (hw _ (List.mem_of_getElem? (i := 3) rfl))) (g := (mkF m 30 #[.val (.long q0), .second, .val (.int p1), .val (.int p2), .val (.int p3), .val (.int p4), .val (.long life), .second, .val (.int (1 : Int32)), .unset, .unset, .unset, .unset, .unset, .unset, .unset, .unset, .unset, .unset, .unset] [(.ref b32), (.ref b32)])) rfl (hb hby at_30) _ ?_
      show Steps p.tables e below (T32.setTop (mkF m 33 #[.val (.long q0), .second, .val (.int p1), .val (.int p2), .val (.int p3), .val (.int p4), .val (.long life), .second, .val (.int (1 : Int32)), .unset, .unset, .unset, .unset, .unset, .unset, .unset, .unset, .unset, .unset, .unset] [(.double (4636737291354636288 : UInt64)), (.ref b32), (.ref b32)])) _
      refine XS.lload X32.here hx rfl (hb hby at_33) rfl ?_
      show Steps p.tables e below (T32.setTop (mkF m 35 #[.val (.long q0), .second, .val (.int p1), .val (.int p2), .val (.int p3), .val (.int p4), .val (.long life), .second, .val (.int (1 : Int32)), .unset, .unset, .unset, .unset, .unset, .unset, .unset, .unset, .unset, .unset, .unset] [(.long life), (.double (4636737291354636288 : UInt64)), (.ref b32), (.ref b32)])) _
      refine XS.iconst X32.here hx rfl (hb hby at_35) ?_
      show Steps p.tables e below (T32.setTop (mkF m 36 #[.val (.long q0), .second, .val (.int p1), .val (.int p2), .val (.int p3), .val (.int p4), .val (.long life), .second, .val (.int (1 : Int32)), .unset, .unset, .unset, .unset, .unset, .unset, .unset, .unset, .unset, .unset, .unset] [(.int (1 : Int32)), (.long life), (.double (4636737291354636288 : UInt64)), (.ref b32), (.ref b32)])) _
      refine XS.iloadN X32.here hx rfl (hb hby at_36) rfl ?_
      show Steps p.tables e below (T32.setTop (mkF m 37 #[.val (.long q0), .second, .val (.int p1), .val (.int p2), .val (.int p3), .val (.int p4), .val (.long life), .second, .val (.int (1 : Int32)), .unset, .unset, .unset, .unset, .unset, .unset, .unset, .unset, .unset, .unset, .unset] [(.int p1), (.int (1 : Int32)), (.long life), (.double (4636737291354636288 : UInt64)), (.ref b32), (.ref b32)])) _
      refine XS.iconst X32.here hx rfl (hb hby at_37) ?_
      show Steps p.tables e below (T32.setTop (mkF m 38 #[.val (.long q0), .second, .val (.int p1), .val (.int p2), .val (.int p3), .val (.int p4), .val (.long life), .second, .val (.int (1 : Int32)), .unset, .unset, .unset, .unset, .unset, .unset, .unset, .unset, .unset, .unset, .unset] [(.int (3 : Int32)), (.int p1), (.int (1 : Int32)), (.long life), (.double (4636737291354636288 : UInt64)), (.ref b32), (.ref b32)])) _
      refine XS.iushr X32.here hx rfl (hb hby at_38) rfl ?_
      show Steps p.tables e below (T32.setTop (mkF m 39 #[.val (.long q0), .second, .val (.int p1), .val (.int p2), .val (.int p3), .val (.int p4), .val (.long life), .second, .val (.int (1 : Int32)), .unset, .unset, .unset, .unset, .unset, .unset, .unset, .unset, .unset, .unset, .unset] [(.int ((p1.toUInt32 >>> ((3 : Int32) &&& 31).toUInt32).toInt32)), (.int (1 : Int32)), (.long life), (.double (4636737291354636288 : UInt64)), (.ref b32), (.ref b32)])) _
      refine XS.bipush X32.here hx rfl (hb hby at_39) ?_
      show Steps p.tables e below (T32.setTop (mkF m 41 #[.val (.long q0), .second, .val (.int p1), .val (.int p2), .val (.int p3), .val (.int p4), .val (.long life), .second, .val (.int (1 : Int32)), .unset, .unset, .unset, .unset, .unset, .unset, .unset, .unset, .unset, .unset, .unset] [(.int (7 : Int32)), (.int ((p1.toUInt32 >>> ((3 : Int32) &&& 31).toUInt32).toInt32)), (.int (1 : Int32)), (.long life), (.double (4636737291354636288 : UInt64)), (.ref b32), (.ref b32)])) _
      refine XS.iand X32.here hx rfl (hb hby at_41) rfl ?_
      show Steps p.tables e below (T32.setTop (mkF m 42 #[.val (.long q0), .second, .val (.int p1), .val (.int p2), .val (.int p3), .val (.int p4), .val (.long life), .second, .val (.int (1 : Int32)), .unset, .unset, .unset, .unset, .unset, .unset, .unset, .unset, .unset, .unset, .unset] [(.int (((p1.toUInt32 >>> ((3 : Int32) &&& 31).toUInt32).toInt32) &&& (7 : Int32))), (.int (1 : Int32)), (.long life), (.double (4636737291354636288 : UInt64)), (.ref b32), (.ref b32)])) _
      refine XS.iadd X32.here hx rfl (hb hby at_42) rfl ?_
      show Steps p.tables e below (T32.setTop (mkF m 43 #[.val (.long q0), .second, .val (.int p1), .val (.int p2), .val (.int p3), .val (.int p4), .val (.long life), .second, .val (.int (1 : Int32)), .unset, .unset, .unset, .unset, .unset, .unset, .unset, .unset, .unset, .unset, .unset] [(.int ((1 : Int32) + (((p1.toUInt32 >>> ((3 : Int32) &&& 31).toUInt32).toInt32) &&& (7 : Int32)))), (.long life), (.double (4636737291354636288 : UInt64)), (.ref b32), (.ref b32)])) _
      refine XS.i2l X32.here hx rfl (hb hby at_43) rfl ?_
      show Steps p.tables e below (T32.setTop (mkF m 44 #[.val (.long q0), .second, .val (.int p1), .val (.int p2), .val (.int p3), .val (.int p4), .val (.long life), .second, .val (.int (1 : Int32)), .unset, .unset, .unset, .unset, .unset, .unset, .unset, .unset, .unset, .unset, .unset] [(.long (((1 : Int32) + (((p1.toUInt32 >>> ((3 : Int32) &&& 31).toUInt32).toInt32) &&& (7 : Int32))).toInt64)), (.long life), (.double (4636737291354636288 : UInt64)), (.ref b32), (.ref b32)])) _
      refine XS.iloadN X32.here hx rfl (hb hby at_44) rfl ?_
      show Steps p.tables e below (T32.setTop (mkF m 45 #[.val (.long q0), .second, .val (.int p1), .val (.int p2), .val (.int p3), .val (.int p4), .val (.long life), .second, .val (.int (1 : Int32)), .unset, .unset, .unset, .unset, .unset, .unset, .unset, .unset, .unset, .unset, .unset] [(.int p1), (.long (((1 : Int32) + (((p1.toUInt32 >>> ((3 : Int32) &&& 31).toUInt32).toInt32) &&& (7 : Int32))).toInt64)), (.long life), (.double (4636737291354636288 : UInt64)), (.ref b32), (.ref b32)])) _
      refine XS.bipush X32.here hx rfl (hb hby at_45) ?_
      show Steps p.tables e below (T32.setTop (mkF m 47 #[.val (.long q0), .second, .val (.int p1), .val (.int p2), .val (.int p3), .val (.int p4), .val (.long life), .second, .val (.int (1 : Int32)), .unset, .unset, .unset, .unset, .unset, .unset, .unset, .unset, .unset, .unset, .unset] [(.int (6 : Int32)), (.int p1), (.long (((1 : Int32) + (((p1.toUInt32 >>> ((3 : Int32) &&& 31).toUInt32).toInt32) &&& (7 : Int32))).toInt64)), (.long life), (.double (4636737291354636288 : UInt64)), (.ref b32), (.ref b32)])) _
      refine XS.iushr X32.here hx rfl (hb hby at_47) rfl ?_
      show Steps p.tables e below (T32.setTop (mkF m 48 #[.val (.long q0), .second, .val (.int p1), .val (.int p2), .val (.int p3), .val (.int p4), .val (.long life), .second, .val (.int (1 : Int32)), .unset, .unset, .unset, .unset, .unset, .unset, .unset, .unset, .unset, .unset, .unset] [(.int ((p1.toUInt32 >>> ((6 : Int32) &&& 31).toUInt32).toInt32)), (.long (((1 : Int32) + (((p1.toUInt32 >>> ((3 : Int32) &&& 31).toUInt32).toInt32) &&& (7 : Int32))).toInt64)), (.long life), (.double (4636737291354636288 : UInt64)), (.ref b32), (.ref b32)])) _
      refine XS.iconst X32.here hx rfl (hb hby at_48) ?_
      show Steps p.tables e below (T32.setTop (mkF m 49 #[.val (.long q0), .second, .val (.int p1), .val (.int p2), .val (.int p3), .val (.int p4), .val (.long life), .second, .val (.int (1 : Int32)), .unset, .unset, .unset, .unset, .unset, .unset, .unset, .unset, .unset, .unset, .unset] [(.int (3 : Int32)), (.int ((p1.toUInt32 >>> ((6 : Int32) &&& 31).toUInt32).toInt32)), (.long (((1 : Int32) + (((p1.toUInt32 >>> ((3 : Int32) &&& 31).toUInt32).toInt32) &&& (7 : Int32))).toInt64)), (.long life), (.double (4636737291354636288 : UInt64)), (.ref b32), (.ref b32)])) _
      refine XS.iand X32.here hx rfl (hb hby at_49) rfl ?_
      show Steps p.tables e below (T32.setTop (mkF m 50 #[.val (.long q0), .second, .val (.int p1), .val (.int p2), .val (.int p3), .val (.int p4), .val (.long life), .second, .val (.int (1 : Int32)), .unset, .unset, .unset, .unset, .unset, .unset, .unset, .unset, .unset, .unset, .unset] [(.int (((p1.toUInt32 >>> ((6 : Int32) &&& 31).toUInt32).toInt32) &&& (3 : Int32))), (.long (((1 : Int32) + (((p1.toUInt32 >>> ((3 : Int32) &&& 31).toUInt32).toInt32) &&& (7 : Int32))).toInt64)), (.long life), (.double (4636737291354636288 : UInt64)), (.ref b32), (.ref b32)])) _
      refine XS.i2l X32.here hx rfl (hb hby at_50) rfl ?_
      show Steps p.tables e below (T32.setTop (mkF m 51 #[.val (.long q0), .second, .val (.int p1), .val (.int p2), .val (.int p3), .val (.int p4), .val (.long life), .second, .val (.int (1 : Int32)), .unset, .unset, .unset, .unset, .unset, .unset, .unset, .unset, .unset, .unset, .unset] [(.long ((((p1.toUInt32 >>> ((6 : Int32) &&& 31).toUInt32).toInt32) &&& (3 : Int32)).toInt64)), (.long (((1 : Int32) + (((p1.toUInt32 >>> ((3 : Int32) &&& 31).toUInt32).toInt32) &&& (7 : Int32))).toInt64)), (.long life), (.double (4636737291354636288 : UInt64)), (.ref b32), (.ref b32)])) _
      refine XS.iload X32.here hx rfl (hb hby at_51) rfl ?_
      show Steps p.tables e below (T32.setTop (mkF m 53 #[.val (.long q0), .second, .val (.int p1), .val (.int p2), .val (.int p3), .val (.int p4), .val (.long life), .second, .val (.int (1 : Int32)), .unset, .unset, .unset, .unset, .unset, .unset, .unset, .unset, .unset, .unset, .unset] [(.int (1 : Int32)), (.long ((((p1.toUInt32 >>> ((6 : Int32) &&& 31).toUInt32).toInt32) &&& (3 : Int32)).toInt64)), (.long (((1 : Int32) + (((p1.toUInt32 >>> ((3 : Int32) &&& 31).toUInt32).toInt32) &&& (7 : Int32))).toInt64)), (.long life), (.double (4636737291354636288 : UInt64)), (.ref b32), (.ref b32)])) _
      refine XS.iload X32.here hx rfl (hb hby at_53) rfl ?_
      show Steps p.tables e below (T32.setTop (mkF m 55 #[.val (.long q0), .second, .val (.int p1), .val (.int p2), .val (.int p3), .val (.int p4), .val (.long life), .second, .val (.int (1 : Int32)), .unset, .unset, .unset, .unset, .unset, .unset, .unset, .unset, .unset, .unset, .unset] [(.int p4), (.int (1 : Int32)), (.long ((((p1.toUInt32 >>> ((6 : Int32) &&& 31).toUInt32).toInt32) &&& (3 : Int32)).toInt64)), (.long (((1 : Int32) + (((p1.toUInt32 >>> ((3 : Int32) &&& 31).toUInt32).toInt32) &&& (7 : Int32))).toInt64)), (.long life), (.double (4636737291354636288 : UInt64)), (.ref b32), (.ref b32)])) _
      refine XS.sipush X32.here hx rfl (hb hby at_55) ?_
      show Steps p.tables e below (T32.setTop (mkF m 58 #[.val (.long q0), .second, .val (.int p1), .val (.int p2), .val (.int p3), .val (.int p4), .val (.long life), .second, .val (.int (1 : Int32)), .unset, .unset, .unset, .unset, .unset, .unset, .unset, .unset, .unset, .unset, .unset] [(.int (255 : Int32)), (.int p4), (.int (1 : Int32)), (.long ((((p1.toUInt32 >>> ((6 : Int32) &&& 31).toUInt32).toInt32) &&& (3 : Int32)).toInt64)), (.long (((1 : Int32) + (((p1.toUInt32 >>> ((3 : Int32) &&& 31).toUInt32).toInt32) &&& (7 : Int32))).toInt64)), (.long life), (.double (4636737291354636288 : UInt64)), (.ref b32), (.ref b32)])) _
      refine XS.iand X32.here hx rfl (hb hby at_58) rfl ?_
      exact kt
    obtain ⟨_, _, ⟨T33, L33, k33, n33⟩, -, X33, ⟨Lc33, hQ33, l33, y33, z33⟩, st33⟩ := X32.specialBack hx (y := (⟨"com/example/pulsekeep/pulsekeep/core/SubscriptionSettings", "<init>", "(DJJJZI)V"⟩ : MethodName)) rfl hown (mvT hZ (hw _ (List.mem_of_getElem? (i := 4) rfl))) (mvT hZ (hw _ (List.mem_of_getElem? (i := 5) rfl))) (mvT hZ (hw _ (List.mem_of_getElem? (i := 6) rfl))) (by decide) (backOf (W := 1) (rm1 l Z a0 hw [] b32 (4636737291354636288 : UInt64) life (((1 : Int32) + (((p1.toUInt32 >>> ((3 : Int32) &&& 31).toUInt32).toInt32) &&& (7 : Int32))).toInt64) ((((p1.toUInt32 >>> ((6 : Int32) &&& 31).toUInt32).toInt32) &&& (3 : Int32)).toInt64) (1 : Int32) (p4 &&& (255 : Int32)) (.double 0) (.long (0 : Int64)) (.long (0 : Int64)) (.long (0 : Int64)) (.int (0 : Int32)) (.int (0 : Int32)) h32 n0 (by omega) F32_publishingIntervalMs A32 (by omega) F32_lifetimeCount F32_maxKeepAliveCount F32_maxNotificationsPerPublish F32_publishingEnabled F32_priority) hZ (hw _ (List.mem_of_getElem? (i := 6) rfl)) (hw _ (List.mem_of_getElem? (i := 2) rfl)) (by decide) (by decide)) (g := (mkF m 59 #[.val (.long q0), .second, .val (.int p1), .val (.int p2), .val (.int p3), .val (.int p4), .val (.long life), .second, .val (.int (1 : Int32)), .unset, .unset, .unset, .unset, .unset, .unset, .unset, .unset, .unset, .unset, .unset] [(.int (p4 &&& (255 : Int32))), (.int (1 : Int32)), (.long ((((p1.toUInt32 >>> ((6 : Int32) &&& 31).toUInt32).toInt32) &&& (3 : Int32)).toInt64)), (.long (((1 : Int32) + (((p1.toUInt32 >>> ((3 : Int32) &&& 31).toUInt32).toInt32) &&& (7 : Int32))).toInt64)), (.long life), (.double (4636737291354636288 : UInt64)), (.ref b32), (.ref b32)])) rfl (by rw [hml]; rfl) (Steps.refl _) (a := b32) (argsL := [(.double (4636737291354636288 : UInt64)), (.long life), (.long (((1 : Int32) + (((p1.toUInt32 >>> ((3 : Int32) &&& 31).toUInt32).toInt32) &&& (7 : Int32))).toInt64)), (.long ((((p1.toUInt32 >>> ((6 : Int32) &&& 31).toUInt32).toInt32) &&& (3 : Int32)).toInt64)), (.int (1 : Int32)), (.int (p4 &&& (255 : Int32)))]) (rest := [(.ref b32)]) (lenOf pd0_0 rfl) rfl (by show 2 * 0 + _ ≤ _; exact Nat.le_of_eq rfl) (hb hby at_59) (fun vm₁ hvm => ⟨rfl, e32, (by decide : 1 + 0 ≤ _), (by decide : 6 + 0 ≤ _)⟩)
    dsimp only [Pt.U, Pt.locs, Pt.cells, Pt.slots] at X33 l33 y33 z33 st33 hQ33
    subst l33 y33 z33
    obtain ⟨rfl, N33q, K33, KF33, Y33_0, Y33_1, Y33_2, Y33_3, Y33_4, Y33_5⟩ := hQ33
    have sz33 : h32.size ≤ T33.heap.size := K33.1
    have N33 := Fr.app N0 N33q
    refine Go.trans st33 ?_
    show Go p e below s _ _ _ (T33.setTop (mkF m 62 #[.val (.long q0), .second, .val (.int p1), .val (.int p2), .val (.int p3), .val (.int p4), .val (.long life), .second, .val (.int (1 : Int32)), .unset, .unset, .unset, .unset, .unset, .unset, .unset, .unset, .unset, .unset, .unset] [(.ref b32)]))
    refine Go.pre (st' := T33.setTop (mkF m 64 #[.val (.long q0), .second, .val (.int p1), .val (.int p2), .val (.int p3), .val (.int p4), .val (.long life), .second, .val (.int (1 : Int32)), .val (.ref b32), .unset, .unset, .unset, .unset, .unset, .unset, .unset, .unset, .unset, .unset] [])) (fun target kt => ?_) ?_
    · show Steps p.tables e below (T33.setTop (mkF m 62 #[.val (.long q0), .second, .val (.int p1), .val (.int p2), .val (.int p3), .val (.int p4), .val (.long life), .second, .val (.int (1 : Int32)), .unset, .unset, .unset, .unset, .unset, .unset, .unset, .unset, .unset, .unset, .unset] [(.ref b32)])) _
      refine XS.astore X33.here hx rfl (hb hby at_62) rfl rfl (l' := #[.val (.long q0), .second, .val (.int p1), .val (.int p2), .val (.int p3), .val (.int p4), .val (.long life), .second, .val (.int (1 : Int32)), .val (.ref b32), .unset, .unset, .unset, .unset, .unset, .unset, .unset, .unset, .unset, .unset]) rfl ?_
      exact kt
    obtain ⟨T34, h34, X34, e34, E34, A34, D34, -, st34⟩ := newO X33 hx hZ hown (hw _ (List.mem_of_getElem? (i := 27) rfl)) (hw _ (List.mem_of_getElem? (i := 28) rfl)) (hw _ (List.mem_of_getElem? (i := 29) rfl)) rfl (g := (mkF m 64 #[.val (.long q0), .second, .val (.int p1), .val (.int p2), .val (.int p3), .val (.int p4), .val (.long life), .second, .val (.int (1 : Int32)), .val (.ref b32), .unset, .unset, .unset, .unset, .unset, .unset, .unset, .unset, .unset, .unset] [])) rfl (hb hby at_64) (by decide) (by decide)
    obtain ⟨b34, g34⟩ : ∃ z, z = T33.heap.size := ⟨_, rfl⟩
    rw [← g34] at A34 D34 st34
    have sz34 : T33.heap.size ≤ h34.size := E34.1
    have lt34 : b34 < h34.size := A34.lt
    have F34_items : Fld Z h34 b34 "com/example/pulsekeep/pulsekeep/core/Subscription" "items" "Ljava/util/List;" .null := D34 (Or.inr (hw _ (List.mem_of_getElem? (i := 88) rfl))) (ty := (.object "java/util/List")) (by decide)
    have F34_valueBudget : Fld Z h34 b34 "com/example/pulsekeep/pulsekeep/core/Subscription" "valueBudget" "Lcom/example/pulsekeep/pulsekeep/core/MonitoredItem$ValueBudget;" .null := D34 (Or.inr (hw _ (List.mem_of_getElem? (i := 97) rfl))) (ty := (.object "com/example/pulsekeep/pulsekeep/core/MonitoredItem$ValueBudget")) (by decide)
    have F34_stopPacing : Fld Z h34 b34 "com/example/pulsekeep/pulsekeep/core/Subscription" "stopPacing" "Ljava/lang/Runnable;" .null := D34 (Or.inl (hw _ (List.mem_of_getElem? (i := 102) rfl))) (ty := (.object "java/lang/Runnable")) (by decide)
    have F34_nextItemId : Fld Z h34 b34 "com/example/pulsekeep/pulsekeep/core/Subscription" "nextItemId" "J" (.long (0 : Int64)) := D34 (Or.inl (hw _ (List.mem_of_getElem? (i := 104) rfl))) (ty := .long) (by decide)
    have F34_nextSequenceNumber : Fld Z h34 b34 "com/example/pulsekeep/pulsekeep/core/Subscription" "nextSequenceNumber" "J" (.long (0 : Int64)) := D34 (Or.inl (hw _ (List.mem_of_getElem? (i := 106) rfl))) (ty := .long) (by decide)
    have F34_nextPartAt : Fld Z h34 b34 "com/example/pulsekeep/pulsekeep/core/Subscription" "nextPartAt" "I" (.int (0 : Int32)) := D34 (Or.inl (hw _ (List.mem_of_getElem? (i := 108) rfl))) (ty := .int) (by decide)
    have F34_id : Fld Z h34 b34 "com/example/pulsekeep/pulsekeep/core/Subscription" "id" "J" (.long (0 : Int64)) := D34 (Or.inr (hw _ (List.mem_of_getElem? (i := 110) rfl))) (ty := .long) (by decide)
    have F34_owner : Fld Z h34 b34 "com/example/pulsekeep/pulsekeep/core/Subscription" "owner" "Lcom/example/pulsekeep/pulsekeep/core/Subscriber;" .null := D34 (Or.inl (hw _ (List.mem_of_getElem? (i := 112) rfl))) (ty := (.object "com/example/pulsekeep/pulsekeep/core/Subscriber")) (by decide)
    have F34_settings : Fld Z h34 b34 "com/example/pulsekeep/pulsekeep/core/Subscription" "settings" "Lcom/example/pulsekeep/pulsekeep/core/SubscriptionSettings;" .null := D34 (Or.inl (hw _ (List.mem_of_getElem? (i := 114) rfl))) (ty := (.object "com/example/pulsekeep/pulsekeep/core/SubscriptionSettings")) (by decide)
    have F34_messageSent : Fld Z h34 b34 "com/example/pulsekeep/pulsekeep/core/Subscription" "messageSent" "Z" (.int (0 : Int32)) := D34 (Or.inl (hw _ (List.mem_of_getElem? (i := 130) rfl))) (ty := .boolean) (by decide)
    have F34_cyclesWithoutRequest : Fld Z h34 b34 "com/example/pulsekeep/pulsekeep/core/Subscription" "cyclesWithoutRequest" "J" (.long (0 : Int64)) := D34 (Or.inl (hw _ (List.mem_of_getElem? (i := 132) rfl))) (ty := .long) (by decide)
    have F34_messageDue : Fld Z h34 b34 "com/example/pulsekeep/pulsekeep/core/Subscription" "messageDue" "Z" (.int (0 : Int32)) := D34 (Or.inl (hw _ (List.mem_of_getElem? (i := 139) rfl))) (ty := .boolean) (by decide)
    have F34_emptyCycles : Fld Z h34 b34 "com/example/pulsekeep/pulsekeep/core/Subscription" "emptyCycles" "J" (.long (0 : Int64)) := D34 (Or.inl (hw _ (List.mem_of_getElem? (i := 149) rfl))) (ty := .long) (by decide)
    refine Go.pre st34 ?_
    show Go p e below s _ _ _ (T34.setTop (mkF m 67 #[.val (.long q0), .second, .val (.int p1), .val (.int p2), .val (.int p3), .val (.int p4), .val (.long life), .second, .val (.int (1 : Int32)), .val (.ref b32), .unset, .unset, .unset, .unset, .unset, .unset, .unset, .unset, .unset, .unset] [(.ref b34)]))
    refine Go.pre (st' := T34.setTop (mkF m 69 #[.val (.long q0), .second, .val (.int p1), .val (.int p2), .val (.int p3), .val (.int p4), .val (.long life), .second, .val (.int (1 : Int32)), .val (.ref b32), .unset, .unset, .unset, .unset, .unset, .unset, .unset, .unset, .unset, .unset] [(.long q0), (.ref b34), (.ref b34)])) (fun target kt => ?_) ?_
    · show Steps p.tables e below (T34.setTop (mkF m 67 #[.val (.long q0), .second, .val (.int p1), .val (.int p2), .val (.int p3), .val (.int p4), .val (.long life), .second, .val (.int (1 : Int32)), .val (.ref b32), .unset, .unset, .unset, .unset, .unset, .unset, .unset, .unset, .unset, .unset] [(.ref b34)])) _
      refine XS.dup X34.here hx rfl (hb hby at_67) rfl rfl ?_
      show Steps p.tables e below (T34.setTop (mkF m 68 #[.val (.long q0), .second, .val (.int p1), .val (.int p2), .val (.int p3), .val (.int p4), .val (.long life), .second, .val (.int (1 : Int32)), .val (.ref b32), .unset, .unset, .unset, .unset, .unset, .unset, .unset, .unset, .unset, .unset] [(.ref b34), (.ref b34)])) _
      refine XS.lloadN X34.here hx rfl (hb hby at_68) rfl ?_
      exact kt
    obtain ⟨T35, h35, X35, e35, E35, A35, D35, -, st35⟩ := newO X34 hx hZ hown (hw _ (List.mem_of_getElem? (i := 30) rfl)) (hw _ (List.mem_of_getElem? (i := 31) rfl)) (hw _ (List.mem_of_getElem? (i := 32) rfl)) e34 (g := (mkF m 69 #[.val (.long q0), .second, .val (.int p1), .val (.int p2), .val (.int p3), .val (.int p4), .val (.long life), .second, .val (.int (1 : Int32)), .val (.ref b32), .unset, .unset, .unset, .unset, .unset, .unset, .unset, .unset, .unset, .unset] [(.long q0), (.ref b34), (.ref b34)])) rfl (hb hby at_69) (by decide) (by decide)
    obtain ⟨b35, g35⟩ : ∃ z, z = h34.size := ⟨_, rfl⟩
    rw [← g35] at A35 D35 st35
    have sz35 : h34.size ≤ h35.size := E35.1
    have lt35 : b35 < h35.size := A35.lt
    have F35_subscriptions : Fld Z h35 b35 "com/example/pulsekeep/pulsekeep/core/Subscriber" "subscriptions" "Ljava/util/List;" .null := D35 (Or.inr (hw _ (List.mem_of_getElem? (i := 62) rfl))) (ty := (.object "java/util/List")) (by decide)
    have F35_requests : Fld Z h35 b35 "com/example/pulsekeep/pulsekeep/core/Subscriber" "requests" "Ljava/util/ArrayDeque;" .null := D35 (Or.inr (hw _ (List.mem_of_getElem? (i := 76) rfl))) (ty := (.object "java/util/ArrayDeque")) (by decide)
    have F35_kept : Fld Z h35 b35 "com/example/pulsekeep/pulsekeep/core/Subscriber" "kept" "Ljava/util/ArrayDeque;" .null := D35 (Or.inr (hw _ (List.mem_of_getElem? (i := 78) rfl))) (ty := (.object "java/util/ArrayDeque")) (by decide)
    have F35_departures : Fld Z h35 b35 "com/example/pulsekeep/pulsekeep/core/Subscriber" "departures" "Ljava/util/ArrayDeque;" .null := D35 (Or.inr (hw _ (List.mem_of_getElem? (i := 80) rfl))) (ty := (.object "java/util/ArrayDeque")) (by decide)
    refine Go.pre st35 ?_
    show Go p e below s _ _ _ (T35.setTop (mkF m 72 #[.val (.long q0), .second, .val (.int p1), .val (.int p2), .val (.int p3), .val (.int p4), .val (.long life), .second, .val (.int (1 : Int32)), .val (.ref b32), .unset, .unset, .unset, .unset, .unset, .unset, .unset, .unset, .unset, .unset] [(.ref b35), (.long q0), (.ref b34), (.ref b34)]))
    refine Go.pre (st' := T35.setTop (mkF m 73 #[.val (.long q0), .second, .val (.int p1), .val (.int p2), .val (.int p3), .val (.int p4), .val (.long life), .second, .val (.int (1 : Int32)), .val (.ref b32), .unset, .unset, .unset, .unset, .unset, .unset, .unset, .unset, .unset, .unset] [(.ref b35), (.ref b35), (.long q0), (.ref b34), (.ref b34)])) (fun target kt => ?_) ?_
    · show Steps p.tables e below (T35.setTop (mkF m 72 #[.val (.long q0), .second, .val (.int p1), .val (.int p2), .val (.int p3), .val (.int p4), .val (.long life), .second, .val (.int (1 : Int32)), .val (.ref b32), .unset, .unset, .unset, .unset, .unset, .unset, .unset, .unset, .unset, .unset] [(.ref b35), (.long q0), (.ref b34), (.ref b34)])) _
      refine XS.dup X35.here hx rfl (hb hby at_72) rfl rfl ?_
      exact kt
    have Y37 : Old Z n0 h35 := ((((Ol.ext E32).keep K33 (allS (by omega) all0)).ext E34).ext E35)
    obtain ⟨_, _, ⟨T36, L36, k36, n36⟩, -, X36, ⟨Lc36, hQ36, l36, y36, z36⟩, st36⟩ := X35.specialBack hx (y := (⟨"com/example/pulsekeep/pulsekeep/core/Subscriber", "<init>", "()V"⟩ : MethodName)) rfl hown (mvT hZ (hw _ (List.mem_of_getElem? (i := 33) rfl))) (mvT hZ (hw _ (List.mem_of_getElem? (i := 34) rfl))) (mvT hZ (hw _ (List.mem_of_getElem? (i := 35) rfl))) (by decide) (backOf (W := 5) (rm4 l Z a0 hw [] b35 z7 .null .null .null .null h35 n0 (by omega) S_DEFAULTCAPACITY_EMPTY_ELEMENTDATA Y37 F35_subscriptions A35 (by omega) F35_requests F35_kept F35_departures) hZ (hw _ (List.mem_of_getElem? (i := 35) rfl)) (hw _ (List.mem_of_getElem? (i := 32) rfl)) (by decide) (by decide)) (g := (mkF m 73 #[.val (.long q0), .second, .val (.int p1), .val (.int p2), .val (.int p3), .val (.int p4), .val (.long life), .second, .val (.int (1 : Int32)), .val (.ref b32), .unset, .unset, .unset, .unset, .unset, .unset, .unset, .unset, .unset, .unset] [(.ref b35), (.ref b35), (.long q0), (.ref b34), (.ref b34)])) rfl (by rw [hml]; rfl) (Steps.refl _) (a := b35) (argsL := []) (rest := [(.ref b35), (.long q0), (.ref b34), (.ref b34)]) (lenOf pd0_1 rfl) rfl (by show 2 * 0 + _ ≤ _; exact Nat.le_of_eq rfl) (hb hby at_73) (fun vm₁ hvm => ⟨rfl, e35, (by decide : 3 + 7 ≤ _), (by decide : 27 + 63 ≤ _)⟩)
    dsimp only [Pt.U, Pt.locs, Pt.cells, Pt.slots] at X36 l36 y36 z36 st36 hQ36
    subst l36 y36 z36
    obtain ⟨b36_0, b36_1, b36_2, b36_3, b36_4, b36_5, b36_6, k36_0, k36_1, k36_2, rfl, N36q, K36, KF36, gb36_0, ltb36_0, gb36_1, ltb36_1, lob36_1, gb36_2, ltb36_2, lob36_2, gb36_3, ltb36_3, lob36_3, gb36_4, ltb36_4, lob36_4, gb36_5, ltb36_5, lob36_5, gb36_6, ltb36_6, lob36_6, Y36_0, Y36_1, Y36_2, Y36_3, Y36_4, Y36_5, Y36_6, Y36_7, Y36_8, Y36_9, Y36_10, Y36_11, Y36_12, Y36_13, Y36_14, Y36_15, Y36_16⟩ := hQ36
    have sz36 : h35.size ≤ T36.heap.size := K36.1
    have N36 := Fr.app N33 N36q
    refine Go.trans st36 ?_
    show Go p e below s _ _ _ (T36.setTop (mkF m 76 #[.val (.long q0), .second, .val (.int p1), .val (.int p2), .val (.int p3), .val (.int p4), .val (.long life), .second, .val (.int (1 : Int32)), .val (.ref b32), .unset, .unset, .unset, .unset, .unset, .unset, .unset, .unset, .unset, .unset] [(.ref b35), (.long q0), (.ref b34), (.ref b34)]))
    refine Go.pre (st' := T36.setTop (mkF m 78 #[.val (.long q0), .second, .val (.int p1), .val (.int p2), .val (.int p3), .val (.int p4), .val (.long life), .second, .val (.int (1 : Int32)), .val (.ref b32), .unset, .unset, .unset, .unset, .unset, .unset, .unset, .unset, .unset, .unset] [(.ref b32), (.ref b35), (.long q0), (.ref b34), (.ref b34)])) (fun target kt => ?_) ?_
    · show Steps p.tables e below (T36.setTop (mkF m 76 #[.val (.long q0), .second, .val (.int p1), .val (.int p2), .val (.int p3), .val (.int p4), .val (.long life), .second, .val (.int (1 : Int32)), .val (.ref b32), .unset, .unset, .unset, .unset, .unset, .unset, .unset, .unset, .unset, .unset] [(.ref b35), (.long q0), (.ref b34), (.ref b34)])) _
      refine XS.aload X36.here hx rfl (hb hby at_76) rfl rfl ?_
      exact kt
    have Y39 : Old Z n0 T36.heap := (Y37.keep K36 (allS (by omega) all0))
    have Y40 : Fld Z T36.heap b34 "com/example/pulsekeep/pulsekeep/core/Subscription" "items" "Ljava/util/List;" .null := ((F34_items.ext E35).keep K36 (ninS (by show @Ne Nat b34 b35; omega) nin0))
    have Y41 : Exa Z T36.heap b34 "com/example/pulsekeep/pulsekeep/core/Subscription" := ((A34.ext E35).keep K36)
    have Y42 : Fld Z T36.heap b34 "com/example/pulsekeep/pulsekeep/core/Subscription" "valueBudget" "Lcom/example/pulsekeep/pulsekeep/core/MonitoredItem$ValueBudget;" .null := ((F34_valueBudget.ext E35).keep K36 (ninS (by show @Ne Nat b34 b35; omega) nin0))
    have Y43 : Fld Z T36.heap b34 "com/example/pulsekeep/pulsekeep/core/Subscription" "stopPacing" "Ljava/lang/Runnable;" .null := ((F34_stopPacing.ext E35).keep K36 (ninS (by show @Ne Nat b34 b35; omega) nin0))
    have Y44 : Fld Z T36.heap b34 "com/example/pulsekeep/pulsekeep/core/Subscription" "nextItemId" "J" (.long (0 : Int64)) := ((F34_nextItemId.ext E35).keep K36 (ninS (by show @Ne Nat b34 b35; omega) nin0))
    have Y45 : Fld Z T36.heap b34 "com/example/pulsekeep/pulsekeep/core/Subscription" "nextSequenceNumber" "J" (.long (0 : Int64)) := ((F34_nextSequenceNumber.ext E35).keep K36 (ninS (by show @Ne Nat b34 b35; omega) nin0))
    have Y46 : Fld Z T36.heap b34 "com/example/pulsekeep/pulsekeep/core/Subscription" "nextPartAt" "I" (.int (0 : Int32)) := ((F34_nextPartAt.ext E35).keep K36 (ninS (by show @Ne Nat b34 b35; omega) nin0))
    have Y47 : Fld Z T36.heap b34 "com/example/pulsekeep/pulsekeep/core/Subscription" "id" "J" (.long (0 : Int64)) := ((F34_id.ext E35).keep K36 (ninS (by show @Ne Nat b34 b35; omega) nin0))
    have Y48 : Fld Z T36.heap b34 "com/example/pulsekeep/pulsekeep/core/Subscription" "owner" "Lcom/example/pulsekeep/pulsekeep/core/Subscriber;" .null := ((F34_owner.ext E35).keep K36 (ninS (by show @Ne Nat b34 b35; omega) nin0))
    have Y49 : Fld Z T36.heap b34 "com/example/pulsekeep/pulsekeep/core/Subscription" "settings" "Lcom/example/pulsekeep/pulsekeep/core/SubscriptionSettings;" .null := ((F34_settings.ext E35).keep K36 (ninS (by show @Ne Nat b34 b35; omega) nin0))
    obtain ⟨_, _, ⟨T38, L38, k38, n38⟩, -, X38, ⟨Lc38, hQ38, l38, y38, z38⟩, st38⟩ := X36.specialBack hx (y := (⟨"com/example/pulsekeep/pulsekeep/core/Subscription", "<init>", "(JLcom/example/pulsekeep/pulsekeep/core/Subscriber;Lcom/example/pulsekeep/pulsekeep/core/SubscriptionSettings;)V"⟩ : MethodName)) rfl hown (mvT hZ (hw _ (List.mem_of_getElem? (i := 81) rfl))) (mvT hZ (hw _ (List.mem_of_getElem? (i := 82) rfl))) (mvT hZ (hw _ (List.mem_of_getElem? (i := 83) rfl))) (by decide) (backOfL (W := 1) (rm9 l Z a0 hw [] b34 q0 b35 b32 z7 .null .null .null (.long (0 : Int64)) (.long (0 : Int64)) (.int (0 : Int32)) (.long (0 : Int64)) .null .null T36.heap n0 (by omega) S_DEFAULTCAPACITY_EMPTY_ELEMENTDATA Y39 Y40 Y41 (by omega) Y42 Y43 Y44 Y45 Y46 Y47 Y48 Y49) hZ (hw _ (List.mem_of_getElem? (i := 83) rfl)) (hw _ (List.mem_of_getElem? (i := 29) rfl)) (by decide) (by decide)) (g := (mkF m 78 #[.val (.long q0), .second, .val (.int p1), .val (.int p2), .val (.int p3), .val (.int p4), .val (.long life), .second, .val (.int (1 : Int32)), .val (.ref b32), .unset, .unset, .unset, .unset, .unset, .unset, .unset, .unset, .unset, .unset] [(.ref b32), (.ref b35), (.long q0), (.ref b34), (.ref b34)])) rfl (by rw [hml]; rfl) (Steps.refl _) (a := b34) (argsL := [(.long q0), (.ref b35), (.ref b32)]) (rest := [(.ref b34)]) (lenOf pd0_2 rfl) rfl (by show 2 * 0 + _ ≤ _; exact Nat.le_of_eq rfl) (hb hby at_78) (fun vm₁ hvm => ⟨rfl, rfl, (by decide : 10 + 2 ≤ _), (by decide : 90 + 5 ≤ _), EXL.rides (t := T36.setVm vm₁) hEX hvm X36.same⟩)
    dsimp only [Pt.U, Pt.locs, Pt.cells, Pt.slots] at X38 l38 y38 z38 st38 hQ38
    subst l38 y38 z38
    obtain ⟨b38_0, b38_1, rfl, N38q, K38, KF38, gb38_0, ltb38_0, gb38_1, ltb38_1, lob38_1, Y38_0, Y38_1, Y38_2, Y38_3, Y38_4, Y38_5, Y38_6, Y38_7, Y38_8, Y38_9, Y38_10, Y38_11, Y38_12⟩ := hQ38
    have sz38 : T36.heap.size ≤ T38.heap.size := K38.1
    have N38 := Fr.app N36 N38q
    refine Go.trans st38 ?_
    show Go p e below s _ _ _ (T38.setTop (mkF m 81 #[.val (.long q0), .second, .val (.int p1), .val (.int p2), .val (.int p3), .val (.int p4), .val (.long life), .second, .val (.int (1 : Int32)), .val (.ref b32), .unset, .unset, .unset, .unset, .unset, .unset, .unset, .unset, .unset, .unset] [(.ref b34)]))
    refine Go.pre (st' := T38.setTop (mkF m 88 #[.val (.long q0), .second, .val (.int p1), .val (.int p2), .val (.int p3), .val (.int p4), .val (.long life), .second, .val (.int (1 : Int32)), .val (.ref b32), .val (.ref b34), .val (.int (p2 &&& (3 : Int32))), .unset, .unset, .unset, .unset, .unset, .unset, .unset, .unset] [])) (fun target kt => ?_) ?_
    · show Steps p.tables e below (T38.setTop (mkF m 81 #[.val (.long q0), .second, .val (.int p1), .val (.int p2), .val (.int p3), .val (.int p4), .val (.long life), .second, .val (.int (1 : Int32)), .val (.ref b32), .unset, .unset, .unset, .unset, .unset, .unset, .unset, .unset, .unset, .unset] [(.ref b34)])) _
      refine XS.astore X38.here hx rfl (hb hby at_81) rfl rfl (l' := #[.val (.long q0), .second, .val (.int p1), .val (.int p2), .val (.int p3), .val (.int p4), .val (.long life), .second, .val (.int (1 : Int32)), .val (.ref b32), .val (.ref b34), .unset, .unset, .unset, .unset, .unset, .unset, .unset, .unset, .unset]) rfl ?_
      show Steps p.tables e below (T38.setTop (mkF m 83 #[.val (.long q0), .second, .val (.int p1), .val (.int p2), .val (.int p3), .val (.int p4), .val (.long life), .second, .val (.int (1 : Int32)), .val (.ref b32), .val (.ref b34), .unset, .unset, .unset, .unset, .unset, .unset, .unset, .unset, .unset] [])) _
      refine XS.iloadN X38.here hx rfl (hb hby at_83) rfl ?_
      show Steps p.tables e below (T38.setTop (mkF m 84 #[.val (.long q0), .second, .val (.int p1), .val (.int p2), .val (.int p3), .val (.int p4), .val (.long life), .second, .val (.int (1 : Int32)), .val (.ref b32), .val (.ref b34), .unset, .unset, .unset, .unset, .unset, .unset, .unset, .unset, .unset] [(.int p2)])) _
      refine XS.iconst X38.here hx rfl (hb hby at_84) ?_
      show Steps p.tables e below (T38.setTop (mkF m 85 #[.val (.long q0), .second, .val (.int p1), .val (.int p2), .val (.int p3), .val (.int p4), .val (.long life), .second, .val (.int (1 : Int32)), .val (.ref b32), .val (.ref b34), .unset, .unset, .unset, .unset, .unset, .unset, .unset, .unset, .unset] [(.int (3 : Int32)), (.int p2)])) _
      refine XS.iand X38.here hx rfl (hb hby at_85) rfl ?_
      show Steps p.tables e below (T38.setTop (mkF m 86 #[.val (.long q0), .second, .val (.int p1), .val (.int p2), .val (.int p3), .val (.int p4), .val (.long life), .second, .val (.int (1 : Int32)), .val (.ref b32), .val (.ref b34), .unset, .unset, .unset, .unset, .unset, .unset, .unset, .unset, .unset] [(.int (p2 &&& (3 : Int32)))])) _
      refine XS.istore X38.here hx rfl (hb hby at_86) rfl (l' := #[.val (.long q0), .second, .val (.int p1), .val (.int p2), .val (.int p3), .val (.int p4), .val (.long life), .second, .val (.int (1 : Int32)), .val (.ref b32), .val (.ref b34), .val (.int (p2 &&& (3 : Int32))), .unset, .unset, .unset, .unset, .unset, .unset, .unset, .unset]) rfl ?_
      exact kt
    have C : Ctx p s m meth c Z code 20 "com/example/pulsekeep/pulsekeep/core/SubscriptionStartAgainPinLaw" (some .boolean) := ⟨hx, hZ, hby, hml, hown, hrt, hlk⟩
    have Y50 : Old Z n0 T38.heap := (Y39.keep K38 (allS (by omega) all0))
    have Y51 : Exa Z T38.heap b34 "com/example/pulsekeep/pulsekeep/core/Subscription" := (Y41.keep K38)
    have Y52 : Exa Z T38.heap b32 "com/example/pulsekeep/pulsekeep/core/SubscriptionSettings" := (((((A32.keep K33).ext E34).ext E35).keep K36).keep K38)
    have Y53 : Fld Z T38.heap b32 "com/example/pulsekeep/pulsekeep/core/SubscriptionSettings" "publishingEnabled" "Z" (.int ((1 : Int32) &&& 1)) := ((((Y33_4.ext E34).ext E35).keep K36 (ninS (by show @Ne Nat b32 b35; omega) nin0)).keep K38 (ninS (by show @Ne Nat b32 b34; omega) nin0))
    have Y54 : Fld Z T38.heap b32 "com/example/pulsekeep/pulsekeep/core/SubscriptionSettings" "lifetimeCount" "J" (.long life) := ((((Y33_1.ext E34).ext E35).keep K36 (ninS (by show @Ne Nat b32 b35; omega) nin0)).keep K38 (ninS (by show @Ne Nat b32 b34; omega) nin0))
    have Y55 : Fld Z T38.heap b34 "com/example/pulsekeep/pulsekeep/core/Subscription" "messageSent" "Z" (.int (0 : Int32)) := (KF38 _ _ _ _ _ ((F34_messageSent.ext E35).keep K36 (ninS (by show @Ne Nat b34 b35; omega) nin0)) (pallS (Or.inr (slot_ne (Or.inl (hw _ (List.mem_of_getElem? (i := 130) rfl))) (Or.inr (hw _ (List.mem_of_getElem? (i := 88) rfl))) (by decide) (t := .boolean) (t' := (.object "java/util/List")) (by decide) (by decide))) (pallS (Or.inr (slot_ne (Or.inl (hw _ (List.mem_of_getElem? (i := 130) rfl))) (Or.inr (hw _ (List.mem_of_getElem? (i := 97) rfl))) (by decide) (t := .boolean) (t' := (.object "com/example/pulsekeep/pulsekeep/core/MonitoredItem$ValueBudget")) (by decide) (by decide))) (pallS (Or.inr (slot_ne (Or.inl (hw _ (List.mem_of_getElem? (i := 130) rfl))) (Or.inl (hw _ (List.mem_of_getElem? (i := 102) rfl))) (by decide) (t := .boolean) (t' := (.object "java/lang/Runnable")) (by decide) (by decide))) (pallS (Or.inr (slot_ne (Or.inl (hw _ (List.mem_of_getElem? (i := 130) rfl))) (Or.inl (hw _ (List.mem_of_getElem? (i := 104) rfl))) (by decide) (t := .boolean) (t' := .long) (by decide) (by decide))) (pallS (Or.inr (slot_ne (Or.inl (hw _ (List.mem_of_getElem? (i := 130) rfl))) (Or.inl (hw _ (List.mem_of_getElem? (i := 106) rfl))) (by decide) (t := .boolean) (t' := .long) (by decide) (by decide))) (pallS (Or.inr (slot_ne (Or.inl (hw _ (List.mem_of_getElem? (i := 130) rfl))) (Or.inl (hw _ (List.mem_of_getElem? (i := 108) rfl))) (by decide) (t := .boolean) (t' := .int) (by decide) (by decide))) (pallS (Or.inr (slot_ne (Or.inl (hw _ (List.mem_of_getElem? (i := 130) rfl))) (Or.inr (hw _ (List.mem_of_getElem? (i := 110) rfl))) (by decide) (t := .boolean) (t' := .long) (by decide) (by decide))) (pallS (Or.inr (slot_ne (Or.inl (hw _ (List.mem_of_getElem? (i := 130) rfl))) (Or.inl (hw _ (List.mem_of_getElem? (i := 112) rfl))) (by decide) (t := .boolean) (t' := (.object "com/example/pulsekeep/pulsekeep/core/Subscriber")) (by decide) (by decide))) (pallS (Or.inr (slot_ne (Or.inl (hw _ (List.mem_of_getElem? (i := 130) rfl))) (Or.inl (hw _ (List.mem_of_getElem? (i := 114) rfl))) (by decide) (t := .boolean) (t' := (.object "com/example/pulsekeep/pulsekeep/core/SubscriptionSettings")) (by decide) (by decide))) pall0))))))))))
    have Y56 : Fld Z T38.heap b34 "com/example/pulsekeep/pulsekeep/core/Subscription" "cyclesWithoutRequest" "J" (.long (0 : Int64)) := (KF38 _ _ _ _ _ ((F34_cyclesWithoutRequest.ext E35).keep K36 (ninS (by show @Ne Nat b34 b35; omega) nin0)) (pallS (Or.inr (slot_ne (Or.inl (hw _ (List.mem_of_getElem? (i := 132) rfl))) (Or.inr (hw _ (List.mem_of_getElem? (i := 88) rfl))) (by decide) (t := .long) (t' := (.object "java/util/List")) (by decide) (by decide))) (pallS (Or.inr (slot_ne (Or.inl (hw _ (List.mem_of_getElem? (i := 132) rfl))) (Or.inr (hw _ (List.mem_of_getElem? (i := 97) rfl))) (by decide) (t := .long) (t' := (.object "com/example/pulsekeep/pulsekeep/core/MonitoredItem$ValueBudget")) (by decide) (by decide))) (pallS (Or.inr (slot_ne (Or.inl (hw _ (List.mem_of_getElem? (i := 132) rfl))) (Or.inl (hw _ (List.mem_of_getElem? (i := 102) rfl))) (by decide) (t := .long) (t' := (.object "java/lang/Runnable")) (by decide) (by decide))) (pallS (Or.inr (slot_ne (Or.inl (hw _ (List.mem_of_getElem? (i := 132) rfl))) (Or.inl (hw _ (List.mem_of_getElem? (i := 104) rfl))) (by decide) (t := .long) (t' := .long) (by decide) (by decide))) (pallS (Or.inr (slot_ne (Or.inl (hw _ (List.mem_of_getElem? (i := 132) rfl))) (Or.inl (hw _ (List.mem_of_getElem? (i := 106) rfl))) (by decide) (t := .long) (t' := .long) (by decide) (by decide))) (pallS (Or.inr (slot_ne (Or.inl (hw _ (List.mem_of_getElem? (i := 132) rfl))) (Or.inl (hw _ (List.mem_of_getElem? (i := 108) rfl))) (by decide) (t := .long) (t' := .int) (by decide) (by decide))) (pallS (Or.inr (slot_ne (Or.inl (hw _ (List.mem_of_getElem? (i := 132) rfl))) (Or.inr (hw _ (List.mem_of_getElem? (i := 110) rfl))) (by decide) (t := .long) (t' := .long) (by decide) (by decide))) (pallS (Or.inr (slot_ne (Or.inl (hw _ (List.mem_of_getElem? (i := 132) rfl))) (Or.inl (hw _ (List.mem_of_getElem? (i := 112) rfl))) (by decide) (t := .long) (t' := (.object "com/example/pulsekeep/pulsekeep/core/Subscriber")) (by decide) (by decide))) (pallS (Or.inr (slot_ne (Or.inl (hw _ (List.mem_of_getElem? (i := 132) rfl))) (Or.inl (hw _ (List.mem_of_getElem? (i := 114) rfl))) (by decide) (t := .long) (t' := (.object "com/example/pulsekeep/pulsekeep/core/SubscriptionSettings")) (by decide) (by decide))) pall0))))))))))
    have Y57 : Fld Z T38.heap b34 "com/example/pulsekeep/pulsekeep/core/Subscription" "messageDue" "Z" (.int (0 : Int32)) := (KF38 _ _ _ _ _ ((F34_messageDue.ext E35).keep K36 (ninS (by show @Ne Nat b34 b35; omega) nin0)) (pallS (Or.inr (slot_ne (Or.inl (hw _ (List.mem_of_getElem? (i := 139) rfl))) (Or.inr (hw _ (List.mem_of_getElem? (i := 88) rfl))) (by decide) (t := .boolean) (t' := (.object "java/util/List")) (by decide) (by decide))) (pallS (Or.inr (slot_ne (Or.inl (hw _ (List.mem_of_getElem? (i := 139) rfl))) (Or.inr (hw _ (List.mem_of_getElem? (i := 97) rfl))) (by decide) (t := .boolean) (t' := (.object "com/example/pulsekeep/pulsekeep/core/MonitoredItem$ValueBudget")) (by decide) (by decide))) (pallS (Or.inr (slot_ne (Or.inl (hw _ (List.mem_of_getElem? (i := 139) rfl))) (Or.inl (hw _ (List.mem_of_getElem? (i := 102) rfl))) (by decide) (t := .boolean) (t' := (.object "java/lang/Runnable")) (by decide) (by decide))) (pallS (Or.inr (slot_ne (Or.inl (hw _ (List.mem_of_getElem? (i := 139) rfl))) (Or.inl (hw _ (List.mem_of_getElem? (i := 104) rfl))) (by decide) (t := .boolean) (t' := .long) (by decide) (by decide))) (pallS (Or.inr (slot_ne (Or.inl (hw _ (List.mem_of_getElem? (i := 139) rfl))) (Or.inl (hw _ (List.mem_of_getElem? (i := 106) rfl))) (by decide) (t := .boolean) (t' := .long) (by decide) (by decide))) (pallS (Or.inr (slot_ne (Or.inl (hw _ (List.mem_of_getElem? (i := 139) rfl))) (Or.inl (hw _ (List.mem_of_getElem? (i := 108) rfl))) (by decide) (t := .boolean) (t' := .int) (by decide) (by decide))) (pallS (Or.inr (slot_ne (Or.inl (hw _ (List.mem_of_getElem? (i := 139) rfl))) (Or.inr (hw _ (List.mem_of_getElem? (i := 110) rfl))) (by decide) (t := .boolean) (t' := .long) (by decide) (by decide))) (pallS (Or.inr (slot_ne (Or.inl (hw _ (List.mem_of_getElem? (i := 139) rfl))) (Or.inl (hw _ (List.mem_of_getElem? (i := 112) rfl))) (by decide) (t := .boolean) (t' := (.object "com/example/pulsekeep/pulsekeep/core/Subscriber")) (by decide) (by decide))) (pallS (Or.inr (slot_ne (Or.inl (hw _ (List.mem_of_getElem? (i := 139) rfl))) (Or.inl (hw _ (List.mem_of_getElem? (i := 114) rfl))) (by decide) (t := .boolean) (t' := (.object "com/example/pulsekeep/pulsekeep/core/SubscriptionSettings")) (by decide) (by decide))) pall0))))))))))
    have Y58 : Fld Z T38.heap b34 "com/example/pulsekeep/pulsekeep/core/Subscription" "emptyCycles" "J" (.long (0 : Int64)) := (KF38 _ _ _ _ _ ((F34_emptyCycles.ext E35).keep K36 (ninS (by show @Ne Nat b34 b35; omega) nin0)) (pallS (Or.inr (slot_ne (Or.inl (hw _ (List.mem_of_getElem? (i := 149) rfl))) (Or.inr (hw _ (List.mem_of_getElem? (i := 88) rfl))) (by decide) (t := .long) (t' := (.object "java/util/List")) (by decide) (by decide))) (pallS (Or.inr (slot_ne (Or.inl (hw _ (List.mem_of_getElem? (i := 149) rfl))) (Or.inr (hw _ (List.mem_of_getElem? (i := 97) rfl))) (by decide) (t := .long) (t' := (.object "com/example/pulsekeep/pulsekeep/core/MonitoredItem$ValueBudget")) (by decide) (by decide))) (pallS (Or.inr (slot_ne (Or.inl (hw _ (List.mem_of_getElem? (i := 149) rfl))) (Or.inl (hw _ (List.mem_of_getElem? (i := 102) rfl))) (by decide) (t := .long) (t' := (.object "java/lang/Runnable")) (by decide) (by decide))) (pallS (Or.inr (slot_ne (Or.inl (hw _ (List.mem_of_getElem? (i := 149) rfl))) (Or.inl (hw _ (List.mem_of_getElem? (i := 104) rfl))) (by decide) (t := .long) (t' := .long) (by decide) (by decide))) (pallS (Or.inr (slot_ne (Or.inl (hw _ (List.mem_of_getElem? (i := 149) rfl))) (Or.inl (hw _ (List.mem_of_getElem? (i := 106) rfl))) (by decide) (t := .long) (t' := .long) (by decide) (by decide))) (pallS (Or.inr (slot_ne (Or.inl (hw _ (List.mem_of_getElem? (i := 149) rfl))) (Or.inl (hw _ (List.mem_of_getElem? (i := 108) rfl))) (by decide) (t := .long) (t' := .int) (by decide) (by decide))) (pallS (Or.inr (slot_ne (Or.inl (hw _ (List.mem_of_getElem? (i := 149) rfl))) (Or.inr (hw _ (List.mem_of_getElem? (i := 110) rfl))) (by decide) (t := .long) (t' := .long) (by decide) (by decide))) (pallS (Or.inr (slot_ne (Or.inl (hw _ (List.mem_of_getElem? (i := 149) rfl))) (Or.inl (hw _ (List.mem_of_getElem? (i := 112) rfl))) (by decide) (t := .long) (t' := (.object "com/example/pulsekeep/pulsekeep/core/Subscriber")) (by decide) (by decide))) (pallS (Or.inr (slot_ne (Or.inl (hw _ (List.mem_of_getElem? (i := 149) rfl))) (Or.inl (hw _ (List.mem_of_getElem? (i := 114) rfl))) (by decide) (t := .long) (t' := (.object "com/example/pulsekeep/pulsekeep/core/SubscriptionSettings")) (by decide) (by decide))) pall0))))))))))
    exact blk88 C hw (padS X38 (by decide) (by decide)) rfl N38 q0 p1 p2 p3 p4 (1 : Int32) b34 (p2 &&& (3 : Int32)) (0 : Int64) z21 z23 b32 b38_0 ((1 : Int32) &&& 1) (0 : Int32) life (0 : Int64) (0 : Int32) (by omega) Y51 Y38_7 Y38_0 Y52 Y53 Y38_8 Y38_10 Y38_9 Y54 Y55 Y56 Y57 Y58 S_DUE S_CLOSE Y50 (by omega)
set_option maxRecDepth 65536 in
set_option maxHeartbeats 40000000 in
theorem comes_1 {Post : Tables → Env → Array Value → State → Outcome → State → Prop} (hpost : ∀ tb e args s v u, (limb_1_1.after args s (.returned v) u = true ∧ limb_1_2.after args s (.returned v) u = true ∧ True) → FrameEnd s (.returned v) u (Jvm.fieldLocs frame_1_writes args s ++ Jvm.arrayLocs frame_1_arrays args s ++ Jvm.staticLocs frame_1_statics s) 48 320 → Post tb e args s (.returned v) u) :
    ArmFor flags0 classFile x code maxLocals ret World_1 tables_1 room_1 Calls_1 rest_1 Pre_1 Post := by
  intro l hfl _ _ p e ha hc hk s m args below hf hA hF happ hP
  obtain ⟨hcalls, hrest, hpre⟩ := hP
  obtain ⟨-, -, -, hnamed, -, -, -, hat⟩ := (Spec.applies_iff hf).mp happ
  obtain ⟨hg, hn⟩ := and_e (Cond.before_iff.mp (show (Jvm.Cond.and given_1 narrow_1).before args s = true from hpre))
  obtain ⟨g0, hg1⟩ := and_e hg
  obtain ⟨g1, hg2⟩ := and_e hg1
  obtain ⟨g2, hg3⟩ := and_e hg2
  obtain ⟨g3, hg4⟩ := and_e hg3
  obtain ⟨g4, hg5⟩ := and_e hg4
  obtain ⟨w0, w1, w2, w3, w4, rfl⟩ : ∃ w0 w1 w2 w3 w4 : Value, args = #[w0, w1, w2, w3, w4] := by
    have hs : args.size = 5 := by simpa [Cond.value, given_1] using g0
    obtain ⟨L⟩ := args
    match L, hs with
    | [w0, w1, w2, w3, w4], _ => exact ⟨w0, w1, w2, w3, w4, rfl⟩
  have hw := fun d (hd : d ∈ tables_1) => atoms_spec (ws := Jvm.Cond.code x code maxLocals ret :: tables_1) hat d (List.mem_cons_of_mem _ hd)
  obtain ⟨i0, ei0⟩ := isL_v g1
  obtain rfl : w0 = (.long i0) := Option.some.inj ei0
  obtain ⟨i1, ei1⟩ := is_v g2
  obtain rfl : w1 = (.int i1) := Option.some.inj ei1
  obtain ⟨i2, ei2⟩ := is_v g3
  obtain rfl : w2 = (.int i2) := Option.some.inj ei2
  obtain ⟨i3, ei3⟩ := is_v g4
  obtain rfl : w3 = (.int i3) := Option.some.inj ei3
  obtain ⟨i4, ei4⟩ := is_v hg5
  obtain rfl : w4 = (.int i4) := Option.some.inj ei4
  obtain ⟨c0, c1⟩ := and_e hn
  obtain ⟨v_DUE, ev_DUE⟩ := exa_v c0
  have S_DUE := Sta.start ev_DUE (Or.inr ⟨(hw _ (List.mem_of_getElem? (i := 141) rfl)), (hw _ (List.mem_of_getElem? (i := 142) rfl))⟩)
  obtain ⟨v_CLOSE, ev_CLOSE⟩ := exa_v c1
  have S_CLOSE := Sta.start ev_CLOSE (Or.inr ⟨(hw _ (List.mem_of_getElem? (i := 141) rfl)), (hw _ (List.mem_of_getElem? (i := 195) rfl))⟩)
  obtain ⟨hsets, hown0⟩ := atoms_of _ (rest_1_c_eq ▸ (show rest_1_c.before _ s = true from hrest))
  obtain ⟨vA, evA⟩ := arr_v (Cond.before_iff.mp (hsets _ (List.mem_of_getElem? (i := 6) rfl)))
  have S_A := Sta.start evA (Or.inr ⟨(hw _ (List.mem_of_getElem? (i := 39) rfl)), hsets _ (List.mem_of_getElem? (i := 2) rfl)⟩)
  obtain ⟨n, o, h1, h2, h3, _, L, rfl, ⟨rfl, N⟩, hq⟩ := rm0 l s _ hw tables_1 i0 i1 i2 i3 i4 vA v_DUE v_CLOSE s.heap s.heap.size (Nat.le_refl _) S_A (Old.start s) S_DUE S_CLOSE p e ha hc hk s m _ below hf ((Spec.applies_iff_loose hf).mp happ).1 ⟨rfl, State.Warmed39.refl s, rfl, EXL.of (hw _ (List.mem_of_getElem? (i := 98) rfl))⟩ trivial
  refine ⟨n, _, h1, h2, h3, hpost _ _ _ _ _ _ ⟨Cond.after_iff.mpr rfl, Cond.after_iff.mpr (eq_i res_at (Term.int_eval (1)) rfl), trivial⟩ ⟨hq.1, hq.2.1, (hq.2.2.sift fun y hy => Or.inr (N y hy)).mono (by decide) (by decide)⟩⟩
theorem main_1_1 : Claimed_1_1 := comes_1 fun _ _ _ _ _ _ h hF => ⟨h.1, Jvm.RoadKit.wide hF⟩
theorem main_1_2 : Claimed_1_2 := comes_1 fun _ _ _ _ _ _ h hF => ⟨h.2.1, Jvm.RoadKit.wide hF⟩
end Jvm.Pilot.@@N@@
namespace Jvm.Pilot.@@N@@
open Jvm Jvm.ClassFile Sem Op Lib Jvm.Free Jvm.Stand Jvm.Pilot.@@N@@.Jvm.D
/-! MADE BY PROGRAM (witnessworld.py) out of the Statement's table words and the real class files: 34 classes; the members and pool entries that the words name. The judged class is class 1, her method 1. -/
namespace start1
open Jvm.ClassFile
def u (s : String) : CpInfo := .utf8 (stringToUtf16 s)
/-- a pool by its gaps: so many unusable entries, then the entry; so many at the end -/
def gap : Nat → List CpInfo → List CpInfo
  | 0, r => r
  | n + 1, r => .unusable :: gap n r
def poolList (es : List (Nat × CpInfo)) (last : Nat) : List CpInfo := es.foldr (fun e r => gap e.1 (e.2 :: r)) (gap last [])
def pool (es : List (Nat × CpInfo)) (last : Nat) : Array CpInfo := ⟨poolList es last⟩
def fileOf (pool : Array CpInfo) (this : Nat) (attrs : Array Attribute := #[]) (ms : Array MethodInfo := #[]) (fl : Nat := 33) (sup : Nat := 0) (ifs : Array Nat := #[]) (fds : Array FieldInfo := #[]) : ClassFile where
  minorVersion := 0
  majorVersion := 65
  constantPool := pool
  accessFlags := fl
  thisClass := this
  superClass := sup
  interfaces := ifs
  fields := fds
  methods := ms
  attributes := attrs
def plain (name : String) (sup : Option ClassId) : Class where
  name := name
  kind := .ordinary
  loader := none
  accessFlags := 33
  super := sup
  interfaces := #[]
  cf := none
  fields := #[]
  methods := #[]
  instanceTypes := #[]
  staticTypes := #[]
  resolved := #[]
  callSites := []
  init := .initialized
  statics := none
  mirror := none

def pool0 : Array CpInfo := pool [(5, u "<init>"), (0, u "()V"), (1, .class_ 10), (1, u "java/lang/Object")] 113

def k0c0 : Code := { maxStack := 0, maxLocals := 1, code := object_method_1_code, exceptionTable := #[], attributes := #[] }
def k0m0 : Method := { name := "<init>", desc := "()V", sig := { parameters := [], returnType := none }, accessFlags := 1, code := some k0c0 }
/-- java/lang/Object -/
def k0 : Class := { plain "java/lang/Object" none with
  accessFlags := 33
  interfaces := #[]
  cf := some (fileOf pool0 8 #[] #[{ accessFlags := 1, nameIndex := 5, descriptorIndex := 6, attributes := #[] }] 33 0 #[] #[])
  fields := #[]
  methods := #[k0m0]
  instanceTypes := #[]
  staticTypes := #[]
  resolved := Array.replicate 124 none
  statics := none }

def pool1 : Array CpInfo := pool [(2, .class_ 4), (0, .nameAndType 5 6), (0, u "java/lang/Object"), (0, u "<init>"), (0, u "()V"), (0, .class_ 8), (0, u "com/example/pulsekeep/pulsekeep/core/SubscriptionSettings"), (0, .double 4636737291354636288), (1, .methodref 7 12), (0, .nameAndType 5 13), (0, u "(DJJJZI)V"), (0, .class_ 15), (0, u "com/example/pulsekeep/pulsekeep/core/Subscription"), (0, .class_ 17), (0, u "com/example/pulsekeep/pulsekeep/core/Subscriber"), (0, .methodref 16 3), (0, .methodref 14 20), (0, .nameAndType 5 21), (0, u "(JLcom/example/pulsekeep/pulsekeep/core/Subscriber;Lcom/example/pulsekeep/pulsekeep/core/SubscriptionSettings;)V"), (0, .methodref 14 23), (0, .nameAndType 24 25), (0, u "endCycle"), (0, u "(Z)Lcom/example/pulsekeep/pulsekeep/core/Subscription$CycleEnd;"), (0, .methodref 14 27), (0, .nameAndType 28 6), (0, u "startAgain"), (0, .methodref 14 30), (0, .nameAndType 31 32), (0, u "hasMessageDue"), (0, u "()Z"), (0, .fieldref 34 35), (0, .class_ 36), (0, .nameAndType 37 38), (0, u "com/example/pulsekeep/pulsekeep/core/Subscription$CycleEnd"), (0, u "CLOSE"), (0, u "Lcom/example/pulsekeep/pulsekeep/core/Subscription$CycleEnd;"), (0, .fieldref 34 40), (0, .nameAndType 41 38), (0, u "DUE"), (0, .class_ 43), (0, u "com/example/pulsekeep/pulsekeep/core/SubscriptionStartAgainPinLaw"), (2, u "law"), (0, u "(JIIII)Z")] 5

def k1m0 : Method := { name := "<init>", desc := "()V", sig := { parameters := [], returnType := none }, accessFlags := 1, code := none }
def k1c1 : Code := { maxStack := 13, maxLocals := 20, code := code, exceptionTable := #[], attributes := #[] }
def k1m1 : Method := { name := "law", desc := "(JIIII)Z", sig := { parameters := [.long, .int, .int, .int, .int], returnType := some .boolean }, accessFlags := 9, code := some k1c1 }
/-- com/example/pulsekeep/pulsekeep/core/SubscriptionStartAgainPinLaw -/
def k1 : Class := { plain "com/example/pulsekeep/pulsekeep/core/SubscriptionStartAgainPinLaw" (some 0) with
  accessFlags := 49
  interfaces := #[]
  cf := some (fileOf pool1 42 #[] #[{ accessFlags := 1, nameIndex := 5, descriptorIndex := 6, attributes := #[] }, { accessFlags := 9, nameIndex := 46, descriptorIndex := 47, attributes := #[] }] 49 2 #[] #[])
  fields := #[]
  methods := #[k1m0, k1m1]
  instanceTypes := #[]
  staticTypes := #[]
  resolved := Array.replicate 53 none
  statics := none }

def pool2 : Array CpInfo := pool [(1, .methodref 2 3), (0, .class_ 4), (0, .nameAndType 5 6), (0, u "java/lang/Object"), (0, u "<init>"), (0, u "()V"), (0, .class_ 8), (0, u "java/lang/Record")] 13

def k2c0 : Code := { maxStack := 1, maxLocals := 1, code := jdk_30_method_1_code, exceptionTable := #[], attributes := #[] }
def k2m0 : Method := { name := "<init>", desc := "()V", sig := { parameters := [], returnType := none }, accessFlags := 4, code := some k2c0 }
/-- java/lang/Record -/
def k2 : Class := { plain "java/lang/Record" (some 0) with
  accessFlags := 1057
  interfaces := #[]
  cf := some (fileOf pool2 7 #[] #[{ accessFlags := 4, nameIndex := 5, descriptorIndex := 6, attributes := #[] }] 1057 2 #[] #[])
  fields := #[]
  methods := #[k2m0]
  instanceTypes := #[]
  staticTypes := #[]
  resolved := Array.replicate 22 none
  statics := none }

def pool3 : Array CpInfo := pool [(1, .methodref 2 3), (0, .class_ 4), (0, .nameAndType 5 6), (0, u "java/lang/Record"), (0, u "<init>"), (0, u "()V"), (0, .fieldref 8 9), (0, .class_ 10), (0, .nameAndType 11 12), (0, u "com/example/pulsekeep/pulsekeep/core/SubscriptionSettings"), (0, u "publishingIntervalMs"), (0, u "D"), (0, .fieldref 8 14), (0, .nameAndType 15 16), (0, u "lifetimeCount"), (0, u "J"), (0, .fieldref 8 18), (0, .nameAndType 19 16), (0, u "maxKeepAliveCount"), (0, .fieldref 8 21), (0, .nameAndType 22 16), (0, u "maxNotificationsPerPublish"), (0, .fieldref 8 24), (0, .nameAndType 25 26), (0, u "publishingEnabled"), (0, u "Z"), (0, .fieldref 8 28), (0, .nameAndType 29 30), (0, u "priority"), (0, u "I"), (30, u "(DJJJZI)V"), (16, u "MIN_PUBLISHING_INTERVAL_MS"), (1, u "MAX_PUBLISHING_INTERVAL_MS"), (0, u "MAX_KEEP_ALIVE_MS"), (0, u "MAX_LIFETIME_MS"), (0, u "MAX_DURABLE_LIFETIME_HOURS"), (2, u "MILLIS_PER_HOUR"), (14, u "()J"), (0, u "()Z")] 25

def k3c0 : Code := { maxStack := 3, maxLocals := 11, code := prog_47_method_1_code, exceptionTable := #[], attributes := #[] }
def k3m0 : Method := { name := "<init>", desc := "(DJJJZI)V", sig := { parameters := [.double, .long, .long, .long, .boolean, .int], returnType := none }, accessFlags := 1, code := some k3c0 }
def k3c1 : Code := { maxStack := 2, maxLocals := 1, code := prog_47_method_9_code, exceptionTable := #[], attributes := #[] }
def k3m1 : Method := { name := "lifetimeCount", desc := "()J", sig := { parameters := [], returnType := some .long }, accessFlags := 1, code := some k3c1 }
def k3c2 : Code := { maxStack := 1, maxLocals := 1, code := prog_47_method_12_code, exceptionTable := #[], attributes := #[] }
def k3m2 : Method := { name := "publishingEnabled", desc := "()Z", sig := { parameters := [], returnType := some .boolean }, accessFlags := 1, code := some k3c2 }
/-- com/example/pulsekeep/pulsekeep/core/SubscriptionSettings -/
def k3 : Class := { plain "com/example/pulsekeep/pulsekeep/core/SubscriptionSettings" (some 2) with
  accessFlags := 49
  interfaces := #[]
  cf := some (fileOf pool3 8 #[] #[{ accessFlags := 1, nameIndex := 5, descriptorIndex := 61, attributes := #[] }, { accessFlags := 1, nameIndex := 15, descriptorIndex := 101, attributes := #[] }, { accessFlags := 1, nameIndex := 25, descriptorIndex := 102, attributes := #[] }] 49 2 #[] #[{ accessFlags := 18, nameIndex := 11, descriptorIndex := 12, attributes := #[] }, { accessFlags := 18, nameIndex := 15, descriptorIndex := 16, attributes := #[] }, { accessFlags := 18, nameIndex := 19, descriptorIndex := 16, attributes := #[] }, { accessFlags := 18, nameIndex := 22, descriptorIndex := 16, attributes := #[] }, { accessFlags := 18, nameIndex := 25, descriptorIndex := 26, attributes := #[] }, { accessFlags := 18, nameIndex := 29, descriptorIndex := 30, attributes := #[] }, { accessFlags := 24, nameIndex := 78, descriptorIndex := 12, attributes := #[] }, { accessFlags := 24, nameIndex := 80, descriptorIndex := 12, attributes := #[] }, { accessFlags := 24, nameIndex := 81, descriptorIndex := 12, attributes := #[] }, { accessFlags := 24, nameIndex := 82, descriptorIndex := 12, attributes := #[] }, { accessFlags := 24, nameIndex := 83, descriptorIndex := 16, attributes := #[] }, { accessFlags := 26, nameIndex := 86, descriptorIndex := 12, attributes := #[] }])
  fields := #[{ name := "publishingIntervalMs", type := .double, accessFlags := 18, slot := 0, constantValue := 0 }, { name := "lifetimeCount", type := .long, accessFlags := 18, slot := 1, constantValue := 0 }, { name := "maxKeepAliveCount", type := .long, accessFlags := 18, slot := 2, constantValue := 0 }, { name := "maxNotificationsPerPublish", type := .long, accessFlags := 18, slot := 3, constantValue := 0 }, { name := "publishingEnabled", type := .boolean, accessFlags := 18, slot := 4, constantValue := 0 }, { name := "priority", type := .int, accessFlags := 18, slot := 5, constantValue := 0 }, { name := "MIN_PUBLISHING_INTERVAL_MS", type := .double, accessFlags := 24, slot := 0, constantValue := 0 }, { name := "MAX_PUBLISHING_INTERVAL_MS", type := .double, accessFlags := 24, slot := 1, constantValue := 0 }, { name := "MAX_KEEP_ALIVE_MS", type := .double, accessFlags := 24, slot := 2, constantValue := 0 }, { name := "MAX_LIFETIME_MS", type := .double, accessFlags := 24, slot := 3, constantValue := 0 }, { name := "MAX_DURABLE_LIFETIME_HOURS", type := .long, accessFlags := 24, slot := 4, constantValue := 0 }, { name := "MILLIS_PER_HOUR", type := .double, accessFlags := 26, slot := 5, constantValue := 0 }]
  methods := #[k3m0, k3m1, k3m2]
  instanceTypes := #[.double, .long, .long, .long, .boolean, .int]
  staticTypes := #[.double, .double, .double, .double, .long, .double]
  resolved := Array.replicate 128 none
  statics := none }

def pool4 : Array CpInfo := pool [(1, .class_ 2), (0, u "com/example/pulsekeep/pulsekeep/core/Subscriber$Waiting"), (0, .class_ 4), (0, u "java/lang/Object"), (9, .class_ 15), (0, u "com/example/pulsekeep/pulsekeep/core/Subscriber")] 7

/-- com/example/pulsekeep/pulsekeep/core/Subscriber$Waiting -/
def k4 : Class := { plain "com/example/pulsekeep/pulsekeep/core/Subscriber$Waiting" (some 0) with
  accessFlags := 1536
  interfaces := #[]
  cf := some (fileOf pool4 1 #[.nestHost 14] #[] 1536 3 #[] #[])
  fields := #[]
  methods := #[]
  instanceTypes := #[]
  staticTypes := #[]
  resolved := Array.replicate 23 none
  statics := none }

def pool5 : Array CpInfo := pool [(1, .methodref 2 3), (0, .class_ 4), (0, .nameAndType 5 6), (0, u "java/lang/Object"), (0, u "<init>"), (0, u "()V"), (0, .class_ 8), (0, u "java/util/ArrayList"), (0, .methodref 7 3), (0, .fieldref 11 12), (0, .class_ 13), (0, .nameAndType 14 15), (0, u "com/example/pulsekeep/pulsekeep/core/Subscription"), (0, u "items"), (0, u "Ljava/util/List;"), (0, .class_ 17), (0, u "com/example/pulsekeep/pulsekeep/core/MonitoredItem$ValueBudget"), (0, .methodref 16 3), (0, .fieldref 11 20), (0, .nameAndType 21 22), (0, u "valueBudget"), (0, u "Lcom/example/pulsekeep/pulsekeep/core/MonitoredItem$ValueBudget;"), (0, .invokeDynamic 0 24), (0, .nameAndType 25 26), (0, u "run"), (0, u "()Ljava/lang/Runnable;"), (0, .fieldref 11 28), (0, .nameAndType 29 30), (0, u "stopPacing"), (0, u "Ljava/lang/Runnable;"), (0, .fieldref 11 32), (0, .nameAndType 33 34), (0, u "nextItemId"), (0, u "J"), (0, .fieldref 11 36), (0, .nameAndType 37 34), (0, u "nextSequenceNumber"), (0, .fieldref 11 39), (0, .nameAndType 40 41), (0, u "nextPartAt"), (0, u "I"), (0, .fieldref 11 43), (0, .nameAndType 44 34), (0, u "id"), (0, .fieldref 11 46), (0, .nameAndType 47 48), (0, u "owner"), (0, u "Lcom/example/pulsekeep/pulsekeep/core/Subscriber;"), (0, .fieldref 11 50), (0, .nameAndType 51 52), (0, u "settings"), (0, u "Lcom/example/pulsekeep/pulsekeep/core/SubscriptionSettings;"), (4, u "durableHours"), (1, .class_ 61), (1, u "com/example/pulsekeep/pulsekeep/core/SubscriptionSettings"), (7, .class_ 71), (1, u "java/util/List"), (10, u "()J"), (2, u "queueCapacity"), (2, u "pacing"), (7, u "()Z"), (63, .fieldref 11 161), (0, .nameAndType 162 163), (0, u "messageSent"), (0, u "Z"), (0, .fieldref 11 165), (0, .nameAndType 166 163), (0, u "messageDue"), (0, .fieldref 11 168), (0, .nameAndType 169 34), (0, u "emptyCycles"), (0, .fieldref 11 171), (0, .nameAndType 172 34), (0, u "cyclesWithoutRequest"), (0, .methodref 11 174), (0, .nameAndType 175 96), (0, u "hasNotifications"), (3, .methodref 59 180), (0, .nameAndType 181 82), (0, u "lifetimeCount"), (0, .fieldref 183 184), (0, .class_ 185), (0, .nameAndType 186 187), (0, u "com/example/pulsekeep/pulsekeep/core/Subscription$CycleEnd"), (0, u "CLOSE"), (0, u "Lcom/example/pulsekeep/pulsekeep/core/Subscription$CycleEnd;"), (0, .fieldref 183 189), (0, .nameAndType 190 187), (0, u "DUE"), (6, .methodref 59 198), (0, .nameAndType 199 96), (0, u "publishingEnabled"), (35, .interfaceMethodref 69 236), (0, .nameAndType 237 238), (0, u "iterator"), (0, u "()Ljava/util/Iterator;"), (0, .interfaceMethodref 240 241), (0, .class_ 242), (0, .nameAndType 243 96), (0, u "java/util/Iterator"), (0, u "hasNext"), (12, .class_ 257), (0, u "com/example/pulsekeep/pulsekeep/core/Subscriber$Waiting"), (0, u "LAST_NUMBER"), (3, u "(JLcom/example/pulsekeep/pulsekeep/core/Subscriber;Lcom/example/pulsekeep/pulsekeep/core/SubscriptionSettings;)V"), (25, u "startAgain"), (0, u "endCycle"), (0, u "(Z)Lcom/example/pulsekeep/pulsekeep/core/Subscription$CycleEnd;"), (2, u "hasMessageDue"), (8, u "lambda$new$0"), (4, .methodType 6), (0, .methodHandle 6 309), (0, .methodref 11 310), (0, .nameAndType 302 6), (16, .methodHandle 6 328), (0, .methodref 329 330), (0, .class_ 331), (0, .nameAndType 332 333), (0, u "java/lang/invoke/LambdaMetafactory"), (0, u "metafactory"), (0, u "(Ljava/lang/invoke/MethodHandles$Lookup;Ljava/lang/String;Ljava/lang/invoke/MethodType;Ljava/lang/invoke/MethodType;Ljava/lang/invoke/MethodHandle;Ljava/lang/invoke/MethodType;)Ljava/lang/invoke/CallSite;")] 24

def k5c0 : Code := { maxStack := 3, maxLocals := 5, code := prog_45_method_1_code, exceptionTable := #[], attributes := #[] }
def k5m0 : Method := { name := "<init>", desc := "(JLcom/example/pulsekeep/pulsekeep/core/Subscriber;Lcom/example/pulsekeep/pulsekeep/core/SubscriptionSettings;)V", sig := { parameters := [.long, (.object "com/example/pulsekeep/pulsekeep/core/Subscriber"), (.object "com/example/pulsekeep/pulsekeep/core/SubscriptionSettings")], returnType := none }, accessFlags := 0, code := some k5c0 }
def k5c1 : Code := { maxStack := 3, maxLocals := 1, code := prog_45_method_25_code, exceptionTable := #[], attributes := #[] }
def k5m1 : Method := { name := "startAgain", desc := "()V", sig := { parameters := [], returnType := none }, accessFlags := 0, code := some k5c1 }
def k5c2 : Code := { maxStack := 5, maxLocals := 4, code := prog_45_method_26_code, exceptionTable := #[], attributes := #[] }
def k5m2 : Method := { name := "endCycle", desc := "(Z)Lcom/example/pulsekeep/pulsekeep/core/Subscription$CycleEnd;", sig := { parameters := [.boolean], returnType := some (.object "com/example/pulsekeep/pulsekeep/core/Subscription$CycleEnd") }, accessFlags := 0, code := some k5c2 }
def k5c3 : Code := { maxStack := 1, maxLocals := 1, code := prog_45_method_30_code, exceptionTable := #[], attributes := #[] }
def k5m3 : Method := { name := "hasMessageDue", desc := "()Z", sig := { parameters := [], returnType := some .boolean }, accessFlags := 1, code := some k5c3 }
def k5c4 : Code := { maxStack := 1, maxLocals := 3, code := prog_45_method_34_code, exceptionTable := #[], attributes := #[] }
def k5m4 : Method := { name := "hasNotifications", desc := "()Z", sig := { parameters := [], returnType := some .boolean }, accessFlags := 2, code := some k5c4 }
def k5c5 : Code := { maxStack := 0, maxLocals := 0, code := ⟨#[0xb1]⟩, exceptionTable := #[], attributes := #[] }
def k5m5 : Method := { name := "lambda$new$0", desc := "()V", sig := { parameters := [], returnType := none }, accessFlags := 4106, code := some k5c5 }
/-- com/example/pulsekeep/pulsekeep/core/Subscription -/
def k5 : Class := { plain "com/example/pulsekeep/pulsekeep/core/Subscription" (some 0) with
  accessFlags := 48
  interfaces := #[4]
  cf := some (fileOf pool5 11 #[.nestMembers #[183], .bootstrapMethods #[⟨327, #[307, 308, 307]⟩, ⟨0, #[]⟩, ⟨0, #[]⟩, ⟨0, #[]⟩, ⟨0, #[]⟩, ⟨0, #[]⟩, ⟨0, #[]⟩, ⟨0, #[]⟩]] #[{ accessFlags := 0, nameIndex := 5, descriptorIndex := 262, attributes := #[] }, { accessFlags := 0, nameIndex := 288, descriptorIndex := 6, attributes := #[] }, { accessFlags := 0, nameIndex := 289, descriptorIndex := 290, attributes := #[] }, { accessFlags := 1, nameIndex := 293, descriptorIndex := 96, attributes := #[] }, { accessFlags := 2, nameIndex := 175, descriptorIndex := 96, attributes := #[] }, { accessFlags := 4106, nameIndex := 302, descriptorIndex := 6, attributes := #[] }] 48 2 #[256] #[{ accessFlags := 24, nameIndex := 258, descriptorIndex := 34, attributes := #[] }, { accessFlags := 18, nameIndex := 44, descriptorIndex := 34, attributes := #[] }, { accessFlags := 2, nameIndex := 47, descriptorIndex := 48, attributes := #[] }, { accessFlags := 2, nameIndex := 51, descriptorIndex := 52, attributes := #[] }, { accessFlags := 18, nameIndex := 14, descriptorIndex := 15, attributes := #[] }, { accessFlags := 18, nameIndex := 21, descriptorIndex := 22, attributes := #[] }, { accessFlags := 2, nameIndex := 29, descriptorIndex := 30, attributes := #[] }, { accessFlags := 2, nameIndex := 88, descriptorIndex := 34, attributes := #[] }, { accessFlags := 2, nameIndex := 57, descriptorIndex := 34, attributes := #[] }, { accessFlags := 2, nameIndex := 33, descriptorIndex := 34, attributes := #[] }, { accessFlags := 2, nameIndex := 85, descriptorIndex := 34, attributes := #[] }, { accessFlags := 2, nameIndex := 37, descriptorIndex := 34, attributes := #[] }, { accessFlags := 2, nameIndex := 162, descriptorIndex := 163, attributes := #[] }, { accessFlags := 2, nameIndex := 169, descriptorIndex := 34, attributes := #[] }, { accessFlags := 2, nameIndex := 172, descriptorIndex := 34, attributes := #[] }, { accessFlags := 2, nameIndex := 166, descriptorIndex := 163, attributes := #[] }, { accessFlags := 2, nameIndex := 40, descriptorIndex := 41, attributes := #[] }])
  fields := #[{ name := "LAST_NUMBER", type := .long, accessFlags := 24, slot := 0, constantValue := 0 }, { name := "id", type := .long, accessFlags := 18, slot := 0, constantValue := 0 }, { name := "owner", type := (.object "com/example/pulsekeep/pulsekeep/core/Subscriber"), accessFlags := 2, slot := 1, constantValue := 0 }, { name := "settings", type := (.object "com/example/pulsekeep/pulsekeep/core/SubscriptionSettings"), accessFlags := 2, slot := 2, constantValue := 0 }, { name := "items", type := (.object "java/util/List"), accessFlags := 18, slot := 3, constantValue := 0 }, { name := "valueBudget", type := (.object "com/example/pulsekeep/pulsekeep/core/MonitoredItem$ValueBudget"), accessFlags := 18, slot := 4, constantValue := 0 }, { name := "stopPacing", type := (.object "java/lang/Runnable"), accessFlags := 2, slot := 5, constantValue := 0 }, { name := "pacing", type := .long, accessFlags := 2, slot := 6, constantValue := 0 }, { name := "durableHours", type := .long, accessFlags := 2, slot := 7, constantValue := 0 }, { name := "nextItemId", type := .long, accessFlags := 2, slot := 8, constantValue := 0 }, { name := "queueCapacity", type := .long, accessFlags := 2, slot := 9, constantValue := 0 }, { name := "nextSequenceNumber", type := .long, accessFlags := 2, slot := 10, constantValue := 0 }, { name := "messageSent", type := .boolean, accessFlags := 2, slot := 11, constantValue := 0 }, { name := "emptyCycles", type := .long, accessFlags := 2, slot := 12, constantValue := 0 }, { name := "cyclesWithoutRequest", type := .long, accessFlags := 2, slot := 13, constantValue := 0 }, { name := "messageDue", type := .boolean, accessFlags := 2, slot := 14, constantValue := 0 }, { name := "nextPartAt", type := .int, accessFlags := 2, slot := 15, constantValue := 0 }]
  methods := #[k5m0, k5m1, k5m2, k5m3, k5m4, k5m5]
  instanceTypes := #[.long, (.object "com/example/pulsekeep/pulsekeep/core/Subscriber"), (.object "com/example/pulsekeep/pulsekeep/core/SubscriptionSettings"), (.object "java/util/List"), (.object "com/example/pulsekeep/pulsekeep/core/MonitoredItem$ValueBudget"), (.object "java/lang/Runnable"), .long, .long, .long, .long, .long, .boolean, .long, .long, .boolean, .int]
  staticTypes := #[.long]
  resolved := Array.replicate 358 none
  callSites := [(0, 27, .constant 2)]
  statics := none }

def pool6 : Array CpInfo := pool [(1, .methodref 2 3), (0, .class_ 4), (0, .nameAndType 5 6), (0, u "java/lang/Object"), (0, u "<init>"), (0, u "()V"), (0, .class_ 8), (0, u "java/util/ArrayList"), (0, .methodref 7 3), (0, .fieldref 11 12), (0, .class_ 13), (0, .nameAndType 14 15), (0, u "com/example/pulsekeep/pulsekeep/core/Subscriber"), (0, u "subscriptions"), (0, u "Ljava/util/List;"), (0, .class_ 17), (0, u "java/util/ArrayDeque"), (0, .methodref 16 3), (0, .fieldref 11 20), (0, .nameAndType 21 22), (0, u "requests"), (0, u "Ljava/util/ArrayDeque;"), (0, .fieldref 11 24), (0, .nameAndType 25 22), (0, u "kept"), (0, .fieldref 11 27), (0, .nameAndType 28 22), (0, u "departures"), (38, .class_ 68), (0, u "com/example/pulsekeep/pulsekeep/core/Subscriber$Waiting"), (55, .class_ 125), (0, u "com/example/pulsekeep/pulsekeep/core/Subscriber$QueuedRequest"), (24, .class_ 151), (0, u "com/example/pulsekeep/pulsekeep/core/Subscriber$Kept"), (10, u "keptBytes"), (0, u "J"), (59, .class_ 224), (0, u "com/example/pulsekeep/pulsekeep/core/Subscriber$Departure"), (24, u "MAX_QUEUED_REQUESTS"), (0, u "I"), (2, u "MAX_KEPT_MESSAGES"), (1, u "MAX_KEPT_BYTES")] 75

def k6c0 : Code := { maxStack := 3, maxLocals := 1, code := prog_40_method_1_code, exceptionTable := #[], attributes := #[] }
def k6m0 : Method := { name := "<init>", desc := "()V", sig := { parameters := [], returnType := none }, accessFlags := 1, code := some k6c0 }
/-- com/example/pulsekeep/pulsekeep/core/Subscriber -/
def k6 : Class := { plain "com/example/pulsekeep/pulsekeep/core/Subscriber" (some 0) with
  accessFlags := 49
  interfaces := #[]
  cf := some (fileOf pool6 11 #[.nestMembers #[150, 223, 67, 124]] #[{ accessFlags := 1, nameIndex := 5, descriptorIndex := 6, attributes := #[] }] 49 2 #[] #[{ accessFlags := 24, nameIndex := 249, descriptorIndex := 250, attributes := #[] }, { accessFlags := 25, nameIndex := 253, descriptorIndex := 250, attributes := #[] }, { accessFlags := 24, nameIndex := 255, descriptorIndex := 163, attributes := #[] }, { accessFlags := 18, nameIndex := 14, descriptorIndex := 15, attributes := #[] }, { accessFlags := 18, nameIndex := 21, descriptorIndex := 22, attributes := #[] }, { accessFlags := 18, nameIndex := 25, descriptorIndex := 22, attributes := #[] }, { accessFlags := 2, nameIndex := 162, descriptorIndex := 163, attributes := #[] }, { accessFlags := 18, nameIndex := 28, descriptorIndex := 22, attributes := #[] }])
  fields := #[{ name := "MAX_QUEUED_REQUESTS", type := .int, accessFlags := 24, slot := 0, constantValue := 0 }, { name := "MAX_KEPT_MESSAGES", type := .int, accessFlags := 25, slot := 1, constantValue := 0 }, { name := "MAX_KEPT_BYTES", type := .long, accessFlags := 24, slot := 2, constantValue := 0 }, { name := "subscriptions", type := (.object "java/util/List"), accessFlags := 18, slot := 0, constantValue := 0 }, { name := "requests", type := (.object "java/util/ArrayDeque"), accessFlags := 18, slot := 1, constantValue := 0 }, { name := "kept", type := (.object "java/util/ArrayDeque"), accessFlags := 18, slot := 2, constantValue := 0 }, { name := "keptBytes", type := .long, accessFlags := 2, slot := 3, constantValue := 0 }, { name := "departures", type := (.object "java/util/ArrayDeque"), accessFlags := 18, slot := 4, constantValue := 0 }]
  methods := #[k6m0]
  instanceTypes := #[(.object "java/util/List"), (.object "java/util/ArrayDeque"), (.object "java/util/ArrayDeque"), .long, (.object "java/util/ArrayDeque")]
  staticTypes := #[.int, .int, .long]
  resolved := Array.replicate 331 none
  statics := none }

def pool7 : Array CpInfo := pool [(8, .class_ 10), (1, u "java/lang/Iterable"), (24, .class_ 36), (0, u "java/lang/Object")] 25

/-- java/lang/Iterable -/
def k7 : Class := { plain "java/lang/Iterable" (some 0) with
  accessFlags := 1537
  interfaces := #[]
  cf := some (fileOf pool7 8 #[] #[] 1537 35 #[] #[])
  fields := #[]
  methods := #[]
  instanceTypes := #[]
  staticTypes := #[]
  resolved := Array.replicate 62 none
  statics := none }

def pool8 : Array CpInfo := pool [(10, .class_ 12), (1, u "java/util/Collection"), (47, .class_ 61), (0, u "java/lang/Object"), (0, .class_ 63), (0, u "java/lang/Iterable")] 51

/-- java/util/Collection -/
def k8 : Class := { plain "java/util/Collection" (some 0) with
  accessFlags := 1537
  interfaces := #[7]
  cf := some (fileOf pool8 10 #[] #[] 1537 60 #[62] #[])
  fields := #[]
  methods := #[]
  instanceTypes := #[]
  staticTypes := #[]
  resolved := Array.replicate 115 none
  statics := none }

def pool9 : Array CpInfo := pool [(1, .methodref 2 3), (0, .class_ 4), (0, .nameAndType 5 6), (0, u "java/lang/Object"), (0, u "<init>"), (0, u "()V"), (1, .class_ 10), (1, u "java/util/AbstractCollection"), (66, .class_ 78), (0, u "java/util/Collection")] 81

def k9c0 : Code := { maxStack := 1, maxLocals := 1, code := jdk_22_method_1_code, exceptionTable := #[], attributes := #[] }
def k9m0 : Method := { name := "<init>", desc := "()V", sig := { parameters := [], returnType := none }, accessFlags := 4, code := some k9c0 }
/-- java/util/AbstractCollection -/
def k9 : Class := { plain "java/util/AbstractCollection" (some 0) with
  accessFlags := 1057
  interfaces := #[8]
  cf := some (fileOf pool9 8 #[] #[{ accessFlags := 4, nameIndex := 5, descriptorIndex := 6, attributes := #[] }] 1057 2 #[77] #[])
  fields := #[]
  methods := #[k9m0]
  instanceTypes := #[]
  staticTypes := #[]
  resolved := Array.replicate 160 none
  statics := none }

def pool10 : Array CpInfo := pool [(8, .class_ 10), (1, u "java/util/SequencedCollection"), (15, .class_ 27), (0, u "java/lang/Object"), (0, .class_ 29), (0, u "java/util/Collection")] 27

/-- java/util/SequencedCollection -/
def k10 : Class := { plain "java/util/SequencedCollection" (some 0) with
  accessFlags := 1537
  interfaces := #[8]
  cf := some (fileOf pool10 8 #[] #[] 1537 26 #[28] #[])
  fields := #[]
  methods := #[]
  instanceTypes := #[]
  staticTypes := #[]
  resolved := Array.replicate 57 none
  statics := none }

def pool11 : Array CpInfo := pool [(8, .class_ 10), (1, u "java/util/List"), (92, .class_ 104), (0, u "java/lang/Object"), (15, .class_ 121), (0, u "java/util/SequencedCollection"), (1, u "iterator"), (0, u "()Ljava/util/Iterator;")] 126

def k11m0 : Method := { name := "iterator", desc := "()Ljava/util/Iterator;", sig := { parameters := [], returnType := some (.object "java/util/Iterator") }, accessFlags := 1025, code := none }
/-- java/util/List -/
def k11 : Class := { plain "java/util/List" (some 0) with
  accessFlags := 1537
  interfaces := #[10]
  cf := some (fileOf pool11 8 #[] #[{ accessFlags := 1025, nameIndex := 123, descriptorIndex := 124, attributes := #[] }] 1537 103 #[120] #[])
  fields := #[]
  methods := #[k11m0]
  instanceTypes := #[]
  staticTypes := #[]
  resolved := Array.replicate 251 none
  statics := none }

def pool12 : Array CpInfo := pool [(1, .methodref 2 3), (0, .class_ 4), (0, .nameAndType 5 6), (0, u "java/util/AbstractCollection"), (0, u "<init>"), (0, u "()V"), (0, .fieldref 8 9), (0, .class_ 10), (0, .nameAndType 11 12), (0, u "java/util/AbstractList"), (0, u "modCount"), (0, u "I"), (64, .class_ 78), (0, u "java/util/AbstractList$Itr"), (3, .class_ 83), (0, u "java/util/AbstractList$ListItr"), (9, .class_ 94), (0, u "java/util/AbstractList$RandomAccessSubList"), (3, .class_ 99), (0, u "java/util/AbstractList$SubList"), (33, .class_ 134), (0, u "java/util/List"), (73, .class_ 209), (0, u "java/util/AbstractList$SubList$1"), (0, .class_ 211), (0, u "java/util/AbstractList$RandomAccessSpliterator")] 6

def k12c0 : Code := { maxStack := 2, maxLocals := 1, code := jdk_39_method_1_code, exceptionTable := #[], attributes := #[] }
def k12m0 : Method := { name := "<init>", desc := "()V", sig := { parameters := [], returnType := none }, accessFlags := 4, code := some k12c0 }
/-- java/util/AbstractList -/
def k12 : Class := { plain "java/util/AbstractList" (some 9) with
  accessFlags := 1057
  interfaces := #[11]
  cf := some (fileOf pool12 8 #[.nestMembers #[93, 98, 208, 210, 82, 77]] #[{ accessFlags := 4, nameIndex := 5, descriptorIndex := 6, attributes := #[] }] 1057 2 #[133] #[{ accessFlags := 132, nameIndex := 11, descriptorIndex := 12, attributes := #[] }])
  fields := #[{ name := "modCount", type := .int, accessFlags := 132, slot := 0, constantValue := 0 }]
  methods := #[k12m0]
  instanceTypes := #[.int]
  staticTypes := #[]
  resolved := Array.replicate 218 none
  statics := none }

def pool13 : Array CpInfo := pool [(1, .class_ 2), (0, u "java/util/RandomAccess"), (0, .class_ 4), (0, u "java/lang/Object")] 2

/-- java/util/RandomAccess -/
def k13 : Class := { plain "java/util/RandomAccess" (some 0) with
  accessFlags := 1537
  interfaces := #[]
  cf := some (fileOf pool13 1 #[] #[] 1537 3 #[] #[])
  fields := #[]
  methods := #[]
  instanceTypes := #[]
  staticTypes := #[]
  resolved := Array.replicate 7 none
  statics := none }

def pool14 : Array CpInfo := pool [(1, .class_ 2), (0, u "java/lang/Cloneable"), (0, .class_ 4), (0, u "java/lang/Object")] 2

/-- java/lang/Cloneable -/
def k14 : Class := { plain "java/lang/Cloneable" (some 0) with
  accessFlags := 1537
  interfaces := #[]
  cf := some (fileOf pool14 1 #[] #[] 1537 3 #[] #[])
  fields := #[]
  methods := #[]
  instanceTypes := #[]
  staticTypes := #[]
  resolved := Array.replicate 7 none
  statics := none }

def pool15 : Array CpInfo := pool [(1, .class_ 2), (0, u "java/io/Serializable"), (0, .class_ 4), (0, u "java/lang/Object")] 2

/-- java/io/Serializable -/
def k15 : Class := { plain "java/io/Serializable" (some 0) with
  accessFlags := 1537
  interfaces := #[]
  cf := some (fileOf pool15 1 #[] #[] 1537 3 #[] #[])
  fields := #[]
  methods := #[]
  instanceTypes := #[]
  staticTypes := #[]
  resolved := Array.replicate 7 none
  statics := none }

def pool16 : Array CpInfo := pool [(1, .methodref 2 3), (0, .class_ 4), (0, .nameAndType 5 6), (0, u "java/util/AbstractList"), (0, u "<init>"), (0, u "()V"), (2, .fieldref 10 11), (0, .class_ 12), (0, .nameAndType 13 14), (0, u "java/util/ArrayList"), (0, u "elementData"), (0, u "[Ljava/lang/Object;"), (2, u "EMPTY_ELEMENTDATA"), (21, .fieldref 10 40), (0, .nameAndType 41 14), (0, u "DEFAULTCAPACITY_EMPTY_ELEMENTDATA"), (8, u "size"), (0, u "I"), (96, .class_ 149), (0, u "java/util/List"), (16, u "iterator"), (0, u "()Ljava/util/Iterator;"), (94, .class_ 263), (0, u "java/util/ArrayList$ListItr"), (3, .class_ 268), (0, u "java/util/ArrayList$Itr"), (0, .methodref 267 270), (0, .nameAndType 5 271), (0, u "(Ljava/util/ArrayList;)V"), (4, .class_ 277), (0, u "java/util/ArrayList$SubList"), (12, .class_ 291), (0, u "java/util/ArrayList$ArrayListSpliterator"), (37, .class_ 330), (0, u "java/util/RandomAccess"), (0, .class_ 332), (0, u "java/lang/Cloneable"), (0, .class_ 334), (0, u "java/io/Serializable"), (0, u "serialVersionUID"), (0, u "J"), (3, u "DEFAULT_CAPACITY"), (159, .class_ 501), (0, u "java/util/ArrayList$SubList$2"), (0, .class_ 503), (0, u "java/util/ArrayList$SubList$1")] 5

def k16c0 : Code := { maxStack := 2, maxLocals := 1, code := jdk_38_method_2_code, exceptionTable := #[], attributes := #[] }
def k16m0 : Method := { name := "<init>", desc := "()V", sig := { parameters := [], returnType := none }, accessFlags := 1, code := some k16c0 }
def k16c1 : Code := { maxStack := 3, maxLocals := 1, code := jdk_38_method_55_code, exceptionTable := #[], attributes := #[] }
def k16m1 : Method := { name := "iterator", desc := "()Ljava/util/Iterator;", sig := { parameters := [], returnType := some (.object "java/util/Iterator") }, accessFlags := 1, code := some k16c1 }
/-- java/util/ArrayList -/
def k16 : Class := { plain "java/util/ArrayList" (some 12) with
  accessFlags := 33
  interfaces := #[11, 13, 14, 15]
  cf := some (fileOf pool16 10 #[.nestMembers #[290, 276, 500, 502, 262, 267]] #[{ accessFlags := 1, nameIndex := 5, descriptorIndex := 6, attributes := #[] }, { accessFlags := 1, nameIndex := 166, descriptorIndex := 167, attributes := #[] }] 33 2 #[148, 329, 331, 333] #[{ accessFlags := 26, nameIndex := 335, descriptorIndex := 336, attributes := #[] }, { accessFlags := 26, nameIndex := 340, descriptorIndex := 51, attributes := #[] }, { accessFlags := 26, nameIndex := 17, descriptorIndex := 14, attributes := #[] }, { accessFlags := 26, nameIndex := 41, descriptorIndex := 14, attributes := #[] }, { accessFlags := 128, nameIndex := 13, descriptorIndex := 14, attributes := #[] }, { accessFlags := 2, nameIndex := 50, descriptorIndex := 51, attributes := #[] }])
  fields := #[{ name := "serialVersionUID", type := .long, accessFlags := 26, slot := 0, constantValue := 0 }, { name := "DEFAULT_CAPACITY", type := .int, accessFlags := 26, slot := 1, constantValue := 0 }, { name := "EMPTY_ELEMENTDATA", type := (.array (.object "java/lang/Object")), accessFlags := 26, slot := 2, constantValue := 0 }, { name := "DEFAULTCAPACITY_EMPTY_ELEMENTDATA", type := (.array (.object "java/lang/Object")), accessFlags := 26, slot := 3, constantValue := 0 }, { name := "elementData", type := (.array (.object "java/lang/Object")), accessFlags := 128, slot := 1, constantValue := 0 }, { name := "size", type := .int, accessFlags := 2, slot := 2, constantValue := 0 }]
  methods := #[k16m0, k16m1]
  instanceTypes := #[.int, (.array (.object "java/lang/Object")), .int]
  staticTypes := #[.long, .int, (.array (.object "java/lang/Object")), (.array (.object "java/lang/Object"))]
  resolved := Array.replicate 509 none
  statics := some 0 }

def pool17 : Array CpInfo := pool [(1, .class_ 2), (0, u "java/util/Queue"), (0, .class_ 4), (0, u "java/lang/Object"), (0, .class_ 6), (0, u "java/util/Collection")] 14

/-- java/util/Queue -/
def k17 : Class := { plain "java/util/Queue" (some 0) with
  accessFlags := 1537
  interfaces := #[8]
  cf := some (fileOf pool17 1 #[] #[] 1537 3 #[5] #[])
  fields := #[]
  methods := #[]
  instanceTypes := #[]
  staticTypes := #[]
  resolved := Array.replicate 21 none
  statics := none }

def pool18 : Array CpInfo := pool [(8, .class_ 10), (1, u "java/util/Deque"), (2, .class_ 14), (0, u "java/lang/Object"), (0, .class_ 16), (0, u "java/util/Queue"), (0, .class_ 18), (0, u "java/util/SequencedCollection")] 51

/-- java/util/Deque -/
def k18 : Class := { plain "java/util/Deque" (some 0) with
  accessFlags := 1537
  interfaces := #[17, 10]
  cf := some (fileOf pool18 8 #[] #[] 1537 13 #[15, 17] #[])
  fields := #[]
  methods := #[]
  instanceTypes := #[]
  staticTypes := #[]
  resolved := Array.replicate 70 none
  statics := none }

def pool19 : Array CpInfo := pool [(3, .fieldref 4 5), (0, .class_ 6), (0, .nameAndType 7 8), (0, u "java/util/ArrayDeque"), (0, u "elements"), (0, u "[Ljava/lang/Object;"), (13, u "tail"), (0, u "I"), (2, u "head"), (12, u "<init>"), (2, .methodref 43 44), (0, .class_ 45), (0, .nameAndType 39 46), (0, u "java/util/AbstractCollection"), (0, u "()V"), (0, .class_ 48), (0, u "java/lang/Object"), (82, .class_ 132), (0, u "java/util/ArrayDeque$DeqIterator"), (3, .class_ 137), (0, u "java/util/ArrayDeque$DescendingIterator"), (1, .class_ 140), (0, u "java/util/ArrayDeque$DeqSpliterator"), (137, .class_ 279), (0, u "java/util/Deque"), (0, .class_ 281), (0, u "java/lang/Cloneable"), (0, .class_ 283), (0, u "java/io/Serializable"), (0, u "MAX_ARRAY_SIZE"), (1, u "serialVersionUID"), (0, u "J")] 150

def k19c0 : Code := { maxStack := 2, maxLocals := 1, code := jdk_21_method_3_code, exceptionTable := #[], attributes := #[] }
def k19m0 : Method := { name := "<init>", desc := "()V", sig := { parameters := [], returnType := none }, accessFlags := 1, code := some k19c0 }
/-- java/util/ArrayDeque -/
def k19 : Class := { plain "java/util/ArrayDeque" (some 9) with
  accessFlags := 33
  interfaces := #[18, 14, 15]
  cf := some (fileOf pool19 4 #[.nestMembers #[139, 136, 131]] #[{ accessFlags := 1, nameIndex := 39, descriptorIndex := 46, attributes := #[] }] 33 43 #[278, 280, 282] #[{ accessFlags := 128, nameIndex := 7, descriptorIndex := 8, attributes := #[] }, { accessFlags := 128, nameIndex := 26, descriptorIndex := 23, attributes := #[] }, { accessFlags := 128, nameIndex := 22, descriptorIndex := 23, attributes := #[] }, { accessFlags := 26, nameIndex := 284, descriptorIndex := 23, attributes := #[] }, { accessFlags := 26, nameIndex := 286, descriptorIndex := 287, attributes := #[] }])
  fields := #[{ name := "elements", type := (.array (.object "java/lang/Object")), accessFlags := 128, slot := 0, constantValue := 0 }, { name := "head", type := .int, accessFlags := 128, slot := 1, constantValue := 0 }, { name := "tail", type := .int, accessFlags := 128, slot := 2, constantValue := 0 }, { name := "MAX_ARRAY_SIZE", type := .int, accessFlags := 26, slot := 0, constantValue := 0 }, { name := "serialVersionUID", type := .long, accessFlags := 26, slot := 1, constantValue := 0 }]
  methods := #[k19m0]
  instanceTypes := #[(.array (.object "java/lang/Object")), .int, .int]
  staticTypes := #[.int, .long]
  resolved := Array.replicate 438 none
  statics := none }

def pool20 : Array CpInfo := pool [(1, .methodref 2 3), (0, .class_ 4), (0, .nameAndType 5 6), (0, u "java/lang/Object"), (0, u "<init>"), (0, u "()V"), (7, .class_ 16), (1, u "com/example/pulsekeep/pulsekeep/core/MonitoredItem$ValueBudget"), (0, u "held"), (0, u "J"), (6, u "older"), (16, u "Lcom/example/pulsekeep/pulsekeep/core/MonitoredItem$ValueBudget$Count;"), (2, u "COUNT"), (0, u "MAX_BYTES"), (15, .class_ 63), (0, u "com/example/pulsekeep/pulsekeep/core/MonitoredItem")] 6

def k20c0 : Code := { maxStack := 1, maxLocals := 1, code := prog_13_method_1_code, exceptionTable := #[], attributes := #[] }
def k20m0 : Method := { name := "<init>", desc := "()V", sig := { parameters := [], returnType := none }, accessFlags := 0, code := some k20c0 }
/-- com/example/pulsekeep/pulsekeep/core/MonitoredItem$ValueBudget -/
def k20 : Class := { plain "com/example/pulsekeep/pulsekeep/core/MonitoredItem$ValueBudget" (some 0) with
  accessFlags := 48
  interfaces := #[]
  cf := some (fileOf pool20 14 #[.nestHost 62] #[{ accessFlags := 0, nameIndex := 5, descriptorIndex := 6, attributes := #[] }] 48 2 #[] #[{ accessFlags := 24, nameIndex := 46, descriptorIndex := 18, attributes := #[] }, { accessFlags := 24, nameIndex := 45, descriptorIndex := 42, attributes := #[] }, { accessFlags := 2, nameIndex := 17, descriptorIndex := 18, attributes := #[] }, { accessFlags := 2, nameIndex := 25, descriptorIndex := 18, attributes := #[] }])
  fields := #[{ name := "MAX_BYTES", type := .long, accessFlags := 24, slot := 0, constantValue := 0 }, { name := "COUNT", type := (.object "com/example/pulsekeep/pulsekeep/core/MonitoredItem$ValueBudget$Count"), accessFlags := 24, slot := 1, constantValue := 0 }, { name := "held", type := .long, accessFlags := 2, slot := 0, constantValue := 0 }, { name := "older", type := .long, accessFlags := 2, slot := 1, constantValue := 0 }]
  methods := #[k20m0]
  instanceTypes := #[.long, .long]
  staticTypes := #[.long, (.object "com/example/pulsekeep/pulsekeep/core/MonitoredItem$ValueBudget$Count")]
  resolved := Array.replicate 70 none
  statics := none }

def pool21 : Array CpInfo := pool [(1, .class_ 2), (0, u "java/lang/Runnable"), (0, .class_ 4), (0, u "java/lang/Object"), (0, u "run"), (0, u "()V")] 4

def k21m0 : Method := { name := "run", desc := "()V", sig := { parameters := [], returnType := none }, accessFlags := 1025, code := none }
/-- java/lang/Runnable -/
def k21 : Class := { plain "java/lang/Runnable" (some 0) with
  accessFlags := 1537
  interfaces := #[]
  cf := some (fileOf pool21 1 #[] #[{ accessFlags := 1025, nameIndex := 5, descriptorIndex := 6, attributes := #[] }] 1537 3 #[] #[])
  fields := #[]
  methods := #[k21m0]
  instanceTypes := #[]
  staticTypes := #[]
  resolved := Array.replicate 11 none
  statics := none }

def pool22 : Array CpInfo := pool [(1, .class_ 2), (0, u "java/lang/constant/Constable"), (0, .class_ 4), (0, u "java/lang/Object")] 6

/-- java/lang/constant/Constable -/
def k22 : Class := { plain "java/lang/constant/Constable" (some 0) with
  accessFlags := 1537
  interfaces := #[]
  cf := some (fileOf pool22 1 #[] #[] 1537 3 #[] #[])
  fields := #[]
  methods := #[]
  instanceTypes := #[]
  staticTypes := #[]
  resolved := Array.replicate 11 none
  statics := none }

def pool23 : Array CpInfo := pool [(1, .class_ 2), (0, u "java/lang/Comparable"), (0, .class_ 4), (0, u "java/lang/Object")] 7

/-- java/lang/Comparable -/
def k23 : Class := { plain "java/lang/Comparable" (some 0) with
  accessFlags := 1537
  interfaces := #[]
  cf := some (fileOf pool23 1 #[] #[] 1537 3 #[] #[])
  fields := #[]
  methods := #[]
  instanceTypes := #[]
  staticTypes := #[]
  resolved := Array.replicate 12 none
  statics := none }

def pool24 : Array CpInfo := pool [(2, .class_ 4), (1, u "java/lang/Enum"), (0, u "name"), (0, u "Ljava/lang/String;"), (2, u "ordinal"), (0, u "I"), (1, .class_ 14), (1, u "java/lang/Object"), (4, u "hash"), (86, .class_ 108), (1, u "java/lang/Enum$EnumDesc"), (2, .class_ 112), (0, u "java/lang/constant/Constable"), (0, .class_ 114), (0, u "java/lang/Comparable"), (0, .class_ 116), (0, u "java/io/Serializable")] 87

/-- java/lang/Enum -/
def k24 : Class := { plain "java/lang/Enum" (some 0) with
  accessFlags := 1057
  interfaces := #[22, 23, 15]
  cf := some (fileOf pool24 2 #[.nestMembers #[106]] #[] 1057 12 #[111, 113, 115] #[{ accessFlags := 18, nameIndex := 5, descriptorIndex := 6, attributes := #[] }, { accessFlags := 18, nameIndex := 9, descriptorIndex := 10, attributes := #[] }, { accessFlags := 2, nameIndex := 19, descriptorIndex := 10, attributes := #[] }])
  fields := #[{ name := "name", type := (.object "java/lang/String"), accessFlags := 18, slot := 0, constantValue := 0 }, { name := "ordinal", type := .int, accessFlags := 18, slot := 1, constantValue := 0 }, { name := "hash", type := .int, accessFlags := 2, slot := 2, constantValue := 0 }]
  methods := #[]
  instanceTypes := #[(.object "java/lang/String"), .int, .int]
  staticTypes := #[]
  resolved := Array.replicate 204 none
  statics := none }

def pool25 : Array CpInfo := pool [(1, .class_ 2), (0, u "com/example/pulsekeep/pulsekeep/core/Subscription$CycleEnd"), (2, u "NOTHING"), (0, u "Lcom/example/pulsekeep/pulsekeep/core/Subscription$CycleEnd;"), (2, u "DUE"), (2, u "CLOSE"), (2, u "$VALUES"), (0, u "[Lcom/example/pulsekeep/pulsekeep/core/Subscription$CycleEnd;"), (6, .class_ 25), (1, u "java/lang/Enum"), (26, .class_ 53), (0, u "com/example/pulsekeep/pulsekeep/core/Subscription")] 2

/-- com/example/pulsekeep/pulsekeep/core/Subscription$CycleEnd -/
def k25 : Class := { plain "com/example/pulsekeep/pulsekeep/core/Subscription$CycleEnd" (some 24) with
  accessFlags := 16432
  interfaces := #[]
  cf := some (fileOf pool25 1 #[.nestHost 52] #[] 16432 23 #[] #[{ accessFlags := 16409, nameIndex := 5, descriptorIndex := 6, attributes := #[] }, { accessFlags := 16409, nameIndex := 9, descriptorIndex := 6, attributes := #[] }, { accessFlags := 16409, nameIndex := 12, descriptorIndex := 6, attributes := #[] }, { accessFlags := 4122, nameIndex := 15, descriptorIndex := 16, attributes := #[] }])
  fields := #[{ name := "NOTHING", type := (.object "com/example/pulsekeep/pulsekeep/core/Subscription$CycleEnd"), accessFlags := 16409, slot := 0, constantValue := 0 }, { name := "DUE", type := (.object "com/example/pulsekeep/pulsekeep/core/Subscription$CycleEnd"), accessFlags := 16409, slot := 1, constantValue := 0 }, { name := "CLOSE", type := (.object "com/example/pulsekeep/pulsekeep/core/Subscription$CycleEnd"), accessFlags := 16409, slot := 2, constantValue := 0 }, { name := "$VALUES", type := (.array (.object "com/example/pulsekeep/pulsekeep/core/Subscription$CycleEnd")), accessFlags := 4122, slot := 3, constantValue := 0 }]
  methods := #[]
  instanceTypes := #[(.object "java/lang/String"), .int, .int]
  staticTypes := #[(.object "com/example/pulsekeep/pulsekeep/core/Subscription$CycleEnd"), (.object "com/example/pulsekeep/pulsekeep/core/Subscription$CycleEnd"), (.object "com/example/pulsekeep/pulsekeep/core/Subscription$CycleEnd"), (.array (.object "com/example/pulsekeep/pulsekeep/core/Subscription$CycleEnd"))]
  resolved := Array.replicate 56 none
  statics := some 1 }

def pool26 : Array CpInfo := pool [(16, .class_ 18), (1, u "java/util/Iterator"), (0, u "hasNext"), (0, u "()Z"), (10, .class_ 32), (0, u "java/lang/Object")] 20

def k26m0 : Method := { name := "hasNext", desc := "()Z", sig := { parameters := [], returnType := some .boolean }, accessFlags := 1025, code := none }
/-- java/util/Iterator -/
def k26 : Class := { plain "java/util/Iterator" (some 0) with
  accessFlags := 1537
  interfaces := #[]
  cf := some (fileOf pool26 16 #[] #[{ accessFlags := 1025, nameIndex := 19, descriptorIndex := 20, attributes := #[] }] 1537 31 #[] #[])
  fields := #[]
  methods := #[k26m0]
  instanceTypes := #[]
  staticTypes := #[]
  resolved := Array.replicate 53 none
  statics := none }

def pool27 : Array CpInfo := pool [(1, .fieldref 2 3), (0, .class_ 4), (0, .nameAndType 5 6), (0, u "java/util/ArrayList$Itr"), (0, u "this$0"), (0, u "Ljava/util/ArrayList;"), (0, .methodref 8 9), (0, .class_ 10), (0, .nameAndType 11 12), (0, u "java/lang/Object"), (0, u "<init>"), (0, u "()V"), (0, .fieldref 2 14), (0, .nameAndType 15 16), (0, u "lastRet"), (0, u "I"), (0, .fieldref 18 19), (0, .class_ 20), (0, .nameAndType 21 16), (0, u "java/util/ArrayList"), (0, u "modCount"), (0, .fieldref 2 23), (0, .nameAndType 24 16), (0, u "expectedModCount"), (0, .fieldref 2 26), (0, .nameAndType 27 16), (0, u "cursor"), (0, .fieldref 18 29), (0, .nameAndType 30 16), (0, u "size"), (38, .class_ 70), (0, u "java/util/Iterator"), (0, u "(Ljava/util/ArrayList;)V"), (8, u "hasNext"), (0, u "()Z")] 22

def k27c0 : Code := { maxStack := 2, maxLocals := 2, code := jdk_49_method_1_code, exceptionTable := #[], attributes := #[] }
def k27m0 : Method := { name := "<init>", desc := "(Ljava/util/ArrayList;)V", sig := { parameters := [(.object "java/util/ArrayList")], returnType := none }, accessFlags := 0, code := some k27c0 }
def k27c1 : Code := { maxStack := 2, maxLocals := 1, code := jdk_49_method_2_code, exceptionTable := #[], attributes := #[] }
def k27m1 : Method := { name := "hasNext", desc := "()Z", sig := { parameters := [], returnType := some .boolean }, accessFlags := 1, code := some k27c1 }
/-- java/util/ArrayList$Itr -/
def k27 : Class := { plain "java/util/ArrayList$Itr" (some 0) with
  accessFlags := 32
  interfaces := #[26]
  cf := some (fileOf pool27 2 #[.nestHost 18] #[{ accessFlags := 0, nameIndex := 11, descriptorIndex := 71, attributes := #[] }, { accessFlags := 1, nameIndex := 80, descriptorIndex := 81, attributes := #[] }] 32 8 #[69] #[{ accessFlags := 0, nameIndex := 27, descriptorIndex := 16, attributes := #[] }, { accessFlags := 0, nameIndex := 15, descriptorIndex := 16, attributes := #[] }, { accessFlags := 0, nameIndex := 24, descriptorIndex := 16, attributes := #[] }, { accessFlags := 4112, nameIndex := 5, descriptorIndex := 6, attributes := #[] }])
  fields := #[{ name := "cursor", type := .int, accessFlags := 0, slot := 0, constantValue := 0 }, { name := "lastRet", type := .int, accessFlags := 0, slot := 1, constantValue := 0 }, { name := "expectedModCount", type := .int, accessFlags := 0, slot := 2, constantValue := 0 }, { name := "this$0", type := (.object "java/util/ArrayList"), accessFlags := 4112, slot := 3, constantValue := 0 }]
  methods := #[k27m0, k27m1]
  instanceTypes := #[.int, .int, .int, (.object "java/util/ArrayList")]
  staticTypes := #[]
  resolved := Array.replicate 104 none
  statics := none }

/-- the primitive byte -/
def k28 : Class := { plain "byte" none with kind := .primitive 'B', accessFlags := 0x411 }
/-- [B -/
def k29 : Class := { plain "[B" (some 0) with kind := .array 28 .byte, interfaces := #[14, 15], accessFlags := 1041 }

/-- the primitive int -/
def k30 : Class := { plain "int" none with kind := .primitive 'I', accessFlags := 0x411 }
/-- [I -/
def k31 : Class := { plain "[I" (some 0) with kind := .array 30 .int, interfaces := #[14, 15], accessFlags := 1041 }

/-- [Ljava/lang/Object; -/
def k32 : Class := { plain "[Ljava/lang/Object;" (some 0) with kind := .array 0 (.object "java/lang/Object"), interfaces := #[14, 15], accessFlags := 1041 }

def classes0 : Array Class := #[k0, k1, k2, k3, k4, k5, k6, k7, k8, k9, k10, k11, k12, k13, k14, k15, k16, k17, k18, k19, k20, k21, k22, k23, k24, k25, k26, k27, k28, k29, k30, k31, k32]
/-- the class that the rule has made for the site at 27 of com/example/pulsekeep/pulsekeep/core/Subscription.<init> -/
def k33 : Class := Jvm.LamKit.madeRec { classes := classes0 } "com/example/pulsekeep/pulsekeep/core/Subscription" (Jvm.Lambda.Shape.mk "java/lang/Runnable" "run" (Jvm.ClassFile.MethodDescriptor.mk ([] : List Jvm.ClassFile.FieldType) (Option.none : Option Jvm.ClassFile.FieldType)) ([] : List Jvm.ClassFile.FieldType) (6 : Nat) "com/example/pulsekeep/pulsekeep/core/Subscription" "lambda$new$0" (Jvm.ClassFile.MethodDescriptor.mk ([] : List Jvm.ClassFile.FieldType) (Option.none : Option Jvm.ClassFile.FieldType)) false (Jvm.ClassFile.MethodDescriptor.mk ([] : List Jvm.ClassFile.FieldType) (Option.none : Option Jvm.ClassFile.FieldType))) 33

def heap : Heap := #[{ cls := 16, slots := #[.long 0, .int 0, .ref 6, .ref 7], vm := .statics 16 },
  { cls := 25, slots := #[.ref 3, .ref 4, .ref 5, .null], vm := .statics 25 },
  { cls := 33, slots := #[], vm := .none },
  { cls := 25, slots := #[.null, .int 0, .int 0], vm := .none },
  { cls := 25, slots := #[.null, .int 1, .int 0], vm := .none },
  { cls := 25, slots := #[.null, .int 2, .int 0], vm := .none },
  { cls := 32, slots := #[], vm := .none },
  { cls := 32, slots := #[], vm := .none }]
def classes : Array Class := #[k0, k1, k2, k3, k4, k5, k6, k7, k8, k9, k10, k11, k12, k13, k14, k15, k16, k17, k18, k19, k20, k21, k22, k23, k24, k25, k26, k27, k28, k29, k30, k31, k32, k33]
def interned : List (Array UInt16 × Addr) := []
def slotsUsed : Nat := 17
def theMethod : MethodId := ⟨1, 1⟩
def args0 : Array Value := #[.long 5, .int 1, .int 6, .int 3, .int 2]
def aboutOver (below : List Frame) : State where
  vm := { classes := classes, interned := interned.toArray }
  heap := heap
  slotsUsed := slotsUsed
  threads := #[{ frames := .invoking theMethod args0 :: below }]
def below0 : List Frame := [.native { method := ⟨0, 0⟩, args := #[] }]
def about1 : State := aboutOver below0
def p0 : Program := .bare "" "" ""
def e0 : Env := launch0.env 0 0 0
theorem w_frames : about1.frames = Frame.invoking theMethod args0 :: below0 := rfl
set_option maxRecDepth 65536 in
theorem w_args : argsFit about1.vm theMethod args0 = true := by decide +kernel
set_option maxRecDepth 65536 in
theorem w_heap : heapFits about1 = true := by decide +kernel
set_option maxRecDepth 65536 in
theorem w_runnable : about1.curStatus? = some .runnable := by decide +kernel
set_option maxRecDepth 65536 in
theorem w_alone : about1.alone = true := by decide +kernel
set_option maxRecDepth 65536 in
theorem w_named : about1.methodNamed? x = some theMethod := by decide +kernel
set_option maxRecDepth 65536 in
theorem w_hears : about1.hears theMethod below0 = true := by decide +kernel
set_option maxRecDepth 65536 in
theorem w_ripe : about1.ripe theMethod args0 below0 = true := by decide +kernel
theorem w_running : about1.status = .running := rfl
set_option maxRecDepth 65536 in
theorem w_room : about1.hasRoom e0.platform room_1 = true :=
  launch0.hasRoom_least _ room_1 (by decide +kernel) (by decide +kernel) (by decide +kernel) (by decide +kernel) (by decide +kernel) (by decide +kernel)
theorem allAtoms_all (ts : List Jvm.Cond) (a : Array Jvm.Value) (st : Jvm.State) : (allAtoms ts).before a st = ts.all (fun c => c.before a st) := by
  induction ts with
  | nil => rfl
  | cons c t ih =>
    show (Jvm.Cond.and c (allAtoms t)).before a st = _
    rw [Jvm.Cond.before_and, ih, List.all_cons]
def words1 : List Jvm.Cond := Jvm.Cond.code x code maxLocals ret :: tables_1
/-- a 'code' word, met by the world's own term for the bytes: nothing is compared byte by byte -/
theorem code_word {y : MethodName} {bytes : ByteArray} {mx : Nat} {rt : Option FieldType} {a : Array Value} {s : State} {m : MethodId} {meth : Method} {c : Code} (h1 : s.methodNamed? y = some m) (h2 : s.vm.method? m = some meth) (h3 : meth.code = some c) (h4 : c.code = bytes)
    (h5 : (c.maxLocals == mx && c.exceptionTable.isEmpty && decide (c.maxStack ≤ mostOperands) && decide (meth.sig.returnType = rt) && !meth.locks && decide (parseMethodDescriptor y.desc = some meth.sig)) = true) : (Jvm.Cond.code y bytes mx rt).before a s = true := by
  simp only [Bool.and_eq_true, beq_iff_eq, Bool.not_eq_true', decide_eq_true_eq] at h5
  obtain ⟨⟨⟨⟨⟨g1, g2⟩, g3⟩, g4⟩, g5⟩, g6⟩ := h5
  simp [Cond.before, Cond.holds, Cond.value, h1, h2, h3, h4, g1, g2, g3, g4, g5, g6]
def isCode : Jvm.Cond → Bool
  | .code _ _ _ _ => true
  | _ => false
theorem all_split {L : List Jvm.Cond} {P : Jvm.Cond → Bool} (h1 : L.all (fun c => isCode c || P c) = true) (h2 : ∀ c ∈ L.filter isCode, P c = true) : L.all P = true := by
  refine List.all_eq_true.mpr fun c hc => ?_
  have h := List.all_eq_true.mp h1 c hc
  rcases Bool.eq_false_or_eq_true (isCode c) with hi | hi
  · exact h2 c (List.mem_filter.mpr ⟨hc, hi⟩)
  · simpa [hi] using h
set_option maxRecDepth 65536 in
theorem w_c0 : (Jvm.Cond.code x code maxLocals ret).before args0 about1 = true := code_word (m := ⟨1, 1⟩) (meth := k1m1) (c := k1c1) (by decide +kernel) rfl rfl rfl (by decide +kernel)
set_option maxRecDepth 65536 in
theorem w_c1 : (Jvm.Cond.code ({ cls := "com/example/pulsekeep/pulsekeep/core/SubscriptionSettings", name := "<init>", desc := "(DJJJZI)V" } : Jvm.MethodName) prog_47_method_1_code (11 : Nat) (Option.none : Option Jvm.ClassFile.FieldType)).before args0 about1 = true := code_word (m := ⟨3, 0⟩) (meth := k3m0) (c := k3c0) (by decide +kernel) rfl rfl rfl (by decide +kernel)
set_option maxRecDepth 65536 in
theorem w_c2 : (Jvm.Cond.code ({ cls := "java/lang/Record", name := "<init>", desc := "()V" } : Jvm.MethodName) jdk_30_method_1_code (1 : Nat) (Option.none : Option Jvm.ClassFile.FieldType)).before args0 about1 = true := code_word (m := ⟨2, 0⟩) (meth := k2m0) (c := k2c0) (by decide +kernel) rfl rfl rfl (by decide +kernel)
set_option maxRecDepth 65536 in
theorem w_c3 : (Jvm.Cond.code ({ cls := "java/lang/Object", name := "<init>", desc := "()V" } : Jvm.MethodName) object_method_1_code (1 : Nat) (Option.none : Option Jvm.ClassFile.FieldType)).before args0 about1 = true := code_word (m := ⟨0, 0⟩) (meth := k0m0) (c := k0c0) (by decide +kernel) rfl rfl rfl (by decide +kernel)
set_option maxRecDepth 65536 in
theorem w_c4 : (Jvm.Cond.code ({ cls := "com/example/pulsekeep/pulsekeep/core/Subscriber", name := "<init>", desc := "()V" } : Jvm.MethodName) prog_40_method_1_code (1 : Nat) (Option.none : Option Jvm.ClassFile.FieldType)).before args0 about1 = true := code_word (m := ⟨6, 0⟩) (meth := k6m0) (c := k6c0) (by decide +kernel) rfl rfl rfl (by decide +kernel)
set_option maxRecDepth 65536 in
theorem w_c5 : (Jvm.Cond.code ({ cls := "java/util/ArrayList", name := "<init>", desc := "()V" } : Jvm.MethodName) jdk_38_method_2_code (1 : Nat) (Option.none : Option Jvm.ClassFile.FieldType)).before args0 about1 = true := code_word (m := ⟨16, 0⟩) (meth := k16m0) (c := k16c0) (by decide +kernel) rfl rfl rfl (by decide +kernel)
set_option maxRecDepth 65536 in
theorem w_c6 : (Jvm.Cond.code ({ cls := "java/util/AbstractList", name := "<init>", desc := "()V" } : Jvm.MethodName) jdk_39_method_1_code (1 : Nat) (Option.none : Option Jvm.ClassFile.FieldType)).before args0 about1 = true := code_word (m := ⟨12, 0⟩) (meth := k12m0) (c := k12c0) (by decide +kernel) rfl rfl rfl (by decide +kernel)
set_option maxRecDepth 65536 in
theorem w_c7 : (Jvm.Cond.code ({ cls := "java/util/AbstractCollection", name := "<init>", desc := "()V" } : Jvm.MethodName) jdk_22_method_1_code (1 : Nat) (Option.none : Option Jvm.ClassFile.FieldType)).before args0 about1 = true := code_word (m := ⟨9, 0⟩) (meth := k9m0) (c := k9c0) (by decide +kernel) rfl rfl rfl (by decide +kernel)
set_option maxRecDepth 65536 in
theorem w_c8 : (Jvm.Cond.code ({ cls := "java/util/ArrayDeque", name := "<init>", desc := "()V" } : Jvm.MethodName) jdk_21_method_3_code (1 : Nat) (Option.none : Option Jvm.ClassFile.FieldType)).before args0 about1 = true := code_word (m := ⟨19, 0⟩) (meth := k19m0) (c := k19c0) (by decide +kernel) rfl rfl rfl (by decide +kernel)
set_option maxRecDepth 65536 in
theorem w_c9 : (Jvm.Cond.code ({ cls := "com/example/pulsekeep/pulsekeep/core/Subscription", name := "<init>", desc := "(JLcom/example/pulsekeep/pulsekeep/core/Subscriber;Lcom/example/pulsekeep/pulsekeep/core/SubscriptionSettings;)V" } : Jvm.MethodName) prog_45_method_1_code (5 : Nat) (Option.none : Option Jvm.ClassFile.FieldType)).before args0 about1 = true := code_word (m := ⟨5, 0⟩) (meth := k5m0) (c := k5c0) (by decide +kernel) rfl rfl rfl (by decide +kernel)
set_option maxRecDepth 65536 in
theorem w_c10 : (Jvm.Cond.code ({ cls := "com/example/pulsekeep/pulsekeep/core/MonitoredItem$ValueBudget", name := "<init>", desc := "()V" } : Jvm.MethodName) prog_13_method_1_code (1 : Nat) (Option.none : Option Jvm.ClassFile.FieldType)).before args0 about1 = true := code_word (m := ⟨20, 0⟩) (meth := k20m0) (c := k20c0) (by decide +kernel) rfl rfl rfl (by decide +kernel)
set_option maxRecDepth 65536 in
theorem w_c11 : (Jvm.Cond.code ({ cls := "com/example/pulsekeep/pulsekeep/core/Subscription", name := "endCycle", desc := "(Z)Lcom/example/pulsekeep/pulsekeep/core/Subscription$CycleEnd;" } : Jvm.MethodName) prog_45_method_26_code (4 : Nat) (Option.some (Jvm.ClassFile.FieldType.object "com/example/pulsekeep/pulsekeep/core/Subscription$CycleEnd"))).before args0 about1 = true := code_word (m := ⟨5, 2⟩) (meth := k5m2) (c := k5c2) (by decide +kernel) rfl rfl rfl (by decide +kernel)
set_option maxRecDepth 65536 in
theorem w_c12 : (Jvm.Cond.code ({ cls := "com/example/pulsekeep/pulsekeep/core/Subscription", name := "hasNotifications", desc := "()Z" } : Jvm.MethodName) prog_45_method_34_code (3 : Nat) (Option.some Jvm.ClassFile.FieldType.boolean)).before args0 about1 = true := code_word (m := ⟨5, 4⟩) (meth := k5m4) (c := k5c4) (by decide +kernel) rfl rfl rfl (by decide +kernel)
set_option maxRecDepth 65536 in
theorem w_c13 : (Jvm.Cond.code ({ cls := "com/example/pulsekeep/pulsekeep/core/SubscriptionSettings", name := "publishingEnabled", desc := "()Z" } : Jvm.MethodName) prog_47_method_12_code (1 : Nat) (Option.some Jvm.ClassFile.FieldType.boolean)).before args0 about1 = true := code_word (m := ⟨3, 2⟩) (meth := k3m2) (c := k3c2) (by decide +kernel) rfl rfl rfl (by decide +kernel)
set_option maxRecDepth 65536 in
theorem w_c14 : (Jvm.Cond.code ({ cls := "com/example/pulsekeep/pulsekeep/core/SubscriptionSettings", name := "lifetimeCount", desc := "()J" } : Jvm.MethodName) prog_47_method_9_code (1 : Nat) (Option.some Jvm.ClassFile.FieldType.long)).before args0 about1 = true := code_word (m := ⟨3, 1⟩) (meth := k3m1) (c := k3c1) (by decide +kernel) rfl rfl rfl (by decide +kernel)
set_option maxRecDepth 65536 in
theorem w_c15 : (Jvm.Cond.code ({ cls := "com/example/pulsekeep/pulsekeep/core/Subscription", name := "startAgain", desc := "()V" } : Jvm.MethodName) prog_45_method_25_code (1 : Nat) (Option.none : Option Jvm.ClassFile.FieldType)).before args0 about1 = true := code_word (m := ⟨5, 1⟩) (meth := k5m1) (c := k5c1) (by decide +kernel) rfl rfl rfl (by decide +kernel)
set_option maxRecDepth 65536 in
theorem w_c16 : (Jvm.Cond.code ({ cls := "com/example/pulsekeep/pulsekeep/core/Subscription", name := "hasMessageDue", desc := "()Z" } : Jvm.MethodName) prog_45_method_30_code (1 : Nat) (Option.some Jvm.ClassFile.FieldType.boolean)).before args0 about1 = true := code_word (m := ⟨5, 3⟩) (meth := k5m3) (c := k5c3) (by decide +kernel) rfl rfl rfl (by decide +kernel)
set_option maxRecDepth 65536 in
theorem w_c17 : (Jvm.Cond.code ({ cls := "java/util/ArrayList", name := "iterator", desc := "()Ljava/util/Iterator;" } : Jvm.MethodName) jdk_38_method_55_code (1 : Nat) (Option.some (Jvm.ClassFile.FieldType.object "java/util/Iterator"))).before args0 about1 = true := code_word (m := ⟨16, 1⟩) (meth := k16m1) (c := k16c1) (by decide +kernel) rfl rfl rfl (by decide +kernel)
set_option maxRecDepth 65536 in
theorem w_c18 : (Jvm.Cond.code ({ cls := "java/util/ArrayList$Itr", name := "<init>", desc := "(Ljava/util/ArrayList;)V" } : Jvm.MethodName) jdk_49_method_1_code (2 : Nat) (Option.none : Option Jvm.ClassFile.FieldType)).before args0 about1 = true := code_word (m := ⟨27, 0⟩) (meth := k27m0) (c := k27c0) (by decide +kernel) rfl rfl rfl (by decide +kernel)
set_option maxRecDepth 65536 in
theorem w_c19 : (Jvm.Cond.code ({ cls := "java/util/ArrayList$Itr", name := "hasNext", desc := "()Z" } : Jvm.MethodName) jdk_49_method_2_code (1 : Nat) (Option.some Jvm.ClassFile.FieldType.boolean)).before args0 about1 = true := code_word (m := ⟨27, 1⟩) (meth := k27m1) (c := k27c1) (by decide +kernel) rfl rfl rfl (by decide +kernel)
def codes1 : List Jvm.Cond := [Jvm.Cond.code x code maxLocals ret, Jvm.Cond.code ({ cls := "com/example/pulsekeep/pulsekeep/core/SubscriptionSettings", name := "<init>", desc := "(DJJJZI)V" } : Jvm.MethodName) prog_47_method_1_code (11 : Nat) (Option.none : Option Jvm.ClassFile.FieldType), Jvm.Cond.code ({ cls := "java/lang/Record", name := "<init>", desc := "()V" } : Jvm.MethodName) jdk_30_method_1_code (1 : Nat) (Option.none : Option Jvm.ClassFile.FieldType), Jvm.Cond.code ({ cls := "java/lang/Object", name := "<init>", desc := "()V" } : Jvm.MethodName) object_method_1_code (1 : Nat) (Option.none : Option Jvm.ClassFile.FieldType), Jvm.Cond.code ({ cls := "com/example/pulsekeep/pulsekeep/core/Subscriber", name := "<init>", desc := "()V" } : Jvm.MethodName) prog_40_method_1_code (1 : Nat) (Option.none : Option Jvm.ClassFile.FieldType), Jvm.Cond.code ({ cls := "java/util/ArrayList", name := "<init>", desc := "()V" } : Jvm.MethodName) jdk_38_method_2_code (1 : Nat) (Option.none : Option Jvm.ClassFile.FieldType), Jvm.Cond.code ({ cls := "java/util/AbstractList", name := "<init>", desc := "()V" } : Jvm.MethodName) jdk_39_method_1_code (1 : Nat) (Option.none : Option Jvm.ClassFile.FieldType), Jvm.Cond.code ({ cls := "java/util/AbstractCollection", name := "<init>", desc := "()V" } : Jvm.MethodName) jdk_22_method_1_code (1 : Nat) (Option.none : Option Jvm.ClassFile.FieldType), Jvm.Cond.code ({ cls := "java/util/ArrayDeque", name := "<init>", desc := "()V" } : Jvm.MethodName) jdk_21_method_3_code (1 : Nat) (Option.none : Option Jvm.ClassFile.FieldType), Jvm.Cond.code ({ cls := "com/example/pulsekeep/pulsekeep/core/Subscription", name := "<init>", desc := "(JLcom/example/pulsekeep/pulsekeep/core/Subscriber;Lcom/example/pulsekeep/pulsekeep/core/SubscriptionSettings;)V" } : Jvm.MethodName) prog_45_method_1_code (5 : Nat) (Option.none : Option Jvm.ClassFile.FieldType), Jvm.Cond.code ({ cls := "com/example/pulsekeep/pulsekeep/core/MonitoredItem$ValueBudget", name := "<init>", desc := "()V" } : Jvm.MethodName) prog_13_method_1_code (1 : Nat) (Option.none : Option Jvm.ClassFile.FieldType), Jvm.Cond.code ({ cls := "com/example/pulsekeep/pulsekeep/core/Subscription", name := "endCycle", desc := "(Z)Lcom/example/pulsekeep/pulsekeep/core/Subscription$CycleEnd;" } : Jvm.MethodName) prog_45_method_26_code (4 : Nat) (Option.some (Jvm.ClassFile.FieldType.object "com/example/pulsekeep/pulsekeep/core/Subscription$CycleEnd")), Jvm.Cond.code ({ cls := "com/example/pulsekeep/pulsekeep/core/Subscription", name := "hasNotifications", desc := "()Z" } : Jvm.MethodName) prog_45_method_34_code (3 : Nat) (Option.some Jvm.ClassFile.FieldType.boolean), Jvm.Cond.code ({ cls := "com/example/pulsekeep/pulsekeep/core/SubscriptionSettings", name := "publishingEnabled", desc := "()Z" } : Jvm.MethodName) prog_47_method_12_code (1 : Nat) (Option.some Jvm.ClassFile.FieldType.boolean), Jvm.Cond.code ({ cls := "com/example/pulsekeep/pulsekeep/core/SubscriptionSettings", name := "lifetimeCount", desc := "()J" } : Jvm.MethodName) prog_47_method_9_code (1 : Nat) (Option.some Jvm.ClassFile.FieldType.long), Jvm.Cond.code ({ cls := "com/example/pulsekeep/pulsekeep/core/Subscription", name := "startAgain", desc := "()V" } : Jvm.MethodName) prog_45_method_25_code (1 : Nat) (Option.none : Option Jvm.ClassFile.FieldType), Jvm.Cond.code ({ cls := "com/example/pulsekeep/pulsekeep/core/Subscription", name := "hasMessageDue", desc := "()Z" } : Jvm.MethodName) prog_45_method_30_code (1 : Nat) (Option.some Jvm.ClassFile.FieldType.boolean), Jvm.Cond.code ({ cls := "java/util/ArrayList", name := "iterator", desc := "()Ljava/util/Iterator;" } : Jvm.MethodName) jdk_38_method_55_code (1 : Nat) (Option.some (Jvm.ClassFile.FieldType.object "java/util/Iterator")), Jvm.Cond.code ({ cls := "java/util/ArrayList$Itr", name := "<init>", desc := "(Ljava/util/ArrayList;)V" } : Jvm.MethodName) jdk_49_method_1_code (2 : Nat) (Option.none : Option Jvm.ClassFile.FieldType), Jvm.Cond.code ({ cls := "java/util/ArrayList$Itr", name := "hasNext", desc := "()Z" } : Jvm.MethodName) jdk_49_method_2_code (1 : Nat) (Option.some Jvm.ClassFile.FieldType.boolean)]
set_option maxRecDepth 65536 in
theorem codes_eq : words1.filter isCode = codes1 := rfl
theorem w_codes : ∀ c ∈ words1.filter isCode, c.before args0 about1 = true := by
  rw [codes_eq]
  intro c hc
  simp only [codes1, List.mem_cons, List.not_mem_nil, or_false] at hc
  rcases hc with rfl | rfl | rfl | rfl | rfl | rfl | rfl | rfl | rfl | rfl | rfl | rfl | rfl | rfl | rfl | rfl | rfl | rfl | rfl | rfl
  · exact w_c0
  · exact w_c1
  · exact w_c2
  · exact w_c3
  · exact w_c4
  · exact w_c5
  · exact w_c6
  · exact w_c7
  · exact w_c8
  · exact w_c9
  · exact w_c10
  · exact w_c11
  · exact w_c12
  · exact w_c13
  · exact w_c14
  · exact w_c15
  · exact w_c16
  · exact w_c17
  · exact w_c18
  · exact w_c19
set_option maxRecDepth 65536 in
theorem w_t1 : (words1.take 24).all (fun c => isCode c || c.before args0 about1) = true := by decide +kernel
set_option maxRecDepth 65536 in
theorem w_t2 : ((words1.drop 24).take 24).all (fun c => isCode c || c.before args0 about1) = true := by decide +kernel
set_option maxRecDepth 65536 in
theorem w_t3 : (((words1.drop 24).drop 24).take 24).all (fun c => isCode c || c.before args0 about1) = true := by decide +kernel
set_option maxRecDepth 65536 in
theorem w_t4 : ((((words1.drop 24).drop 24).drop 24).take 24).all (fun c => isCode c || c.before args0 about1) = true := by decide +kernel
set_option maxRecDepth 65536 in
theorem w_t5 : (((((words1.drop 24).drop 24).drop 24).drop 24).take 24).all (fun c => isCode c || c.before args0 about1) = true := by decide +kernel
set_option maxRecDepth 65536 in
theorem w_t6 : ((((((words1.drop 24).drop 24).drop 24).drop 24).drop 24).take 24).all (fun c => isCode c || c.before args0 about1) = true := by decide +kernel
set_option maxRecDepth 65536 in
theorem w_t7 : (((((((words1.drop 24).drop 24).drop 24).drop 24).drop 24).drop 24).take 24).all (fun c => isCode c || c.before args0 about1) = true := by decide +kernel
set_option maxRecDepth 65536 in
theorem w_t8 : ((((((((words1.drop 24).drop 24).drop 24).drop 24).drop 24).drop 24).drop 24).take 24).all (fun c => isCode c || c.before args0 about1) = true := by decide +kernel
set_option maxRecDepth 65536 in
theorem w_t9 : ((((((((words1.drop 24).drop 24).drop 24).drop 24).drop 24).drop 24).drop 24).drop 24).all (fun c => isCode c || c.before args0 about1) = true := by decide +kernel
theorem w_tables : (allAtoms (Jvm.Cond.code x code maxLocals ret :: tables_1)).before args0 about1 = true := by
  rw [allAtoms_all]
  show words1.all (fun c => c.before args0 about1) = true
  refine all_split ?_ w_codes
  rw [← List.take_append_drop 24 words1, List.all_append, w_t1, ← List.take_append_drop 24 (words1.drop 24), List.all_append, w_t2, ← List.take_append_drop 24 ((words1.drop 24).drop 24), List.all_append, w_t3, ← List.take_append_drop 24 (((words1.drop 24).drop 24).drop 24), List.all_append, w_t4, ← List.take_append_drop 24 ((((words1.drop 24).drop 24).drop 24).drop 24), List.all_append, w_t5, ← List.take_append_drop 24 (((((words1.drop 24).drop 24).drop 24).drop 24).drop 24), List.all_append, w_t6, ← List.take_append_drop 24 ((((((words1.drop 24).drop 24).drop 24).drop 24).drop 24).drop 24), List.all_append, w_t7, ← List.take_append_drop 24 (((((((words1.drop 24).drop 24).drop 24).drop 24).drop 24).drop 24).drop 24), List.all_append, w_t8, w_t9]
  rfl
set_option maxRecDepth 65536 in
theorem w_rest : rest_1_c.before args0 about1 = true := by decide +kernel
set_option maxRecDepth 65536 in
theorem w_case : (Jvm.Cond.and given_1 narrow_1).before args0 about1 = true := by decide +kernel
theorem w_applies : (headSpec (Jvm.Cond.code x code maxLocals ret :: tables_1) room_1).applies x e0.platform about1 = true :=
  (Spec.applies_iff w_frames).mpr ⟨w_running, w_runnable, w_alone, w_named, w_hears, w_ripe, w_room, w_tables⟩
theorem atStart : AtStart classFile x code maxLocals ret World_1 tables_1 room_1 Calls_1 rest_1 Pre_1 launch0 p0 e0 about1 theMethod args0 below0 :=
  ⟨lists_1, trivial, launch0.admits_env _ _ _, launch0.least_env, fairChoices_fair.cas, fairChoices_fair.clock, w_frames, w_args, w_heap, w_applies, trivial, w_rest, w_case⟩
end start1
theorem witness_1 : WitnessClaimed_1 := ⟨start1.p0, start1.e0, start1.about1, start1.theMethod, start1.args0, start1.below0, start1.atStart⟩
end Jvm.Pilot.@@N@@
