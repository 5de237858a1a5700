import JvmDerived
import JvmDerived.Pilot.@@N@@Statement
import JvmDerived.Pilot.@@N@@Code
set_option linter.unusedVariables false
set_option linter.unusedSimpArgs false
namespace Jvm.Pilot.@@N@@
open Jvm Jvm.ClassFile Sem Op Lib Jvm.Free Jvm.Stand Jvm.LawKit Jvm.RoadKit Bundle Jvm.Pilot.@@N@@.Jvm.D
/-! 0. the run from a state on, said once: it ends, and how -/
def Go (p : Program) (e : Env) (below : List Frame) (s : State) (K N : Nat) (Q : Option Value → Heap → List Loc → Prop) (st : State) : Prop :=
  ∃ s₂ o, Steps p.tables e below st s₂ ∧ s₂.status = .running ∧ Ended s₂ below o ∧ ∃ v L, o = .returned v ∧ Q v s₂.heap L ∧ FrameEnd s o s₂ L K N
/-- what is known of the walk all along -/
def Ctx (p : Program) (s : State) (m : MethodId) (meth : Method) (c : Code) (Z : State) (bytes : ByteArray) (maxl : Nat) (own : String) (ret : Option FieldType) : Prop :=
  p.tables.exec = Jvm.exec ∧ Z.Warmed39 s.vm ∧ c.code = bytes ∧ c.maxLocals = maxl ∧ s.vm.findClass own = some m.cls ∧ meth.sig.returnType = ret ∧ meth.locks = false
/-- a value comes back, the heap is as it was -/
def QV (w : Value) (h0 : Heap) (n0 : Nat) (v : Option Value) (h : Heap) (L : List Loc) : Prop := v = some w ∧ Fr n0 L ∧ h = h0
section Own
variable {p : Program} {l : Launch} {e : Env} {R : Room} {s : State} {m : MethodId} {args : Array Value} {below : List Frame} {meth : Method} {c : Code} {T : State} {locs : List Loc} {cells slots K N : Nat} {Q : Option Value → Heap → List Loc → Prop} {st st' : State}
theorem Go.pre (h : ∀ t, Steps p.tables e below st' t → Steps p.tables e below st t) (k : Go p e below s K N Q st') : Go p e below s K N Q st := by
  obtain ⟨s₂, o, h1, h2⟩ := k; exact ⟨s₂, o, h _ h1, h2⟩
theorem Go.trans (h : Steps p.tables e below st st') (k : Go p e below s K N Q st') : Go p e below s K N Q st := by
  obtain ⟨s₂, o, h1, h2⟩ := k; exact ⟨s₂, o, h.trans h1, h2⟩
theorem Go.mono {Q' : Option Value → Heap → List Loc → Prop} (k : Go p e below s K N Q st) (h : ∀ v h L, Q v h L → Q' v h L) : Go p e below s K N Q' st := by
  obtain ⟨s₂, o, h1, h2, h3, v, L, h4, h5, h6⟩ := k; exact ⟨s₂, o, h1, h2, h3, v, L, h4, h _ _ _ h5, h6⟩
theorem Go.retN (X : Stand p l e R s m args below meth c T locs cells slots) (hx : p.tables.exec = Jvm.exec) (hlk : meth.locks = false) {pc : Nat} {Ls : Array Slot} {z z' : Int32} {t : FieldType} {rest : List Value} (hret : meth.sig.returnType = some t) (ht : t = .boolean ∨ t = .byte ∨ t = .char ∨ t = .short)
    (hd : decode c.code pc = .ok (.ireturn, 1)) (hz : nar t z = z') (hk : cells ≤ K) (hn : slots ≤ N) (hQ : Q (some (.int z')) T.heap locs) : Go p e below s K N Q (T.setTop (mkF m pc Ls (.int z :: rest))) := by
  subst hz
  obtain ⟨fs, hr, hrun, hended, hW, hsame⟩ := X.leave (v := some (.int (nar t z))) (fun h => by rw [hret] at h; cases h) hlk
  exact ⟨_, _, Jvm.RoadKit.retN X hx hret ht hd hr, hrun, hended, _, _, rfl, hQ, ⟨_, rfl⟩, hW, hsame.mono hk hn⟩
theorem Go.retV (X : Stand p l e R s m args below meth c T locs cells slots) (hx : p.tables.exec = Jvm.exec) (hlk : meth.locks = false) {pc : Nat} {Ls : Array Slot} {w : Value} {t : FieldType} {i : Instr} {rest : List Value} (hret : meth.sig.returnType = some t) (hnr : narrow t w = w)
    (hi : (i = .ireturn ∧ (t = .int ∨ t = .boolean ∨ t = .byte ∨ t = .char ∨ t = .short) ∧ ∃ z, w = .int z) ∨ (i = .lreturn ∧ t = .long ∧ ∃ z, w = .long z) ∨ (i = .dreturn ∧ t = .double ∧ ∃ z, w = .double z) ∨ (i = .freturn ∧ t = .float ∧ ∃ z, w = .float z) ∨ (i = .areturn ∧ t.isReference = true ∧ w.isRef = true))
    (hd : decode c.code pc = .ok (i, 1)) (hk : cells ≤ K) (hn : slots ≤ N) (hQ : Q (some w) T.heap locs) : Go p e below s K N Q (T.setTop (mkF m pc Ls (w :: rest))) := by
  obtain ⟨fs, hr, hrun, hended, hW, hsame⟩ := X.leave (v := some w) (fun h => by rw [hret] at h; cases h) hlk
  exact ⟨_, _, retOut X hx hret hnr hi hd hr, hrun, hended, _, _, rfl, hQ, ⟨_, rfl⟩, hW, hsame.mono hk hn⟩
theorem Go.ret0 (X : Stand p l e R s m args below meth c T locs cells slots) (hx : p.tables.exec = Jvm.exec) (hlk : meth.locks = false) {pc : Nat} {Ls : Array Slot} (hret : meth.sig.returnType = none)
    (hd : decode c.code pc = .ok (.return_, 1)) (hk : cells ≤ K) (hn : slots ≤ N) (hQ : Q none T.heap locs) : Go p e below s K N Q (T.setTop (mkF m pc Ls [])) := by
  obtain ⟨fs, hr, hrun, hended, hW, hsame⟩ := X.leave (v := none) (fun _ => rfl) hlk
  exact ⟨_, _, X.returnOut hx hret hd hr, hrun, hended, _, _, rfl, hQ, ⟨_, rfl⟩, hW, hsame.mono hk hn⟩
end Own

/-! more of the kit's kind -/
/-- every field keeps what it held, but for the places in ps -/
def KF (Z : State) (h0 h : Heap) (ps : List (Addr × Nat)) : Prop := ∀ (b : Addr) (O n d : String) (w : Value), Fld Z h0 b O n d w → (∀ p ∈ ps, b ≠ p.1 ∨ Jvm.RoadKit.slotOf Z O n d ≠ p.2) → Fld Z h b O n d w
theorem KF.refl (Z : State) (h0 : Heap) (ps : List (Addr × Nat)) : KF Z h0 h0 ps := fun _ _ _ _ _ F _ => F
theorem KF.ext {Z : State} {h0 h h' : Heap} {ps : List (Addr × Nat)} (K : KF Z h0 h ps) (E : Ext h h') : KF Z h0 h' ps := fun b O n d w F q => (K b O n d w F q).ext E
theorem KF.wr {Z : State} {h0 h h' : Heap} {ps : List (Addr × Nat)} {a : Addr} {sl : Nat} {v : Value} (K : KF Z h0 h ps) (W : Wr h h' a sl v) (q : (a, sl) ∈ ps ∨ h0.size ≤ a) : KF Z h0 h' ps := fun b O n d w F r => by
  refine (K b O n d w F r).other W ?_
  rcases q with q | q
  · exact r _ q
  · exact Or.inl (Nat.ne_of_lt (Nat.lt_of_lt_of_le F.lt q))
theorem KF.trans {Z : State} {h0 h h' : Heap} {ps ps' : List (Addr × Nat)} (K : KF Z h0 h ps) (K' : KF Z h h' ps') (q : ∀ p ∈ ps', p ∈ ps ∨ h0.size ≤ p.1) : KF Z h0 h' ps := fun b O n d w F r => by
  refine K' b O n d w (K b O n d w F r) fun p hp => ?_
  rcases q p hp with q | q
  · exact r _ q
  · exact Or.inl (Nat.ne_of_lt (Nat.lt_of_lt_of_le F.lt q))
theorem pall0 {P : Addr × Nat → Prop} : ∀ x ∈ ([] : List (Addr × Nat)), P x := fun _ q => nomatch q
theorem pallS {P : Addr × Nat → Prop} {y : Addr × Nat} {L : List (Addr × Nat)} (q : P y) (r : ∀ x ∈ L, P x) : ∀ x ∈ y :: L, P x := fun x z => (List.mem_cons.mp z).elim (fun u => u ▸ q) (r x)
theorem padS {p : Program} {l : Launch} {e : Env} {R : Room} {s : State} {m : MethodId} {args : Array Value} {below : List Frame} {meth : Method} {c : Code} {T : State} {locs : List Loc} {k n k' n' : Nat} (X : Stand p l e R s m args below meth c T locs k n) (h1 : k ≤ k') (h2 : n ≤ n') : Stand p l e R s m args below meth c T locs k' n' :=
  ⟨X.admits, X.cas, X.clock, X.frames, X.room, X.hears, X.method, X.code, X.here, X.tail, X.warmed, X.limits, X.bytes, X.same.mono h1 h2⟩
theorem and11 (x : Int32) : nar .boolean (x &&& 1) = x &&& 1 := by
  show x &&& 1 &&& 1 = x &&& 1
  rw [Int32.and_assoc]; rfl
theorem fits_and1 (x : Int32) : fits .boolean (.int (x &&& 1)) = true := fits_nar_bool x
theorem narV {C : String} {v : Value} (h : v.isRef = true) : narrow (.object C) v = v := by rcases ref_cases h with rfl | ⟨a, rfl⟩ <;> rfl
theorem fitV {C : String} {v : Value} (h : v.isRef = true) : fits (.object C) v = true := by rcases ref_cases h with rfl | ⟨a, rfl⟩ <;> rfl

theorem own_a {i : Int32} (h : (0 : Int32) < i) : ¬ i < (1 : Int32) := by
  rw [Int32.lt_iff_toInt_lt] at *; have : (0 : Int32).toInt = 0 := by decide
  have : (1 : Int32).toInt = 1 := by decide
  omega
theorem own_b {i : Int32} (h : ¬ (0 : Int32) < i) : i < (1 : Int32) := by
  rw [Int32.lt_iff_toInt_lt] at *; have : (0 : Int32).toInt = 0 := by decide
  have : (1 : Int32).toInt = 1 := by decide
  omega
theorem own_c {i : Int32} (h : i < (26 : Int32)) : ¬ (25 : Int32) < i := by
  rw [Int32.lt_iff_toInt_lt] at *; have : (26 : Int32).toInt = 26 := by decide
  have : (25 : Int32).toInt = 25 := by decide
  omega
theorem own_d {i : Int32} (h : ¬ i < (26 : Int32)) : (25 : Int32) < i := by
  rw [Int32.lt_iff_toInt_lt] at *; have : (26 : Int32).toInt = 26 := by decide
  have : (25 : Int32).toInt = 25 := by decide
  omega
theorem own_e {i : Int32} (h : (0 : Int32) < i) : ¬ i < 0 := by
  rw [Int32.lt_iff_toInt_lt] at *; omega
/-! UaTypes$BuiltInType.forId (1a) -/
theorem d1_0 : decode prog_113_method_7_code 0 = .ok (.iload_n 0, 1) := by decide +kernel
theorem d1_1 : decode prog_113_method_7_code 1 = .ok (.ifCond .le 19, 3) := by decide +kernel
theorem d1_20 : decode prog_113_method_7_code 20 = .ok (.aconst_null, 1) := by decide +kernel
theorem d1_21 : decode prog_113_method_7_code 21 = .ok (.areturn, 1) := by decide +kernel
theorem pn_1 : plainName "com/example/pulsekeep/pulsekeep/opcua/UaTypes$BuiltInType" = true := by first | (simp [plainName, overriddenIn]; done) | decide +kernel
theorem ef_1a (m : MethodId) (p0 : Int32) : entryFrame m #[(.int p0)] 1 = (mkF m 0 #[.val (.int p0)] []) := by first | (simp [entryFrame, mkF, argsToLocals, Value.category]; done) | rfl
def Q1a (Z : State) (p0 : Int32) (zB : Addr) (cl : Cell) (h0 : Heap) (n0 : Nat) (v : Option Value) (h : Heap) (L : List Loc) : Prop := v = some .null ∧ Fr n0 L ∧ h = h0
set_option maxRecDepth 65536 in
set_option maxHeartbeats 40000000 in
theorem rm1a (l : Launch) (Z : State) (a0 : Array Value) (hw : ∀ d ∈ tables_1, d.before a0 Z = true) (ws : List Jvm.Cond) (p0 : Int32) (zB : Addr) (cl : Cell) (h0 : Heap) (n0 : Nat) (Z0 : n0 ≤ h0.size) (S_BY_ID : Sta Z Z.heap "com/example/pulsekeep/pulsekeep/opcua/UaTypes$BuiltInType" "BY_ID" "[Lcom/example/pulsekeep/pulsekeep/opcua/UaTypes$BuiltInType;" (.ref zB)) (Ar : Arr Z h0 zB cl (.object "com/example/pulsekeep/pulsekeep/opcua/UaTypes$BuiltInType")) (Sz : cl.slots.size = 26) (Ol : Old Z n0 h0) (hc1 : ¬ ((0 : Int32) < p0)) :
    MetFree l (⟨"com/example/pulsekeep/pulsekeep/opcua/UaTypes$BuiltInType", "forId", "(I)Lcom/example/pulsekeep/pulsekeep/opcua/UaTypes$BuiltInType;"⟩ : MethodName) (head1 (Jvm.Cond.code (⟨"com/example/pulsekeep/pulsekeep/opcua/UaTypes$BuiltInType", "forId", "(I)Lcom/example/pulsekeep/pulsekeep/opcua/UaTypes$BuiltInType;"⟩ : MethodName) prog_113_method_7_code 1 (some (.object "com/example/pulsekeep/pulsekeep/opcua/UaTypes$BuiltInType")) :: ws) ({ frames := 0, cells := 0, slots := 0, locals := 0 } : Room)) (fun a U => a = #[(.int p0)] ∧ Z.Warmed39 U.vm ∧ U.heap = h0) (fun _ _ _ _ _ => True) (fun _ U o U' => ∃ v L, o = .returned v ∧ Q1a Z p0 zB cl h0 n0 v U'.heap L ∧ FrameEnd U o U' L ({ frames := 0, cells := 0, slots := 0, locals := 0 } : Room).cells ({ frames := 0, cells := 0, slots := 0, locals := 0 } : Room).slots) := by
  refine MetFree.of_bodySF (plainFor_of_name pn_1) hisR ?_
  intro p e s m args below meth c s₁ Bd hml0 hP hK
  obtain ⟨rfl, hZ, hh⟩ := hP
  have hx := Bd.exec
  have hby := Bd.bytes
  have hml : c.maxLocals = 1 := hml0
  have hown : s.vm.findClass "com/example/pulsekeep/pulsekeep/opcua/UaTypes$BuiltInType" = some m.cls := findClass_of_methodNamed Bd.named
  have hnm := (name_of_methodNamed Bd.named Bd.method).1
  have hrt := Bd.returns
  have hlk := Bd.notSynchronized
  have X0 : Stand p l e ({ frames := 0, cells := 0, slots := 0, locals := 0 } : Room) s m #[(.int p0)] below meth c s₁ [] 0 0 := Stand.of_body Bd
  have e0 : s₁.heap = h0 := by rw [← hh, Bd.state]; rfl
  have N0 := Fr.nil n0
  show Go p e below s 0 0 (Q1a Z p0 zB cl h0 n0) (s₁.setTop (entryFrame m #[(.int p0)] 1))
  rw [ef_1a m p0]
  refine Go.pre (st' := s₁.setTop (mkF m 21 #[.val (.int p0)] [.null])) (fun target kt => ?_) ?_
  · show Steps p.tables e below (s₁.setTop (mkF m 0 #[.val (.int p0)] [])) _
    refine XS.iloadN X0.here hx rfl (hb hby d1_0) rfl ?_
    show Steps p.tables e below (s₁.setTop (mkF m 1 #[.val (.int p0)] [(.int p0)])) _
    refine XS.ifYes X0.here hx rfl (pc0 := 1) (pc' := 20) rfl (hb hby d1_1) rfl ((if0 _ _).trans (flt hc1).2.2.2) (by decide) (by decide) ?_
    show Steps p.tables e below (s₁.setTop (mkF m 20 #[.val (.int p0)] [])) _
    refine XS.aconstNull X0.here hx rfl (hb hby d1_20) ?_
    exact kt
  exact Go.retV X0 hx hlk hrt rfl (Or.inr (Or.inr (Or.inr (Or.inr ⟨rfl, rfl, rfl⟩)))) (hb hby d1_21) (by decide) (by decide) (by rw [e0]; exact ⟨rfl, N0, rfl⟩)
/-! UaTypes$BuiltInType.forId (1b) -/
theorem d1_4 : decode prog_113_method_7_code 4 = .ok (.iload_n 0, 1) := by decide +kernel
theorem d1_5 : decode prog_113_method_7_code 5 = .ok (.getstatic 109, 3) := by decide +kernel
theorem d1_8 : decode prog_113_method_7_code 8 = .ok (.arraylength, 1) := by decide +kernel
theorem d1_9 : decode prog_113_method_7_code 9 = .ok (.if_icmp .ge 11, 3) := by decide +kernel
theorem ef_1b (m : MethodId) (p0 : Int32) : entryFrame m #[(.int p0)] 1 = (mkF m 0 #[.val (.int p0)] []) := by first | (simp [entryFrame, mkF, argsToLocals, Value.category]; done) | rfl
def Q1b (Z : State) (p0 : Int32) (zB : Addr) (cl : Cell) (h0 : Heap) (n0 : Nat) (v : Option Value) (h : Heap) (L : List Loc) : Prop := v = some .null ∧ Fr n0 L ∧ h = h0
set_option maxRecDepth 65536 in
set_option maxHeartbeats 40000000 in
theorem rm1b (l : Launch) (Z : State) (a0 : Array Value) (hw : ∀ d ∈ tables_1, d.before a0 Z = true) (ws : List Jvm.Cond) (p0 : Int32) (zB : Addr) (cl : Cell) (h0 : Heap) (n0 : Nat) (Z0 : n0 ≤ h0.size) (S_BY_ID : Sta Z Z.heap "com/example/pulsekeep/pulsekeep/opcua/UaTypes$BuiltInType" "BY_ID" "[Lcom/example/pulsekeep/pulsekeep/opcua/UaTypes$BuiltInType;" (.ref zB)) (Ar : Arr Z h0 zB cl (.object "com/example/pulsekeep/pulsekeep/opcua/UaTypes$BuiltInType")) (Sz : cl.slots.size = 26) (Ol : Old Z n0 h0) (hc1 : (0 : Int32) < p0) (hc9 : ¬ (p0 < (26 : Int32))) :
    MetFree l (⟨"com/example/pulsekeep/pulsekeep/opcua/UaTypes$BuiltInType", "forId", "(I)Lcom/example/pulsekeep/pulsekeep/opcua/UaTypes$BuiltInType;"⟩ : MethodName) (head1 (Jvm.Cond.code (⟨"com/example/pulsekeep/pulsekeep/opcua/UaTypes$BuiltInType", "forId", "(I)Lcom/example/pulsekeep/pulsekeep/opcua/UaTypes$BuiltInType;"⟩ : MethodName) prog_113_method_7_code 1 (some (.object "com/example/pulsekeep/pulsekeep/opcua/UaTypes$BuiltInType")) :: ws) ({ frames := 0, cells := 0, slots := 0, locals := 0 } : Room)) (fun a U => a = #[(.int p0)] ∧ Z.Warmed39 U.vm ∧ U.heap = h0) (fun _ _ _ _ _ => True) (fun _ U o U' => ∃ v L, o = .returned v ∧ Q1b Z p0 zB cl h0 n0 v U'.heap L ∧ FrameEnd U o U' L ({ frames := 0, cells := 0, slots := 0, locals := 0 } : Room).cells ({ frames := 0, cells := 0, slots := 0, locals := 0 } : Room).slots) := by
  refine MetFree.of_bodySF (plainFor_of_name pn_1) hisR ?_
  intro p e s m args below meth c s₁ Bd hml0 hP hK
  obtain ⟨rfl, hZ, hh⟩ := hP
  have hx := Bd.exec
  have hby := Bd.bytes
  have hml : c.maxLocals = 1 := hml0
  have hown : s.vm.findClass "com/example/pulsekeep/pulsekeep/opcua/UaTypes$BuiltInType" = some m.cls := findClass_of_methodNamed Bd.named
  have hnm := (name_of_methodNamed Bd.named Bd.method).1
  have hrt := Bd.returns
  have hlk := Bd.notSynchronized
  have X0 : Stand p l e ({ frames := 0, cells := 0, slots := 0, locals := 0 } : Room) s m #[(.int p0)] below meth c s₁ [] 0 0 := Stand.of_body Bd
  have e0 : s₁.heap = h0 := by rw [← hh, Bd.state]; rfl
  have N0 := Fr.nil n0
  show Go p e below s 0 0 (Q1b Z p0 zB cl h0 n0) (s₁.setTop (entryFrame m #[(.int p0)] 1))
  rw [ef_1b m p0]
  refine Go.pre (st' := s₁.setTop (mkF m 5 #[.val (.int p0)] [(.int p0)])) (fun target kt => ?_) ?_
  · show Steps p.tables e below (s₁.setTop (mkF m 0 #[.val (.int p0)] [])) _
    refine XS.iloadN X0.here hx rfl (hb hby d1_0) rfl ?_
    show Steps p.tables e below (s₁.setTop (mkF m 1 #[.val (.int p0)] [(.int p0)])) _
    refine XS.ifNo X0.here hx rfl (hb hby d1_1) rfl ((if0 _ _).trans (tlt hc1).2.2.2) ?_
    show Steps p.tables e below (s₁.setTop (mkF m 4 #[.val (.int p0)] [])) _
    refine XS.iloadN X0.here hx rfl (hb hby d1_4) rfl ?_
    exact kt
  obtain ⟨T1, X1, e1, st1⟩ := getS2 X0 hx hZ hown (host := "") (Or.inl (hw _ (List.mem_of_getElem? (i := 4) rfl))) Via.refl e0 (S_BY_ID.ext Ol.2) (g := (mkF m 5 #[.val (.int p0)] [(.int p0)])) rfl (hb hby d1_5)
  refine Go.pre st1 ?_
  show Go p e below s _ _ _ (T1.setTop (mkF m 8 #[.val (.int p0)] [(.ref zB), (.int p0)]))
  have st2 := X1.arraylength hx (by rw [e1]; exact Ar.1) (State.isArrayOf_alike hZ.alike Ar.2.1) (g := (mkF m 8 #[.val (.int p0)] [(.ref zB), (.int p0)])) rfl rfl (hb hby d1_8)
  rw [show cl.slots.size.toInt32 = (26 : Int32) from by rw [Sz]; rfl] at st2
  refine Go.pre st2 ?_
  show Go p e below s _ _ _ (T1.setTop (mkF m 9 #[.val (.int p0)] [(.int (26 : Int32)), (.int p0)]))
  refine Go.pre (st' := T1.setTop (mkF m 21 #[.val (.int p0)] [.null])) (fun target kt => ?_) ?_
  · show Steps p.tables e below (T1.setTop (mkF m 9 #[.val (.int p0)] [(.int (26 : Int32)), (.int p0)])) _
    refine XS.icmpYes X1.here hx rfl (pc0 := 9) (pc' := 20) rfl (hb hby d1_9) rfl (flt hc9).2.1 (by decide) (by decide) ?_
    show Steps p.tables e below (T1.setTop (mkF m 20 #[.val (.int p0)] [])) _
    refine XS.aconstNull X1.here hx rfl (hb hby d1_20) ?_
    exact kt
  exact Go.retV X1 hx hlk hrt rfl (Or.inr (Or.inr (Or.inr (Or.inr ⟨rfl, rfl, rfl⟩)))) (hb hby d1_21) (by decide) (by decide) (by rw [e1]; exact ⟨rfl, N0, rfl⟩)
/-! UaTypes$BuiltInType.forId (1c) -/
theorem d1_12 : decode prog_113_method_7_code 12 = .ok (.getstatic 109, 3) := by decide +kernel
theorem d1_15 : decode prog_113_method_7_code 15 = .ok (.iload_n 0, 1) := by decide +kernel
theorem d1_16 : decode prog_113_method_7_code 16 = .ok (.aaload, 1) := by decide +kernel
theorem d1_17 : decode prog_113_method_7_code 17 = .ok (.goto 4, 3) := by decide +kernel
theorem ef_1c (m : MethodId) (p0 : Int32) : entryFrame m #[(.int p0)] 1 = (mkF m 0 #[.val (.int p0)] []) := by first | (simp [entryFrame, mkF, argsToLocals, Value.category]; done) | rfl
def Q1c (Z : State) (p0 : Int32) (zB : Addr) (cl : Cell) (t : Addr) (h0 : Heap) (n0 : Nat) (v : Option Value) (h : Heap) (L : List Loc) : Prop := v = some (.ref t) ∧ Fr n0 L ∧ h = h0
set_option maxRecDepth 65536 in
set_option maxHeartbeats 40000000 in
theorem rm1c (l : Launch) (Z : State) (a0 : Array Value) (hw : ∀ d ∈ tables_1, d.before a0 Z = true) (ws : List Jvm.Cond) (p0 : Int32) (zB : Addr) (cl : Cell) (t : Addr) (h0 : Heap) (n0 : Nat) (Z0 : n0 ≤ h0.size) (S_BY_ID : Sta Z Z.heap "com/example/pulsekeep/pulsekeep/opcua/UaTypes$BuiltInType" "BY_ID" "[Lcom/example/pulsekeep/pulsekeep/opcua/UaTypes$BuiltInType;" (.ref zB)) (Ar : Arr Z h0 zB cl (.object "com/example/pulsekeep/pulsekeep/opcua/UaTypes$BuiltInType")) (Sz : cl.slots.size = 26) (At : cl.slots[(p0).toNatClampNeg]? = some (.ref t)) (Ol : Old Z n0 h0) (hc1 : (0 : Int32) < p0) (hc9 : p0 < (26 : Int32)) :
    MetFree l (⟨"com/example/pulsekeep/pulsekeep/opcua/UaTypes$BuiltInType", "forId", "(I)Lcom/example/pulsekeep/pulsekeep/opcua/UaTypes$BuiltInType;"⟩ : MethodName) (head1 (Jvm.Cond.code (⟨"com/example/pulsekeep/pulsekeep/opcua/UaTypes$BuiltInType", "forId", "(I)Lcom/example/pulsekeep/pulsekeep/opcua/UaTypes$BuiltInType;"⟩ : MethodName) prog_113_method_7_code 1 (some (.object "com/example/pulsekeep/pulsekeep/opcua/UaTypes$BuiltInType")) :: ws) ({ frames := 0, cells := 0, slots := 0, locals := 0 } : Room)) (fun a U => a = #[(.int p0)] ∧ Z.Warmed39 U.vm ∧ U.heap = h0) (fun _ _ _ _ _ => True) (fun _ U o U' => ∃ v L, o = .returned v ∧ Q1c Z p0 zB cl t h0 n0 v U'.heap L ∧ FrameEnd U o U' L ({ frames := 0, cells := 0, slots := 0, locals := 0 } : Room).cells ({ frames := 0, cells := 0, slots := 0, locals := 0 } : Room).slots) := by
  refine MetFree.of_bodySF (plainFor_of_name pn_1) hisR ?_
  intro p e s m args below meth c s₁ Bd hml0 hP hK
  obtain ⟨rfl, hZ, hh⟩ := hP
  have hx := Bd.exec
  have hby := Bd.bytes
  have hml : c.maxLocals = 1 := hml0
  have hown : s.vm.findClass "com/example/pulsekeep/pulsekeep/opcua/UaTypes$BuiltInType" = some m.cls := findClass_of_methodNamed Bd.named
  have hnm := (name_of_methodNamed Bd.named Bd.method).1
  have hrt := Bd.returns
  have hlk := Bd.notSynchronized
  have X0 : Stand p l e ({ frames := 0, cells := 0, slots := 0, locals := 0 } : Room) s m #[(.int p0)] below meth c s₁ [] 0 0 := Stand.of_body Bd
  have e0 : s₁.heap = h0 := by rw [← hh, Bd.state]; rfl
  have N0 := Fr.nil n0
  show Go p e below s 0 0 (Q1c Z p0 zB cl t h0 n0) (s₁.setTop (entryFrame m #[(.int p0)] 1))
  rw [ef_1c m p0]
  refine Go.pre (st' := s₁.setTop (mkF m 5 #[.val (.int p0)] [(.int p0)])) (fun target kt => ?_) ?_
  · show Steps p.tables e below (s₁.setTop (mkF m 0 #[.val (.int p0)] [])) _
    refine XS.iloadN X0.here hx rfl (hb hby d1_0) rfl ?_
    show Steps p.tables e below (s₁.setTop (mkF m 1 #[.val (.int p0)] [(.int p0)])) _
    refine XS.ifNo X0.here hx rfl (hb hby d1_1) rfl ((if0 _ _).trans (tlt hc1).2.2.2) ?_
    show Steps p.tables e below (s₁.setTop (mkF m 4 #[.val (.int p0)] [])) _
    refine XS.iloadN X0.here hx rfl (hb hby d1_4) rfl ?_
    exact kt
  obtain ⟨T1, X1, e1, st1⟩ := getS2 X0 hx hZ hown (host := "") (Or.inl (hw _ (List.mem_of_getElem? (i := 4) rfl))) Via.refl e0 (S_BY_ID.ext Ol.2) (g := (mkF m 5 #[.val (.int p0)] [(.int p0)])) rfl (hb hby d1_5)
  refine Go.pre st1 ?_
  show Go p e below s _ _ _ (T1.setTop (mkF m 8 #[.val (.int p0)] [(.ref zB), (.int p0)]))
  have st2 := X1.arraylength hx (by rw [e1]; exact Ar.1) (State.isArrayOf_alike hZ.alike Ar.2.1) (g := (mkF m 8 #[.val (.int p0)] [(.ref zB), (.int p0)])) rfl rfl (hb hby d1_8)
  rw [show cl.slots.size.toInt32 = (26 : Int32) from by rw [Sz]; rfl] at st2
  refine Go.pre st2 ?_
  show Go p e below s _ _ _ (T1.setTop (mkF m 9 #[.val (.int p0)] [(.int (26 : Int32)), (.int p0)]))
  refine Go.pre (st' := T1.setTop (mkF m 12 #[.val (.int p0)] [])) (fun target kt => ?_) ?_
  · show Steps p.tables e below (T1.setTop (mkF m 9 #[.val (.int p0)] [(.int (26 : Int32)), (.int p0)])) _
    refine XS.icmpNo X1.here hx rfl (hb hby d1_9) rfl (tlt hc9).2.1 ?_
    exact kt
  obtain ⟨T3, X3, e3, st3⟩ := getS2 X1 hx hZ hown (host := "") (Or.inl (hw _ (List.mem_of_getElem? (i := 4) rfl))) Via.refl e1 (S_BY_ID.ext Ol.2) (g := (mkF m 12 #[.val (.int p0)] [])) rfl (hb hby d1_12)
  refine Go.pre st3 ?_
  show Go p e below s _ _ _ (T3.setTop (mkF m 15 #[.val (.int p0)] [(.ref zB)]))
  refine Go.pre (st' := T3.setTop (mkF m 16 #[.val (.int p0)] [(.int p0), (.ref zB)])) (fun target kt => ?_) ?_
  · show Steps p.tables e below (T3.setTop (mkF m 15 #[.val (.int p0)] [(.ref zB)])) _
    refine XS.iloadN X3.here hx rfl (hb hby d1_15) rfl ?_
    exact kt
  have inb : ¬ (p0 < 0 ∨ cl.slots.size ≤ (p0).toNatClampNeg) := inb_of (z := (26 : Int32)) (by rw [Sz]; rfl) ⟨own_e hc1, hc9⟩
  refine Go.pre (X3.aaload hx (j := p0) (v := .ref t) (by rw [e3]; exact Ar.1) (State.isArrayOf_alike hZ.alike Ar.2.1) rfl Ar.2.2 inb At (g := (mkF m 16 #[.val (.int p0)] [(.int p0), (.ref zB)])) rfl rfl (hb hby d1_16)) ?_
  show Go p e below s _ _ _ (T3.setTop (mkF m 17 #[.val (.int p0)] [(.ref t)]))
  refine Go.pre (st' := T3.setTop (mkF m 21 #[.val (.int p0)] [(.ref t)])) (fun target kt => ?_) ?_
  · show Steps p.tables e below (T3.setTop (mkF m 17 #[.val (.int p0)] [(.ref t)])) _
    refine XS.goto X3.here hx rfl (pc0 := 17) (pc' := 21) rfl (hb hby d1_17) (by decide) (by decide) ?_
    exact kt
  exact Go.retV X3 hx hlk hrt rfl (Or.inr (Or.inr (Or.inr (Or.inr ⟨rfl, rfl, rfl⟩)))) (hb hby d1_21) (by decide) (by decide) (by rw [e3]; exact ⟨rfl, N0, rfl⟩)
/-! UaTypes$BuiltInType.id (2) -/
theorem d2_0 : decode prog_113_method_4_code 0 = .ok (.aload_n 0, 1) := by decide +kernel
theorem d2_1 : decode prog_113_method_4_code 1 = .ok (.getfield 98, 3) := by decide +kernel
theorem d2_4 : decode prog_113_method_4_code 4 = .ok (.ireturn, 1) := by decide +kernel
theorem pn_2 : plainName "com/example/pulsekeep/pulsekeep/opcua/UaTypes$BuiltInType" = true := by first | (simp [plainName, overriddenIn]; done) | decide +kernel
theorem ef_2 (m : MethodId) (o0 : Addr) : entryFrame m #[(.ref o0)] 1 = (mkF m 0 #[.val (.ref o0)] []) := by first | (simp [entryFrame, mkF, argsToLocals, Value.category]; done) | rfl
def Q2 (Z : State) (o0 : Addr) (w1 : Int32) (h0 : Heap) (n0 : Nat) (v : Option Value) (h : Heap) (L : List Loc) : Prop := v = some (.int w1) ∧ Fr n0 L ∧ h = h0
set_option maxRecDepth 65536 in
set_option maxHeartbeats 40000000 in
theorem rm2 (l : Launch) (Z : State) (a0 : Array Value) (hw : ∀ d ∈ tables_1, d.before a0 Z = true) (ws : List Jvm.Cond) (o0 : Addr) (w1 : Int32) (h0 : Heap) (n0 : Nat) (Z0 : n0 ≤ h0.size) (F_id_o0 : Fld Z h0 o0 "com/example/pulsekeep/pulsekeep/opcua/UaTypes$BuiltInType" "id" "I" (.int w1)) :
    MetFree l (⟨"com/example/pulsekeep/pulsekeep/opcua/UaTypes$BuiltInType", "id", "()I"⟩ : MethodName) (head1 (Jvm.Cond.code (⟨"com/example/pulsekeep/pulsekeep/opcua/UaTypes$BuiltInType", "id", "()I"⟩ : MethodName) prog_113_method_4_code 1 (some .int) :: ws) ({ frames := 0, cells := 0, slots := 0, locals := 0 } : Room)) (fun a U => a = #[(.ref o0)] ∧ Z.Warmed39 U.vm ∧ U.heap = h0) (fun _ _ _ _ _ => True) (fun _ U o U' => ∃ v L, o = .returned v ∧ Q2 Z o0 w1 h0 n0 v U'.heap L ∧ FrameEnd U o U' L ({ frames := 0, cells := 0, slots := 0, locals := 0 } : Room).cells ({ frames := 0, cells := 0, slots := 0, locals := 0 } : Room).slots) := by
  refine MetFree.of_bodySF (plainFor_of_name pn_2) hisR ?_
  intro p e s m args below meth c s₁ Bd hml0 hP hK
  obtain ⟨rfl, hZ, hh⟩ := hP
  have hx := Bd.exec
  have hby := Bd.bytes
  have hml : c.maxLocals = 1 := hml0
  have hown : s.vm.findClass "com/example/pulsekeep/pulsekeep/opcua/UaTypes$BuiltInType" = some m.cls := findClass_of_methodNamed Bd.named
  have hnm := (name_of_methodNamed Bd.named Bd.method).1
  have hrt := Bd.returns
  have hlk := Bd.notSynchronized
  have X0 : Stand p l e ({ frames := 0, cells := 0, slots := 0, locals := 0 } : Room) s m #[(.ref o0)] below meth c s₁ [] 0 0 := Stand.of_body Bd
  have e0 : s₁.heap = h0 := by rw [← hh, Bd.state]; rfl
  have N0 := Fr.nil n0
  have lt_F_id_o0 : LT.lt (α := Nat) o0 h0.size := F_id_o0.lt
  show Go p e below s 0 0 (Q2 Z o0 w1 h0 n0) (s₁.setTop (entryFrame m #[(.ref o0)] 1))
  rw [ef_2 m o0]
  refine Go.pre (st' := s₁.setTop (mkF m 1 #[.val (.ref o0)] [(.ref o0)])) (fun target kt => ?_) ?_
  · show Steps p.tables e below (s₁.setTop (mkF m 0 #[.val (.ref o0)] [])) _
    refine XS.aloadN X0.here hx rfl (hb hby d2_0) rfl rfl ?_
    exact kt
  obtain ⟨T2, X2, e2, st2⟩ := getF X0 hx hZ hown (host := "") (Or.inl (hw _ (List.mem_of_getElem? (i := 12) rfl))) Via.refl e0 F_id_o0 (g := (mkF m 1 #[.val (.ref o0)] [(.ref o0)])) rfl rfl (hb hby d2_1)
  refine Go.pre st2 ?_
  show Go p e below s _ _ _ (T2.setTop (mkF m 4 #[.val (.ref o0)] [(.int w1)]))
  exact Go.retV X2 hx hlk hrt rfl (Or.inl ⟨rfl, Or.inl rfl, _, rfl⟩) (hb hby d2_4) (by decide) (by decide) (by rw [e2]; exact ⟨rfl, N0, rfl⟩)
/-! BuiltInTypeForIdPinLaw.law (0) -/
theorem pn_0 : plainName "com/example/pulsekeep/pulsekeep/opcua/BuiltInTypeForIdPinLaw" = true := by first | (simp [plainName, overriddenIn]; done) | decide +kernel
theorem pd0_0 : parseMethodDescriptor "(I)Lcom/example/pulsekeep/pulsekeep/opcua/UaTypes$BuiltInType;" = some ⟨[.int], some (.object "com/example/pulsekeep/pulsekeep/opcua/UaTypes$BuiltInType")⟩ := by decide +kernel
theorem pd0_1 : parseMethodDescriptor "()I" = some ⟨[], some .int⟩ := by decide +kernel
theorem ef_0 (m : MethodId) (p0 : Int32) (p1 : Int32) : entryFrame m #[(.int p0), (.int p1)] maxLocals = (mkF m 0 #[.val (.int p0), .val (.int p1), .unset, .unset, .unset] []) := by first | (simp [entryFrame, mkF, argsToLocals, Value.category, maxLocals]; done) | rfl
def Q0 (Z : State) (p0 : Int32) (p1 : Int32) (zB : Addr) (cl : Cell) (h0 : Heap) (n0 : Nat) (v : Option Value) (h : Heap) (L : List Loc) : Prop := v = some (.int 1) ∧ Fr n0 L
set_option maxRecDepth 65536 in
set_option maxHeartbeats 40000000 in
theorem rm0 (l : Launch) (Z : State) (a0 : Array Value) (hw : ∀ d ∈ tables_1, d.before a0 Z = true) (ws : List Jvm.Cond) (p0 : Int32) (p1 : Int32) (zB : Addr) (cl : Cell) (h0 : Heap) (n0 : Nat) (Z0 : n0 ≤ h0.size) (S_BY_ID : Sta Z Z.heap "com/example/pulsekeep/pulsekeep/opcua/UaTypes$BuiltInType" "BY_ID" "[Lcom/example/pulsekeep/pulsekeep/opcua/UaTypes$BuiltInType;" (.ref zB)) (Ar : Arr Z h0 zB cl (.object "com/example/pulsekeep/pulsekeep/opcua/UaTypes$BuiltInType")) (Sz : cl.slots.size = 26) (hB : ∀ j : Int32, (0 : Int32) < j → j < (26 : Int32) → ∃ t : Addr, cl.slots[(j).toNatClampNeg]? = some (.ref t) ∧ Exa Z h0 t "com/example/pulsekeep/pulsekeep/opcua/UaTypes$BuiltInType" ∧ Fld Z h0 t "com/example/pulsekeep/pulsekeep/opcua/UaTypes$BuiltInType" "id" "I" (.int j)) (Ol : Old Z n0 h0) :
    MetFree l x (head1 (Jvm.Cond.code x code maxLocals ret :: ws) room_1) (fun a U => a = #[(.int p0), (.int p1)] ∧ Z.Warmed39 U.vm ∧ U.heap = h0) (fun _ _ _ _ _ => True) (fun _ U o U' => ∃ v L, o = .returned v ∧ Q0 Z p0 p1 zB cl h0 n0 v U'.heap L ∧ FrameEnd U o U' L 0 0) := by
  refine MetFree.of_bodySF (plainFor_of_name pn_0) hisR ?_
  intro p e s m args below meth c s₁ Bd hml0 hP hK
  obtain ⟨rfl, hZ, hh⟩ := hP
  have hx := Bd.exec
  have hby := Bd.bytes
  have hml : c.maxLocals = 5 := hml0
  have hown : s.vm.findClass "com/example/pulsekeep/pulsekeep/opcua/BuiltInTypeForIdPinLaw" = some m.cls := findClass_of_methodNamed Bd.named
  have hnm := (name_of_methodNamed Bd.named Bd.method).1
  have hrt := Bd.returns
  have hlk := Bd.notSynchronized
  have X0 : Stand p l e room_1 s m #[(.int p0), (.int p1)] below meth c s₁ [] 0 0 := Stand.of_body Bd
  have e0 : s₁.heap = h0 := by rw [← hh, Bd.state]; rfl
  have N0 := Fr.nil n0
  show Go p e below s 0 0 (Q0 Z p0 p1 zB cl h0 n0) (s₁.setTop (entryFrame m #[(.int p0), (.int p1)] maxLocals))
  rw [ef_0 m p0 p1]
  refine Go.pre (st' := s₁.setTop (mkF m 3 #[.val (.int p0), .val (.int p1), .unset, .unset, .unset] [(.int (p1 &&& (1 : Int32)))])) (fun target kt => ?_) ?_
  · show Steps p.tables e below (s₁.setTop (mkF m 0 #[.val (.int p0), .val (.int p1), .unset, .unset, .unset] [])) _
    refine XS.iloadN X0.here hx rfl (hb hby at_0) rfl ?_
    show Steps p.tables e below (s₁.setTop (mkF m 1 #[.val (.int p0), .val (.int p1), .unset, .unset, .unset] [(.int p1)])) _
    refine XS.iconst X0.here hx rfl (hb hby at_1) ?_
    show Steps p.tables e below (s₁.setTop (mkF m 2 #[.val (.int p0), .val (.int p1), .unset, .unset, .unset] [(.int (1 : Int32)), (.int p1)])) _
    refine XS.iand X0.here hx rfl (hb hby at_2) rfl ?_
    exact kt
  by_cases h3_1 : (p1 &&& (1 : Int32)) = (0 : Int32)
  · refine Go.pre (st' := s₁.setTop (mkF m 10 #[.val (.int p0), .val (.int p1), .unset, .unset, .unset] [])) (fun target kt => ?_) ?_
    · show Steps p.tables e below (s₁.setTop (mkF m 3 #[.val (.int p0), .val (.int p1), .unset, .unset, .unset] [(.int (p1 &&& (1 : Int32)))])) _
      refine XS.ifYes X0.here hx rfl (pc0 := 3) (pc' := 10) rfl (hb hby at_3) rfl ((if0 _ _).trans (teq h3_1).1) (by decide) (by decide) ?_
      exact kt
    refine Go.pre (st' := s₁.setTop (mkF m 18 #[.val (.int p0), .val (.int p1), .val (.int ((p0 &&& (31 : Int32)) - (2 : Int32))), .unset, .unset] [(.int ((p0 &&& (31 : Int32)) - (2 : Int32)))])) (fun target kt => ?_) ?_
    · show Steps p.tables e below (s₁.setTop (mkF m 10 #[.val (.int p0), .val (.int p1), .unset, .unset, .unset] [])) _
      refine XS.iloadN X0.here hx rfl (hb hby at_10) rfl ?_
      show Steps p.tables e below (s₁.setTop (mkF m 11 #[.val (.int p0), .val (.int p1), .unset, .unset, .unset] [(.int p0)])) _
      refine XS.bipush X0.here hx rfl (hb hby at_11) ?_
      show Steps p.tables e below (s₁.setTop (mkF m 13 #[.val (.int p0), .val (.int p1), .unset, .unset, .unset] [(.int (31 : Int32)), (.int p0)])) _
      refine XS.iand X0.here hx rfl (hb hby at_13) rfl ?_
      show Steps p.tables e below (s₁.setTop (mkF m 14 #[.val (.int p0), .val (.int p1), .unset, .unset, .unset] [(.int (p0 &&& (31 : Int32)))])) _
      refine XS.iconst X0.here hx rfl (hb hby at_14) ?_
      show Steps p.tables e below (s₁.setTop (mkF m 15 #[.val (.int p0), .val (.int p1), .unset, .unset, .unset] [(.int (2 : Int32)), (.int (p0 &&& (31 : Int32)))])) _
      refine XS.isub X0.here hx rfl (hb hby at_15) rfl ?_
      show Steps p.tables e below (s₁.setTop (mkF m 16 #[.val (.int p0), .val (.int p1), .unset, .unset, .unset] [(.int ((p0 &&& (31 : Int32)) - (2 : Int32)))])) _
      refine XS.istoreN X0.here hx rfl (hb hby at_16) rfl (l' := #[.val (.int p0), .val (.int p1), .val (.int ((p0 &&& (31 : Int32)) - (2 : Int32))), .unset, .unset]) rfl ?_
      show Steps p.tables e below (s₁.setTop (mkF m 17 #[.val (.int p0), .val (.int p1), .val (.int ((p0 &&& (31 : Int32)) - (2 : Int32))), .unset, .unset] [])) _
      refine XS.iloadN X0.here hx rfl (hb hby at_17) rfl ?_
      exact kt
    obtain ⟨id2, hi2⟩ : ∃ z, z = ((p0 &&& (31 : Int32)) - (2 : Int32)) := ⟨_, rfl⟩
    rw [← hi2]
    by_cases hf3 : (0 : Int32) < id2
    · by_cases hf4 : id2 < (26 : Int32)
      · obtain ⟨t2, at2, Et2, Ft2⟩ := hB id2 hf3 hf4
        obtain ⟨_, _, ⟨T5, L5, k5, n5⟩, -, X5, ⟨Lc5, hQ5, l5, y5, z5⟩, st5⟩ := Jvm.LawKit.callS X0 hx (y := (⟨"com/example/pulsekeep/pulsekeep/opcua/UaTypes$BuiltInType", "forId", "(I)Lcom/example/pulsekeep/pulsekeep/opcua/UaTypes$BuiltInType;"⟩ : MethodName)) hown (mvT hZ (hw _ (List.mem_of_getElem? (i := 0) rfl))) (mvT hZ (hw _ (List.mem_of_getElem? (i := 1) rfl))) (mvT hZ (hw _ (List.mem_of_getElem? (i := 2) rfl))) (mvT hZ (hw _ (List.mem_of_getElem? (i := 3) rfl))) (by decide) (backOf (W := 0) (rm1c l Z a0 hw [] id2 zB cl t2 h0 n0 (by omega) S_BY_ID Ar Sz at2 Ol hf3 hf4) hZ (hw _ (List.mem_of_getElem? (i := 3) rfl)) (hw _ (List.mem_of_getElem? (i := 2) rfl)) (by decide) (by decide)) (g := (mkF m 18 #[.val (.int p0), .val (.int p1), .val (.int id2), .unset, .unset] [(.int id2)])) rfl (by rw [hml]; rfl) (argsL := [(.int id2)]) (rest := []) (lenOf pd0_0 rfl) rfl (by show 2 * 0 + _ ≤ _; exact Nat.le_of_eq rfl) (hb hby at_18) (fun vm₁ hvm => ⟨rfl, e0, (by decide : 0 + 0 ≤ _), (by decide : 0 + 0 ≤ _)⟩)
        dsimp only [Pt.U, Pt.locs, Pt.cells, Pt.slots] at X5 l5 y5 z5 st5 hQ5
        subst l5 y5 z5
        obtain ⟨rfl, N5q, e5⟩ := hQ5
        have N5 := Fr.app N0 N5q
        refine Go.pre st5 ?_
        show Go p e below s _ _ _ (T5.setTop (mkF m 21 #[.val (.int p0), .val (.int p1), .val (.int id2), .unset, .unset] [(.ref t2)]))
        refine Go.pre (st' := T5.setTop (mkF m 60 #[.val (.int p0), .val (.int p1), .val (.int id2), .val (.ref t2), .val (.int (1 : Int32))] [(.ref t2)])) (fun target kt => ?_) ?_
        · show Steps p.tables e below (T5.setTop (mkF m 21 #[.val (.int p0), .val (.int p1), .val (.int id2), .unset, .unset] [(.ref t2)])) _
          refine XS.astoreN X5.here hx rfl (hb hby at_21) rfl rfl (l' := #[.val (.int p0), .val (.int p1), .val (.int id2), .val (.ref t2), .unset]) rfl ?_
          show Steps p.tables e below (T5.setTop (mkF m 22 #[.val (.int p0), .val (.int p1), .val (.int id2), .val (.ref t2), .unset] [])) _
          refine XS.iloadN X5.here hx rfl (hb hby at_22) rfl ?_
          show Steps p.tables e below (T5.setTop (mkF m 23 #[.val (.int p0), .val (.int p1), .val (.int id2), .val (.ref t2), .unset] [(.int id2)])) _
          refine XS.iconst X5.here hx rfl (hb hby at_23) ?_
          show Steps p.tables e below (T5.setTop (mkF m 24 #[.val (.int p0), .val (.int p1), .val (.int id2), .val (.ref t2), .unset] [(.int (1 : Int32)), (.int id2)])) _
          refine XS.icmpNo X5.here hx rfl (hb hby at_24) rfl (flt (own_a hf3)).1 ?_
          show Steps p.tables e below (T5.setTop (mkF m 27 #[.val (.int p0), .val (.int p1), .val (.int id2), .val (.ref t2), .unset] [])) _
          refine XS.iloadN X5.here hx rfl (hb hby at_27) rfl ?_
          show Steps p.tables e below (T5.setTop (mkF m 28 #[.val (.int p0), .val (.int p1), .val (.int id2), .val (.ref t2), .unset] [(.int id2)])) _
          refine XS.bipush X5.here hx rfl (hb hby at_28) ?_
          show Steps p.tables e below (T5.setTop (mkF m 30 #[.val (.int p0), .val (.int p1), .val (.int id2), .val (.ref t2), .unset] [(.int (25 : Int32)), (.int id2)])) _
          refine XS.icmpNo X5.here hx rfl (hb hby at_30) rfl (flt (own_c hf4)).2.2.1 ?_
          show Steps p.tables e below (T5.setTop (mkF m 33 #[.val (.int p0), .val (.int p1), .val (.int id2), .val (.ref t2), .unset] [])) _
          refine XS.iconst X5.here hx rfl (hb hby at_33) ?_
          show Steps p.tables e below (T5.setTop (mkF m 34 #[.val (.int p0), .val (.int p1), .val (.int id2), .val (.ref t2), .unset] [(.int (1 : Int32))])) _
          refine XS.goto X5.here hx rfl (pc0 := 34) (pc' := 38) rfl (hb hby at_34) (by decide) (by decide) ?_
          show Steps p.tables e below (T5.setTop (mkF m 38 #[.val (.int p0), .val (.int p1), .val (.int id2), .val (.ref t2), .unset] [(.int (1 : Int32))])) _
          refine XS.istore X5.here hx rfl (hb hby at_38) rfl (l' := #[.val (.int p0), .val (.int p1), .val (.int id2), .val (.ref t2), .val (.int (1 : Int32))]) rfl ?_
          show Steps p.tables e below (T5.setTop (mkF m 40 #[.val (.int p0), .val (.int p1), .val (.int id2), .val (.ref t2), .val (.int (1 : Int32))] [])) _
          refine XS.iload X5.here hx rfl (hb hby at_40) rfl ?_
          show Steps p.tables e below (T5.setTop (mkF m 42 #[.val (.int p0), .val (.int p1), .val (.int id2), .val (.ref t2), .val (.int (1 : Int32))] [(.int (1 : Int32))])) _
          refine XS.ifYes X5.here hx rfl (pc0 := 42) (pc' := 55) rfl (hb hby at_42) rfl ((if0 _ _).trans (feq (by decide)).2) (by decide) (by decide) ?_
          show Steps p.tables e below (T5.setTop (mkF m 55 #[.val (.int p0), .val (.int p1), .val (.int id2), .val (.ref t2), .val (.int (1 : Int32))] [])) _
          refine XS.aloadN X5.here hx rfl (hb hby at_55) rfl rfl ?_
          show Steps p.tables e below (T5.setTop (mkF m 56 #[.val (.int p0), .val (.int p1), .val (.int id2), .val (.ref t2), .val (.int (1 : Int32))] [(.ref t2)])) _
          refine XS.ifnullNo X5.here hx rfl (hb hby at_56) rfl ?_
          show Steps p.tables e below (T5.setTop (mkF m 59 #[.val (.int p0), .val (.int p1), .val (.int id2), .val (.ref t2), .val (.int (1 : Int32))] [])) _
          refine XS.aloadN X5.here hx rfl (hb hby at_59) rfl rfl ?_
          exact kt
        obtain ⟨cq6, kq6, q6a, q6b, q6c⟩ := isOf hZ e5 Et2
        obtain ⟨_, _, ⟨T6, L6, k6, n6⟩, -, X6, ⟨Lc6, hQ6, l6, y6, z6⟩, st6⟩ := X5.virtualBack hx (y := (⟨"com/example/pulsekeep/pulsekeep/opcua/UaTypes$BuiltInType", "id", "()I"⟩ : MethodName)) (z := (⟨"com/example/pulsekeep/pulsekeep/opcua/UaTypes$BuiltInType", "id", "()I"⟩ : MethodName)) hown (mvT hZ (hw _ (List.mem_of_getElem? (i := 7) rfl))) (mvT hZ (hw _ (List.mem_of_getElem? (i := 8) rfl))) (notFace_of_selects (args := #[]) (mvT hZ (hw _ (List.mem_of_getElem? (i := 10) rfl)))) (mvT hZ (hw _ (List.mem_of_getElem? (i := 10) rfl))) (mvT hZ (hw _ (List.mem_of_getElem? (i := 9) rfl))) (by decide) (backOf (W := 0) (rm2 l Z a0 hw [] t2 id2 h0 n0 (by omega) Ft2) hZ (hw _ (List.mem_of_getElem? (i := 11) rfl)) (hw _ (List.mem_of_getElem? (i := 2) rfl)) (by decide) (by decide)) q6a q6c (g := (mkF m 60 #[.val (.int p0), .val (.int p1), .val (.int id2), .val (.ref t2), .val (.int (1 : Int32))] [(.ref t2)])) rfl (by rw [hml]; rfl) (Steps.refl _) (argsL := []) (rest := []) (lenOf pd0_1 rfl) rfl (by show 2 * 0 + _ ≤ _; exact Nat.le_of_eq rfl) (hb hby at_60) (fun vm₁ hvm => ⟨rfl, e5, (by decide : 0 + 0 ≤ _), (by decide : 0 + 0 ≤ _)⟩)
        dsimp only [Pt.U, Pt.locs, Pt.cells, Pt.slots] at X6 l6 y6 z6 st6 hQ6
        subst l6 y6 z6
        obtain ⟨rfl, N6q, e6⟩ := hQ6
        have N6 := Fr.app N5 N6q
        refine Go.trans st6 ?_
        show Go p e below s _ _ _ (T6.setTop (mkF m 63 #[.val (.int p0), .val (.int p1), .val (.int id2), .val (.ref t2), .val (.int (1 : Int32))] [(.int id2)]))
        refine Go.pre (st' := T6.setTop (mkF m 72 #[.val (.int p0), .val (.int p1), .val (.int id2), .val (.ref t2), .val (.int (1 : Int32))] [(.int (1 : Int32))])) (fun target kt => ?_) ?_
        · show Steps p.tables e below (T6.setTop (mkF m 63 #[.val (.int p0), .val (.int p1), .val (.int id2), .val (.ref t2), .val (.int (1 : Int32))] [(.int id2)])) _
          refine XS.iloadN X6.here hx rfl (hb hby at_63) rfl ?_
          show Steps p.tables e below (T6.setTop (mkF m 64 #[.val (.int p0), .val (.int p1), .val (.int id2), .val (.ref t2), .val (.int (1 : Int32))] [(.int id2), (.int id2)])) _
          refine XS.icmpNo X6.here hx rfl (hb hby at_64) rfl (teq rfl).2 ?_
          show Steps p.tables e below (T6.setTop (mkF m 67 #[.val (.int p0), .val (.int p1), .val (.int id2), .val (.ref t2), .val (.int (1 : Int32))] [])) _
          refine XS.iconst X6.here hx rfl (hb hby at_67) ?_
          show Steps p.tables e below (T6.setTop (mkF m 68 #[.val (.int p0), .val (.int p1), .val (.int id2), .val (.ref t2), .val (.int (1 : Int32))] [(.int (1 : Int32))])) _
          refine XS.goto X6.here hx rfl (pc0 := 68) (pc' := 72) rfl (hb hby at_68) (by decide) (by decide) ?_
          exact kt
        exact Go.retN X6 hx hlk hrt (z' := (1 : Int32)) (by simp) (hb hby at_72) rfl (by decide) (by decide) (by rw [e6]; exact ⟨rfl, N6⟩)
      · obtain ⟨_, _, ⟨T7, L7, k7, n7⟩, -, X7, ⟨Lc7, hQ7, l7, y7, z7⟩, st7⟩ := Jvm.LawKit.callS X0 hx (y := (⟨"com/example/pulsekeep/pulsekeep/opcua/UaTypes$BuiltInType", "forId", "(I)Lcom/example/pulsekeep/pulsekeep/opcua/UaTypes$BuiltInType;"⟩ : MethodName)) hown (mvT hZ (hw _ (List.mem_of_getElem? (i := 0) rfl))) (mvT hZ (hw _ (List.mem_of_getElem? (i := 1) rfl))) (mvT hZ (hw _ (List.mem_of_getElem? (i := 2) rfl))) (mvT hZ (hw _ (List.mem_of_getElem? (i := 3) rfl))) (by decide) (backOf (W := 0) (rm1b l Z a0 hw [] id2 zB cl h0 n0 (by omega) S_BY_ID Ar Sz Ol hf3 hf4) hZ (hw _ (List.mem_of_getElem? (i := 3) rfl)) (hw _ (List.mem_of_getElem? (i := 2) rfl)) (by decide) (by decide)) (g := (mkF m 18 #[.val (.int p0), .val (.int p1), .val (.int id2), .unset, .unset] [(.int id2)])) rfl (by rw [hml]; rfl) (argsL := [(.int id2)]) (rest := []) (lenOf pd0_0 rfl) rfl (by show 2 * 0 + _ ≤ _; exact Nat.le_of_eq rfl) (hb hby at_18) (fun vm₁ hvm => ⟨rfl, e0, (by decide : 0 + 0 ≤ _), (by decide : 0 + 0 ≤ _)⟩)
        dsimp only [Pt.U, Pt.locs, Pt.cells, Pt.slots] at X7 l7 y7 z7 st7 hQ7
        subst l7 y7 z7
        obtain ⟨rfl, N7q, e7⟩ := hQ7
        have N7 := Fr.app N0 N7q
        refine Go.pre st7 ?_
        show Go p e below s _ _ _ (T7.setTop (mkF m 21 #[.val (.int p0), .val (.int p1), .val (.int id2), .unset, .unset] [.null]))
        refine Go.pre (st' := T7.setTop (mkF m 54 #[.val (.int p0), .val (.int p1), .val (.int id2), .val .null, .val (.int (0 : Int32))] [(.int (1 : Int32))])) (fun target kt => ?_) ?_
        · show Steps p.tables e below (T7.setTop (mkF m 21 #[.val (.int p0), .val (.int p1), .val (.int id2), .unset, .unset] [.null])) _
          refine XS.astoreN X7.here hx rfl (hb hby at_21) rfl rfl (l' := #[.val (.int p0), .val (.int p1), .val (.int id2), .val .null, .unset]) rfl ?_
          show Steps p.tables e below (T7.setTop (mkF m 22 #[.val (.int p0), .val (.int p1), .val (.int id2), .val .null, .unset] [])) _
          refine XS.iloadN X7.here hx rfl (hb hby at_22) rfl ?_
          show Steps p.tables e below (T7.setTop (mkF m 23 #[.val (.int p0), .val (.int p1), .val (.int id2), .val .null, .unset] [(.int id2)])) _
          refine XS.iconst X7.here hx rfl (hb hby at_23) ?_
          show Steps p.tables e below (T7.setTop (mkF m 24 #[.val (.int p0), .val (.int p1), .val (.int id2), .val .null, .unset] [(.int (1 : Int32)), (.int id2)])) _
          refine XS.icmpNo X7.here hx rfl (hb hby at_24) rfl (flt (own_a hf3)).1 ?_
          show Steps p.tables e below (T7.setTop (mkF m 27 #[.val (.int p0), .val (.int p1), .val (.int id2), .val .null, .unset] [])) _
          refine XS.iloadN X7.here hx rfl (hb hby at_27) rfl ?_
          show Steps p.tables e below (T7.setTop (mkF m 28 #[.val (.int p0), .val (.int p1), .val (.int id2), .val .null, .unset] [(.int id2)])) _
          refine XS.bipush X7.here hx rfl (hb hby at_28) ?_
          show Steps p.tables e below (T7.setTop (mkF m 30 #[.val (.int p0), .val (.int p1), .val (.int id2), .val .null, .unset] [(.int (25 : Int32)), (.int id2)])) _
          refine XS.icmpYes X7.here hx rfl (pc0 := 30) (pc' := 37) rfl (hb hby at_30) rfl (tlt (own_d hf4)).2.2.1 (by decide) (by decide) ?_
          show Steps p.tables e below (T7.setTop (mkF m 37 #[.val (.int p0), .val (.int p1), .val (.int id2), .val .null, .unset] [])) _
          refine XS.iconst X7.here hx rfl (hb hby at_37) ?_
          show Steps p.tables e below (T7.setTop (mkF m 38 #[.val (.int p0), .val (.int p1), .val (.int id2), .val .null, .unset] [(.int (0 : Int32))])) _
          refine XS.istore X7.here hx rfl (hb hby at_38) rfl (l' := #[.val (.int p0), .val (.int p1), .val (.int id2), .val .null, .val (.int (0 : Int32))]) rfl ?_
          show Steps p.tables e below (T7.setTop (mkF m 40 #[.val (.int p0), .val (.int p1), .val (.int id2), .val .null, .val (.int (0 : Int32))] [])) _
          refine XS.iload X7.here hx rfl (hb hby at_40) rfl ?_
          show Steps p.tables e below (T7.setTop (mkF m 42 #[.val (.int p0), .val (.int p1), .val (.int id2), .val .null, .val (.int (0 : Int32))] [(.int (0 : Int32))])) _
          refine XS.ifNo X7.here hx rfl (hb hby at_42) rfl ((if0 _ _).trans (teq (by decide)).2) ?_
          show Steps p.tables e below (T7.setTop (mkF m 45 #[.val (.int p0), .val (.int p1), .val (.int id2), .val .null, .val (.int (0 : Int32))] [])) _
          refine XS.aloadN X7.here hx rfl (hb hby at_45) rfl rfl ?_
          show Steps p.tables e below (T7.setTop (mkF m 46 #[.val (.int p0), .val (.int p1), .val (.int id2), .val .null, .val (.int (0 : Int32))] [.null])) _
          refine XS.ifnonnullNo X7.here hx rfl (hb hby at_46) rfl ?_
          show Steps p.tables e below (T7.setTop (mkF m 49 #[.val (.int p0), .val (.int p1), .val (.int id2), .val .null, .val (.int (0 : Int32))] [])) _
          refine XS.iconst X7.here hx rfl (hb hby at_49) ?_
          show Steps p.tables e below (T7.setTop (mkF m 50 #[.val (.int p0), .val (.int p1), .val (.int id2), .val .null, .val (.int (0 : Int32))] [(.int (1 : Int32))])) _
          refine XS.goto X7.here hx rfl (pc0 := 50) (pc' := 54) rfl (hb hby at_50) (by decide) (by decide) ?_
          exact kt
        exact Go.retN X7 hx hlk hrt (z' := (1 : Int32)) (by simp) (hb hby at_54) rfl (by decide) (by decide) (by rw [e7]; exact ⟨rfl, N7⟩)
    · obtain ⟨_, _, ⟨T8, L8, k8, n8⟩, -, X8, ⟨Lc8, hQ8, l8, y8, z8⟩, st8⟩ := Jvm.LawKit.callS X0 hx (y := (⟨"com/example/pulsekeep/pulsekeep/opcua/UaTypes$BuiltInType", "forId", "(I)Lcom/example/pulsekeep/pulsekeep/opcua/UaTypes$BuiltInType;"⟩ : MethodName)) hown (mvT hZ (hw _ (List.mem_of_getElem? (i := 0) rfl))) (mvT hZ (hw _ (List.mem_of_getElem? (i := 1) rfl))) (mvT hZ (hw _ (List.mem_of_getElem? (i := 2) rfl))) (mvT hZ (hw _ (List.mem_of_getElem? (i := 3) rfl))) (by decide) (backOf (W := 0) (rm1a l Z a0 hw [] id2 zB cl h0 n0 (by omega) S_BY_ID Ar Sz Ol hf3) hZ (hw _ (List.mem_of_getElem? (i := 3) rfl)) (hw _ (List.mem_of_getElem? (i := 2) rfl)) (by decide) (by decide)) (g := (mkF m 18 #[.val (.int p0), .val (.int p1), .val (.int id2), .unset, .unset] [(.int id2)])) rfl (by rw [hml]; rfl) (argsL := [(.int id2)]) (rest := []) (lenOf pd0_0 rfl) rfl (by show 2 * 0 + _ ≤ _; exact Nat.le_of_eq rfl) (hb hby at_18) (fun vm₁ hvm => ⟨rfl, e0, (by decide : 0 + 0 ≤ _), (by decide : 0 + 0 ≤ _)⟩)
      dsimp only [Pt.U, Pt.locs, Pt.cells, Pt.slots] at X8 l8 y8 z8 st8 hQ8
      subst l8 y8 z8
      obtain ⟨rfl, N8q, e8⟩ := hQ8
      have N8 := Fr.app N0 N8q
      refine Go.pre st8 ?_
      show Go p e below s _ _ _ (T8.setTop (mkF m 21 #[.val (.int p0), .val (.int p1), .val (.int id2), .unset, .unset] [.null]))
      refine Go.pre (st' := T8.setTop (mkF m 54 #[.val (.int p0), .val (.int p1), .val (.int id2), .val .null, .val (.int (0 : Int32))] [(.int (1 : Int32))])) (fun target kt => ?_) ?_
      · show Steps p.tables e below (T8.setTop (mkF m 21 #[.val (.int p0), .val (.int p1), .val (.int id2), .unset, .unset] [.null])) _
        refine XS.astoreN X8.here hx rfl (hb hby at_21) rfl rfl (l' := #[.val (.int p0), .val (.int p1), .val (.int id2), .val .null, .unset]) rfl ?_
        show Steps p.tables e below (T8.setTop (mkF m 22 #[.val (.int p0), .val (.int p1), .val (.int id2), .val .null, .unset] [])) _
        refine XS.iloadN X8.here hx rfl (hb hby at_22) rfl ?_
        show Steps p.tables e below (T8.setTop (mkF m 23 #[.val (.int p0), .val (.int p1), .val (.int id2), .val .null, .unset] [(.int id2)])) _
        refine XS.iconst X8.here hx rfl (hb hby at_23) ?_
        show Steps p.tables e below (T8.setTop (mkF m 24 #[.val (.int p0), .val (.int p1), .val (.int id2), .val .null, .unset] [(.int (1 : Int32)), (.int id2)])) _
        refine XS.icmpYes X8.here hx rfl (pc0 := 24) (pc' := 37) rfl (hb hby at_24) rfl (tlt (own_b hf3)).1 (by decide) (by decide) ?_
        show Steps p.tables e below (T8.setTop (mkF m 37 #[.val (.int p0), .val (.int p1), .val (.int id2), .val .null, .unset] [])) _
        refine XS.iconst X8.here hx rfl (hb hby at_37) ?_
        show Steps p.tables e below (T8.setTop (mkF m 38 #[.val (.int p0), .val (.int p1), .val (.int id2), .val .null, .unset] [(.int (0 : Int32))])) _
        refine XS.istore X8.here hx rfl (hb hby at_38) rfl (l' := #[.val (.int p0), .val (.int p1), .val (.int id2), .val .null, .val (.int (0 : Int32))]) rfl ?_
        show Steps p.tables e below (T8.setTop (mkF m 40 #[.val (.int p0), .val (.int p1), .val (.int id2), .val .null, .val (.int (0 : Int32))] [])) _
        refine XS.iload X8.here hx rfl (hb hby at_40) rfl ?_
        show Steps p.tables e below (T8.setTop (mkF m 42 #[.val (.int p0), .val (.int p1), .val (.int id2), .val .null, .val (.int (0 : Int32))] [(.int (0 : Int32))])) _
        refine XS.ifNo X8.here hx rfl (hb hby at_42) rfl ((if0 _ _).trans (teq (by decide)).2) ?_
        show Steps p.tables e below (T8.setTop (mkF m 45 #[.val (.int p0), .val (.int p1), .val (.int id2), .val .null, .val (.int (0 : Int32))] [])) _
        refine XS.aloadN X8.here hx rfl (hb hby at_45) rfl rfl ?_
        show Steps p.tables e below (T8.setTop (mkF m 46 #[.val (.int p0), .val (.int p1), .val (.int id2), .val .null, .val (.int (0 : Int32))] [.null])) _
        refine XS.ifnonnullNo X8.here hx rfl (hb hby at_46) rfl ?_
        show Steps p.tables e below (T8.setTop (mkF m 49 #[.val (.int p0), .val (.int p1), .val (.int id2), .val .null, .val (.int (0 : Int32))] [])) _
        refine XS.iconst X8.here hx rfl (hb hby at_49) ?_
        show Steps p.tables e below (T8.setTop (mkF m 50 #[.val (.int p0), .val (.int p1), .val (.int id2), .val .null, .val (.int (0 : Int32))] [(.int (1 : Int32))])) _
        refine XS.goto X8.here hx rfl (pc0 := 50) (pc' := 54) rfl (hb hby at_50) (by decide) (by decide) ?_
        exact kt
      exact Go.retN X8 hx hlk hrt (z' := (1 : Int32)) (by simp) (hb hby at_54) rfl (by decide) (by decide) (by rw [e8]; exact ⟨rfl, N8⟩)
  · refine Go.pre (st' := s₁.setTop (mkF m 6 #[.val (.int p0), .val (.int p1), .unset, .unset, .unset] [])) (fun target kt => ?_) ?_
    · show Steps p.tables e below (s₁.setTop (mkF m 3 #[.val (.int p0), .val (.int p1), .unset, .unset, .unset] [(.int (p1 &&& (1 : Int32)))])) _
      refine XS.ifNo X0.here hx rfl (hb hby at_3) rfl ((if0 _ _).trans (feq h3_1).1) ?_
      exact kt
    refine Go.pre (st' := s₁.setTop (mkF m 18 #[.val (.int p0), .val (.int p1), .val (.int p0), .unset, .unset] [(.int p0)])) (fun target kt => ?_) ?_
    · show Steps p.tables e below (s₁.setTop (mkF m 6 #[.val (.int p0), .val (.int p1), .unset, .unset, .unset] [])) _
      refine XS.iloadN X0.here hx rfl (hb hby at_6) rfl ?_
      show Steps p.tables e below (s₁.setTop (mkF m 7 #[.val (.int p0), .val (.int p1), .unset, .unset, .unset] [(.int p0)])) _
      refine XS.goto X0.here hx rfl (pc0 := 7) (pc' := 16) rfl (hb hby at_7) (by decide) (by decide) ?_
      show Steps p.tables e below (s₁.setTop (mkF m 16 #[.val (.int p0), .val (.int p1), .unset, .unset, .unset] [(.int p0)])) _
      refine XS.istoreN X0.here hx rfl (hb hby at_16) rfl (l' := #[.val (.int p0), .val (.int p1), .val (.int p0), .unset, .unset]) rfl ?_
      show Steps p.tables e below (s₁.setTop (mkF m 17 #[.val (.int p0), .val (.int p1), .val (.int p0), .unset, .unset] [])) _
      refine XS.iloadN X0.here hx rfl (hb hby at_17) rfl ?_
      exact kt
    by_cases hf10 : (0 : Int32) < p0
    · by_cases hf11 : p0 < (26 : Int32)
      · obtain ⟨t9, at9, Et9, Ft9⟩ := hB p0 hf10 hf11
        obtain ⟨_, _, ⟨T12, L12, k12, n12⟩, -, X12, ⟨Lc12, hQ12, l12, y12, z12⟩, st12⟩ := Jvm.LawKit.callS X0 hx (y := (⟨"com/example/pulsekeep/pulsekeep/opcua/UaTypes$BuiltInType", "forId", "(I)Lcom/example/pulsekeep/pulsekeep/opcua/UaTypes$BuiltInType;"⟩ : MethodName)) hown (mvT hZ (hw _ (List.mem_of_getElem? (i := 0) rfl))) (mvT hZ (hw _ (List.mem_of_getElem? (i := 1) rfl))) (mvT hZ (hw _ (List.mem_of_getElem? (i := 2) rfl))) (mvT hZ (hw _ (List.mem_of_getElem? (i := 3) rfl))) (by decide) (backOf (W := 0) (rm1c l Z a0 hw [] p0 zB cl t9 h0 n0 (by omega) S_BY_ID Ar Sz at9 Ol hf10 hf11) hZ (hw _ (List.mem_of_getElem? (i := 3) rfl)) (hw _ (List.mem_of_getElem? (i := 2) rfl)) (by decide) (by decide)) (g := (mkF m 18 #[.val (.int p0), .val (.int p1), .val (.int p0), .unset, .unset] [(.int p0)])) rfl (by rw [hml]; rfl) (argsL := [(.int p0)]) (rest := []) (lenOf pd0_0 rfl) rfl (by show 2 * 0 + _ ≤ _; exact Nat.le_of_eq rfl) (hb hby at_18) (fun vm₁ hvm => ⟨rfl, e0, (by decide : 0 + 0 ≤ _), (by decide : 0 + 0 ≤ _)⟩)
        dsimp only [Pt.U, Pt.locs, Pt.cells, Pt.slots] at X12 l12 y12 z12 st12 hQ12
        subst l12 y12 z12
        obtain ⟨rfl, N12q, e12⟩ := hQ12
        have N12 := Fr.app N0 N12q
        refine Go.pre st12 ?_
        show Go p e below s _ _ _ (T12.setTop (mkF m 21 #[.val (.int p0), .val (.int p1), .val (.int p0), .unset, .unset] [(.ref t9)]))
        refine Go.pre (st' := T12.setTop (mkF m 60 #[.val (.int p0), .val (.int p1), .val (.int p0), .val (.ref t9), .val (.int (1 : Int32))] [(.ref t9)])) (fun target kt => ?_) ?_
        · show Steps p.tables e below (T12.setTop (mkF m 21 #[.val (.int p0), .val (.int p1), .val (.int p0), .unset, .unset] [(.ref t9)])) _
          refine XS.astoreN X12.here hx rfl (hb hby at_21) rfl rfl (l' := #[.val (.int p0), .val (.int p1), .val (.int p0), .val (.ref t9), .unset]) rfl ?_
          show Steps p.tables e below (T12.setTop (mkF m 22 #[.val (.int p0), .val (.int p1), .val (.int p0), .val (.ref t9), .unset] [])) _
          refine XS.iloadN X12.here hx rfl (hb hby at_22) rfl ?_
          show Steps p.tables e below (T12.setTop (mkF m 23 #[.val (.int p0), .val (.int p1), .val (.int p0), .val (.ref t9), .unset] [(.int p0)])) _
          refine XS.iconst X12.here hx rfl (hb hby at_23) ?_
          show Steps p.tables e below (T12.setTop (mkF m 24 #[.val (.int p0), .val (.int p1), .val (.int p0), .val (.ref t9), .unset] [(.int (1 : Int32)), (.int p0)])) _
          refine XS.icmpNo X12.here hx rfl (hb hby at_24) rfl (flt (own_a hf10)).1 ?_
          show Steps p.tables e below (T12.setTop (mkF m 27 #[.val (.int p0), .val (.int p1), .val (.int p0), .val (.ref t9), .unset] [])) _
          refine XS.iloadN X12.here hx rfl (hb hby at_27) rfl ?_
          show Steps p.tables e below (T12.setTop (mkF m 28 #[.val (.int p0), .val (.int p1), .val (.int p0), .val (.ref t9), .unset] [(.int p0)])) _
          refine XS.bipush X12.here hx rfl (hb hby at_28) ?_
          show Steps p.tables e below (T12.setTop (mkF m 30 #[.val (.int p0), .val (.int p1), .val (.int p0), .val (.ref t9), .unset] [(.int (25 : Int32)), (.int p0)])) _
          refine XS.icmpNo X12.here hx rfl (hb hby at_30) rfl (flt (own_c hf11)).2.2.1 ?_
          show Steps p.tables e below (T12.setTop (mkF m 33 #[.val (.int p0), .val (.int p1), .val (.int p0), .val (.ref t9), .unset] [])) _
          refine XS.iconst X12.here hx rfl (hb hby at_33) ?_
          show Steps p.tables e below (T12.setTop (mkF m 34 #[.val (.int p0), .val (.int p1), .val (.int p0), .val (.ref t9), .unset] [(.int (1 : Int32))])) _
          refine XS.goto X12.here hx rfl (pc0 := 34) (pc' := 38) rfl (hb hby at_34) (by decide) (by decide) ?_
          show Steps p.tables e below (T12.setTop (mkF m 38 #[.val (.int p0), .val (.int p1), .val (.int p0), .val (.ref t9), .unset] [(.int (1 : Int32))])) _
          refine XS.istore X12.here hx rfl (hb hby at_38) rfl (l' := #[.val (.int p0), .val (.int p1), .val (.int p0), .val (.ref t9), .val (.int (1 : Int32))]) rfl ?_
          show Steps p.tables e below (T12.setTop (mkF m 40 #[.val (.int p0), .val (.int p1), .val (.int p0), .val (.ref t9), .val (.int (1 : Int32))] [])) _
          refine XS.iload X12.here hx rfl (hb hby at_40) rfl ?_
          show Steps p.tables e below (T12.setTop (mkF m 42 #[.val (.int p0), .val (.int p1), .val (.int p0), .val (.ref t9), .val (.int (1 : Int32))] [(.int (1 : Int32))])) _
          refine XS.ifYes X12.here hx rfl (pc0 := 42) (pc' := 55) rfl (hb hby at_42) rfl ((if0 _ _).trans (feq (by decide)).2) (by decide) (by decide) ?_
          show Steps p.tables e below (T12.setTop (mkF m 55 #[.val (.int p0), .val (.int p1), .val (.int p0), .val (.ref t9), .val (.int (1 : Int32))] [])) _
          refine XS.aloadN X12.here hx rfl (hb hby at_55) rfl rfl ?_
          show Steps p.tables e below (T12.setTop (mkF m 56 #[.val (.int p0), .val (.int p1), .val (.int p0), .val (.ref t9), .val (.int (1 : Int32))] [(.ref t9)])) _
          refine XS.ifnullNo X12.here hx rfl (hb hby at_56) rfl ?_
          show Steps p.tables e below (T12.setTop (mkF m 59 #[.val (.int p0), .val (.int p1), .val (.int p0), .val (.ref t9), .val (.int (1 : Int32))] [])) _
          refine XS.aloadN X12.here hx rfl (hb hby at_59) rfl rfl ?_
          exact kt
        obtain ⟨cq13, kq13, q13a, q13b, q13c⟩ := isOf hZ e12 Et9
        obtain ⟨_, _, ⟨T13, L13, k13, n13⟩, -, X13, ⟨Lc13, hQ13, l13, y13, z13⟩, st13⟩ := X12.virtualBack hx (y := (⟨"com/example/pulsekeep/pulsekeep/opcua/UaTypes$BuiltInType", "id", "()I"⟩ : MethodName)) (z := (⟨"com/example/pulsekeep/pulsekeep/opcua/UaTypes$BuiltInType", "id", "()I"⟩ : MethodName)) hown (mvT hZ (hw _ (List.mem_of_getElem? (i := 7) rfl))) (mvT hZ (hw _ (List.mem_of_getElem? (i := 8) rfl))) (notFace_of_selects (args := #[]) (mvT hZ (hw _ (List.mem_of_getElem? (i := 10) rfl)))) (mvT hZ (hw _ (List.mem_of_getElem? (i := 10) rfl))) (mvT hZ (hw _ (List.mem_of_getElem? (i := 9) rfl))) (by decide) (backOf (W := 0) (rm2 l Z a0 hw [] t9 p0 h0 n0 (by omega) Ft9) hZ (hw _ (List.mem_of_getElem? (i := 11) rfl)) (hw _ (List.mem_of_getElem? (i := 2) rfl)) (by decide) (by decide)) q13a q13c (g := (mkF m 60 #[.val (.int p0), .val (.int p1), .val (.int p0), .val (.ref t9), .val (.int (1 : Int32))] [(.ref t9)])) rfl (by rw [hml]; rfl) (Steps.refl _) (argsL := []) (rest := []) (lenOf pd0_1 rfl) rfl (by show 2 * 0 + _ ≤ _; exact Nat.le_of_eq rfl) (hb hby at_60) (fun vm₁ hvm => ⟨rfl, e12, (by decide : 0 + 0 ≤ _), (by decide : 0 + 0 ≤ _)⟩)
        dsimp only [Pt.U, Pt.locs, Pt.cells, Pt.slots] at X13 l13 y13 z13 st13 hQ13
        subst l13 y13 z13
        obtain ⟨rfl, N13q, e13⟩ := hQ13
        have N13 := Fr.app N12 N13q
        refine Go.trans st13 ?_
        show Go p e below s _ _ _ (T13.setTop (mkF m 63 #[.val (.int p0), .val (.int p1), .val (.int p0), .val (.ref t9), .val (.int (1 : Int32))] [(.int p0)]))
        refine Go.pre (st' := T13.setTop (mkF m 72 #[.val (.int p0), .val (.int p1), .val (.int p0), .val (.ref t9), .val (.int (1 : Int32))] [(.int (1 : Int32))])) (fun target kt => ?_) ?_
        · show Steps p.tables e below (T13.setTop (mkF m 63 #[.val (.int p0), .val (.int p1), .val (.int p0), .val (.ref t9), .val (.int (1 : Int32))] [(.int p0)])) _
          refine XS.iloadN X13.here hx rfl (hb hby at_63) rfl ?_
          show Steps p.tables e below (T13.setTop (mkF m 64 #[.val (.int p0), .val (.int p1), .val (.int p0), .val (.ref t9), .val (.int (1 : Int32))] [(.int p0), (.int p0)])) _
          refine XS.icmpNo X13.here hx rfl (hb hby at_64) rfl (teq rfl).2 ?_
          show Steps p.tables e below (T13.setTop (mkF m 67 #[.val (.int p0), .val (.int p1), .val (.int p0), .val (.ref t9), .val (.int (1 : Int32))] [])) _
          refine XS.iconst X13.here hx rfl (hb hby at_67) ?_
          show Steps p.tables e below (T13.setTop (mkF m 68 #[.val (.int p0), .val (.int p1), .val (.int p0), .val (.ref t9), .val (.int (1 : Int32))] [(.int (1 : Int32))])) _
          refine XS.goto X13.here hx rfl (pc0 := 68) (pc' := 72) rfl (hb hby at_68) (by decide) (by decide) ?_
          exact kt
        exact Go.retN X13 hx hlk hrt (z' := (1 : Int32)) (by simp) (hb hby at_72) rfl (by decide) (by decide) (by rw [e13]; exact ⟨rfl, N13⟩)
      · obtain ⟨_, _, ⟨T14, L14, k14, n14⟩, -, X14, ⟨Lc14, hQ14, l14, y14, z14⟩, st14⟩ := Jvm.LawKit.callS X0 hx (y := (⟨"com/example/pulsekeep/pulsekeep/opcua/UaTypes$BuiltInType", "forId", "(I)Lcom/example/pulsekeep/pulsekeep/opcua/UaTypes$BuiltInType;"⟩ : MethodName)) hown (mvT hZ (hw _ (List.mem_of_getElem? (i := 0) rfl))) (mvT hZ (hw _ (List.mem_of_getElem? (i := 1) rfl))) (mvT hZ (hw _ (List.mem_of_getElem? (i := 2) rfl))) (mvT hZ (hw _ (List.mem_of_getElem? (i := 3) rfl))) (by decide) (backOf (W := 0) (rm1b l Z a0 hw [] p0 zB cl h0 n0 (by omega) S_BY_ID Ar Sz Ol hf10 hf11) hZ (hw _ (List.mem_of_getElem? (i := 3) rfl)) (hw _ (List.mem_of_getElem? (i := 2) rfl)) (by decide) (by decide)) (g := (mkF m 18 #[.val (.int p0), .val (.int p1), .val (.int p0), .unset, .unset] [(.int p0)])) rfl (by rw [hml]; rfl) (argsL := [(.int p0)]) (rest := []) (lenOf pd0_0 rfl) rfl (by show 2 * 0 + _ ≤ _; exact Nat.le_of_eq rfl) (hb hby at_18) (fun vm₁ hvm => ⟨rfl, e0, (by decide : 0 + 0 ≤ _), (by decide : 0 + 0 ≤ _)⟩)
        dsimp only [Pt.U, Pt.locs, Pt.cells, Pt.slots] at X14 l14 y14 z14 st14 hQ14
        subst l14 y14 z14
        obtain ⟨rfl, N14q, e14⟩ := hQ14
        have N14 := Fr.app N0 N14q
        refine Go.pre st14 ?_
        show Go p e below s _ _ _ (T14.setTop (mkF m 21 #[.val (.int p0), .val (.int p1), .val (.int p0), .unset, .unset] [.null]))
        refine Go.pre (st' := T14.setTop (mkF m 54 #[.val (.int p0), .val (.int p1), .val (.int p0), .val .null, .val (.int (0 : Int32))] [(.int (1 : Int32))])) (fun target kt => ?_) ?_
        · show Steps p.tables e below (T14.setTop (mkF m 21 #[.val (.int p0), .val (.int p1), .val (.int p0), .unset, .unset] [.null])) _
          refine XS.astoreN X14.here hx rfl (hb hby at_21) rfl rfl (l' := #[.val (.int p0), .val (.int p1), .val (.int p0), .val .null, .unset]) rfl ?_
          show Steps p.tables e below (T14.setTop (mkF m 22 #[.val (.int p0), .val (.int p1), .val (.int p0), .val .null, .unset] [])) _
          refine XS.iloadN X14.here hx rfl (hb hby at_22) rfl ?_
          show Steps p.tables e below (T14.setTop (mkF m 23 #[.val (.int p0), .val (.int p1), .val (.int p0), .val .null, .unset] [(.int p0)])) _
          refine XS.iconst X14.here hx rfl (hb hby at_23) ?_
          show Steps p.tables e below (T14.setTop (mkF m 24 #[.val (.int p0), .val (.int p1), .val (.int p0), .val .null, .unset] [(.int (1 : Int32)), (.int p0)])) _
          refine XS.icmpNo X14.here hx rfl (hb hby at_24) rfl (flt (own_a hf10)).1 ?_
          show Steps p.tables e below (T14.setTop (mkF m 27 #[.val (.int p0), .val (.int p1), .val (.int p0), .val .null, .unset] [])) _
          refine XS.iloadN X14.here hx rfl (hb hby at_27) rfl ?_
          show Steps p.tables e below (T14.setTop (mkF m 28 #[.val (.int p0), .val (.int p1), .val (.int p0), .val .null, .unset] [(.int p0)])) _
          refine XS.bipush X14.here hx rfl (hb hby at_28) ?_
          show Steps p.tables e below (T14.setTop (mkF m 30 #[.val (.int p0), .val (.int p1), .val (.int p0), .val .null, .unset] [(.int (25 : Int32)), (.int p0)])) _
          refine XS.icmpYes X14.here hx rfl (pc0 := 30) (pc' := 37) rfl (hb hby at_30) rfl (tlt (own_d hf11)).2.2.1 (by decide) (by decide) ?_
          show Steps p.tables e below (T14.setTop (mkF m 37 #[.val (.int p0), .val (.int p1), .val (.int p0), .val .null, .unset] [])) _
          refine XS.iconst X14.here hx rfl (hb hby at_37) ?_
          show Steps p.tables e below (T14.setTop (mkF m 38 #[.val (.int p0), .val (.int p1), .val (.int p0), .val .null, .unset] [(.int (0 : Int32))])) _
          refine XS.istore X14.here hx rfl (hb hby at_38) rfl (l' := #[.val (.int p0), .val (.int p1), .val (.int p0), .val .null, .val (.int (0 : Int32))]) rfl ?_
          show Steps p.tables e below (T14.setTop (mkF m 40 #[.val (.int p0), .val (.int p1), .val (.int p0), .val .null, .val (.int (0 : Int32))] [])) _
          refine XS.iload X14.here hx rfl (hb hby at_40) rfl ?_
          show Steps p.tables e below (T14.setTop (mkF m 42 #[.val (.int p0), .val (.int p1), .val (.int p0), .val .null, .val (.int (0 : Int32))] [(.int (0 : Int32))])) _
          refine XS.ifNo X14.here hx rfl (hb hby at_42) rfl ((if0 _ _).trans (teq (by decide)).2) ?_
          show Steps p.tables e below (T14.setTop (mkF m 45 #[.val (.int p0), .val (.int p1), .val (.int p0), .val .null, .val (.int (0 : Int32))] [])) _
          refine XS.aloadN X14.here hx rfl (hb hby at_45) rfl rfl ?_
          show Steps p.tables e below (T14.setTop (mkF m 46 #[.val (.int p0), .val (.int p1), .val (.int p0), .val .null, .val (.int (0 : Int32))] [.null])) _
          refine XS.ifnonnullNo X14.here hx rfl (hb hby at_46) rfl ?_
          show Steps p.tables e below (T14.setTop (mkF m 49 #[.val (.int p0), .val (.int p1), .val (.int p0), .val .null, .val (.int (0 : Int32))] [])) _
          refine XS.iconst X14.here hx rfl (hb hby at_49) ?_
          show Steps p.tables e below (T14.setTop (mkF m 50 #[.val (.int p0), .val (.int p1), .val (.int p0), .val .null, .val (.int (0 : Int32))] [(.int (1 : Int32))])) _
          refine XS.goto X14.here hx rfl (pc0 := 50) (pc' := 54) rfl (hb hby at_50) (by decide) (by decide) ?_
          exact kt
        exact Go.retN X14 hx hlk hrt (z' := (1 : Int32)) (by simp) (hb hby at_54) rfl (by decide) (by decide) (by rw [e14]; exact ⟨rfl, N14⟩)
    · obtain ⟨_, _, ⟨T15, L15, k15, n15⟩, -, X15, ⟨Lc15, hQ15, l15, y15, z15⟩, st15⟩ := Jvm.LawKit.callS X0 hx (y := (⟨"com/example/pulsekeep/pulsekeep/opcua/UaTypes$BuiltInType", "forId", "(I)Lcom/example/pulsekeep/pulsekeep/opcua/UaTypes$BuiltInType;"⟩ : MethodName)) hown (mvT hZ (hw _ (List.mem_of_getElem? (i := 0) rfl))) (mvT hZ (hw _ (List.mem_of_getElem? (i := 1) rfl))) (mvT hZ (hw _ (List.mem_of_getElem? (i := 2) rfl))) (mvT hZ (hw _ (List.mem_of_getElem? (i := 3) rfl))) (by decide) (backOf (W := 0) (rm1a l Z a0 hw [] p0 zB cl h0 n0 (by omega) S_BY_ID Ar Sz Ol hf10) hZ (hw _ (List.mem_of_getElem? (i := 3) rfl)) (hw _ (List.mem_of_getElem? (i := 2) rfl)) (by decide) (by decide)) (g := (mkF m 18 #[.val (.int p0), .val (.int p1), .val (.int p0), .unset, .unset] [(.int p0)])) rfl (by rw [hml]; rfl) (argsL := [(.int p0)]) (rest := []) (lenOf pd0_0 rfl) rfl (by show 2 * 0 + _ ≤ _; exact Nat.le_of_eq rfl) (hb hby at_18) (fun vm₁ hvm => ⟨rfl, e0, (by decide : 0 + 0 ≤ _), (by decide : 0 + 0 ≤ _)⟩)
      dsimp only [Pt.U, Pt.locs, Pt.cells, Pt.slots] at X15 l15 y15 z15 st15 hQ15
      subst l15 y15 z15
      obtain ⟨rfl, N15q, e15⟩ := hQ15
      have N15 := Fr.app N0 N15q
      refine Go.pre st15 ?_
      show Go p e below s _ _ _ (T15.setTop (mkF m 21 #[.val (.int p0), .val (.int p1), .val (.int p0), .unset, .unset] [.null]))
      refine Go.pre (st' := T15.setTop (mkF m 54 #[.val (.int p0), .val (.int p1), .val (.int p0), .val .null, .val (.int (0 : Int32))] [(.int (1 : Int32))])) (fun target kt => ?_) ?_
      · show Steps p.tables e below (T15.setTop (mkF m 21 #[.val (.int p0), .val (.int p1), .val (.int p0), .unset, .unset] [.null])) _
        refine XS.astoreN X15.here hx rfl (hb hby at_21) rfl rfl (l' := #[.val (.int p0), .val (.int p1), .val (.int p0), .val .null, .unset]) rfl ?_
        show Steps p.tables e below (T15.setTop (mkF m 22 #[.val (.int p0), .val (.int p1), .val (.int p0), .val .null, .unset] [])) _
        refine XS.iloadN X15.here hx rfl (hb hby at_22) rfl ?_
        show Steps p.tables e below (T15.setTop (mkF m 23 #[.val (.int p0), .val (.int p1), .val (.int p0), .val .null, .unset] [(.int p0)])) _
        refine XS.iconst X15.here hx rfl (hb hby at_23) ?_
        show Steps p.tables e below (T15.setTop (mkF m 24 #[.val (.int p0), .val (.int p1), .val (.int p0), .val .null, .unset] [(.int (1 : Int32)), (.int p0)])) _
        refine XS.icmpYes X15.here hx rfl (pc0 := 24) (pc' := 37) rfl (hb hby at_24) rfl (tlt (own_b hf10)).1 (by decide) (by decide) ?_
        show Steps p.tables e below (T15.setTop (mkF m 37 #[.val (.int p0), .val (.int p1), .val (.int p0), .val .null, .unset] [])) _
        refine XS.iconst X15.here hx rfl (hb hby at_37) ?_
        show Steps p.tables e below (T15.setTop (mkF m 38 #[.val (.int p0), .val (.int p1), .val (.int p0), .val .null, .unset] [(.int (0 : Int32))])) _
        refine XS.istore X15.here hx rfl (hb hby at_38) rfl (l' := #[.val (.int p0), .val (.int p1), .val (.int p0), .val .null, .val (.int (0 : Int32))]) rfl ?_
        show Steps p.tables e below (T15.setTop (mkF m 40 #[.val (.int p0), .val (.int p1), .val (.int p0), .val .null, .val (.int (0 : Int32))] [])) _
        refine XS.iload X15.here hx rfl (hb hby at_40) rfl ?_
        show Steps p.tables e below (T15.setTop (mkF m 42 #[.val (.int p0), .val (.int p1), .val (.int p0), .val .null, .val (.int (0 : Int32))] [(.int (0 : Int32))])) _
        refine XS.ifNo X15.here hx rfl (hb hby at_42) rfl ((if0 _ _).trans (teq (by decide)).2) ?_
        show Steps p.tables e below (T15.setTop (mkF m 45 #[.val (.int p0), .val (.int p1), .val (.int p0), .val .null, .val (.int (0 : Int32))] [])) _
        refine XS.aloadN X15.here hx rfl (hb hby at_45) rfl rfl ?_
        show Steps p.tables e below (T15.setTop (mkF m 46 #[.val (.int p0), .val (.int p1), .val (.int p0), .val .null, .val (.int (0 : Int32))] [.null])) _
        refine XS.ifnonnullNo X15.here hx rfl (hb hby at_46) rfl ?_
        show Steps p.tables e below (T15.setTop (mkF m 49 #[.val (.int p0), .val (.int p1), .val (.int p0), .val .null, .val (.int (0 : Int32))] [])) _
        refine XS.iconst X15.here hx rfl (hb hby at_49) ?_
        show Steps p.tables e below (T15.setTop (mkF m 50 #[.val (.int p0), .val (.int p1), .val (.int p0), .val .null, .val (.int (0 : Int32))] [(.int (1 : Int32))])) _
        refine XS.goto X15.here hx rfl (pc0 := 50) (pc' := 54) rfl (hb hby at_50) (by decide) (by decide) ?_
        exact kt
      exact Go.retN X15 hx hlk hrt (z' := (1 : Int32)) (by simp) (hb hby at_54) rfl (by decide) (by decide) (by rw [e15]; exact ⟨rfl, N15⟩)
theorem own_len {Z : State} {args : Array Value} {t : Term} {a : Addr} {c : Cell} {ty : FieldType} (ev : t.eval args Z none [] Z = some (.ref a)) (A : Arr Z Z.heap a c ty) (h : (Term.length t).eval args Z none [] Z = some (.int (26 : Int32))) : c.slots.size = 26 := by
  have ha := A.fin (Vm.Alike.refl _)
  simp only [Term.eval, ev, ha, Option.bind_eq_bind, Option.bind_some] at h
  split at h
  · rename_i hl
    have q : c.slots.size.toInt32 = (26 : Int32) := by simpa using h
    have q2 := len_toInt hl
    rw [q] at q2
    have q3 : (26 : Int32).toInt = 26 := by decide
    omega
  · cases h
theorem own_el {Z : State} {args : Array Value} {t u : Term} {a b : Addr} {c : Cell} {ty : FieldType} {j : Int32} (ev : t.eval args Z none [] Z = some (.ref a)) (A : Arr Z Z.heap a c ty) (eu : u.eval args Z none [] Z = some (.ref b))
    (h : (Cond.eq (.elem t (.int j)) u).value args Z none Z [] = some true) : c.slots[(j).toNatClampNeg]? = some (.ref b) := by
  obtain ⟨x, y, e1, e2, k1, k2⟩ := cmp_v (Or.inl h)
  cases eu.symm.trans e2
  have hr : x.isRef = true := by cases x <;> simp [Kin, Value.isRef] at k1 k2 ⊢
  have q := gotT (eq_R e1 e2 hr rfl) h
  subst q
  exact (elem_in e1 ev (Term.int_eval _) A.1).2
theorem own_cases (k : Int32) (h1 : (0 : Int32) < k) (h2 : k < (26 : Int32)) : k = (1 : Int32) ∨ k = (2 : Int32) ∨ k = (3 : Int32) ∨ k = (4 : Int32) ∨ k = (5 : Int32) ∨ k = (6 : Int32) ∨ k = (7 : Int32) ∨ k = (8 : Int32) ∨ k = (9 : Int32) ∨ k = (10 : Int32) ∨ k = (11 : Int32) ∨ k = (12 : Int32) ∨ k = (13 : Int32) ∨ k = (14 : Int32) ∨ k = (15 : Int32) ∨ k = (16 : Int32) ∨ k = (17 : Int32) ∨ k = (18 : Int32) ∨ k = (19 : Int32) ∨ k = (20 : Int32) ∨ k = (21 : Int32) ∨ k = (22 : Int32) ∨ k = (23 : Int32) ∨ k = (24 : Int32) ∨ k = (25 : Int32) := by
  have q : ∀ z : Int32, k.toInt = z.toInt → k = z := fun z e => Int32.toInt_inj.mp e
  rw [Int32.lt_iff_toInt_lt] at h1 h2
  have e0 : (0 : Int32).toInt = 0 := by decide
  have e26 : (26 : Int32).toInt = 26 := by decide
  have hk : k.toInt = 1 ∨ k.toInt = 2 ∨ k.toInt = 3 ∨ k.toInt = 4 ∨ k.toInt = 5 ∨ k.toInt = 6 ∨ k.toInt = 7 ∨ k.toInt = 8 ∨ k.toInt = 9 ∨ k.toInt = 10 ∨ k.toInt = 11 ∨ k.toInt = 12 ∨ k.toInt = 13 ∨ k.toInt = 14 ∨ k.toInt = 15 ∨ k.toInt = 16 ∨ k.toInt = 17 ∨ k.toInt = 18 ∨ k.toInt = 19 ∨ k.toInt = 20 ∨ k.toInt = 21 ∨ k.toInt = 22 ∨ k.toInt = 23 ∨ k.toInt = 24 ∨ k.toInt = 25 := by omega
  rcases hk with e | e | e | e | e | e | e | e | e | e | e | e | e | e | e | e | e | e | e | e | e | e | e | e | e
  · exact Or.inl (q 1 (by rw [e]; decide))
  · exact Or.inr (Or.inl (q 2 (by rw [e]; decide)))
  · exact Or.inr (Or.inr (Or.inl (q 3 (by rw [e]; decide))))
  · exact Or.inr (Or.inr (Or.inr (Or.inl (q 4 (by rw [e]; decide)))))
  · exact Or.inr (Or.inr (Or.inr (Or.inr (Or.inl (q 5 (by rw [e]; decide))))))
  · exact Or.inr (Or.inr (Or.inr (Or.inr (Or.inr (Or.inl (q 6 (by rw [e]; decide)))))))
  · exact Or.inr (Or.inr (Or.inr (Or.inr (Or.inr (Or.inr (Or.inl (q 7 (by rw [e]; decide))))))))
  · exact Or.inr (Or.inr (Or.inr (Or.inr (Or.inr (Or.inr (Or.inr (Or.inl (q 8 (by rw [e]; decide)))))))))
  · exact Or.inr (Or.inr (Or.inr (Or.inr (Or.inr (Or.inr (Or.inr (Or.inr (Or.inl (q 9 (by rw [e]; decide))))))))))
  · exact Or.inr (Or.inr (Or.inr (Or.inr (Or.inr (Or.inr (Or.inr (Or.inr (Or.inr (Or.inl (q 10 (by rw [e]; decide)))))))))))
  · exact Or.inr (Or.inr (Or.inr (Or.inr (Or.inr (Or.inr (Or.inr (Or.inr (Or.inr (Or.inr (Or.inl (q 11 (by rw [e]; decide))))))))))))
  · exact Or.inr (Or.inr (Or.inr (Or.inr (Or.inr (Or.inr (Or.inr (Or.inr (Or.inr (Or.inr (Or.inr (Or.inl (q 12 (by rw [e]; decide)))))))))))))
  · exact Or.inr (Or.inr (Or.inr (Or.inr (Or.inr (Or.inr (Or.inr (Or.inr (Or.inr (Or.inr (Or.inr (Or.inr (Or.inl (q 13 (by rw [e]; decide))))))))))))))
  · exact Or.inr (Or.inr (Or.inr (Or.inr (Or.inr (Or.inr (Or.inr (Or.inr (Or.inr (Or.inr (Or.inr (Or.inr (Or.inr (Or.inl (q 14 (by rw [e]; decide)))))))))))))))
  · exact Or.inr (Or.inr (Or.inr (Or.inr (Or.inr (Or.inr (Or.inr (Or.inr (Or.inr (Or.inr (Or.inr (Or.inr (Or.inr (Or.inr (Or.inl (q 15 (by rw [e]; decide))))))))))))))))
  · exact Or.inr (Or.inr (Or.inr (Or.inr (Or.inr (Or.inr (Or.inr (Or.inr (Or.inr (Or.inr (Or.inr (Or.inr (Or.inr (Or.inr (Or.inr (Or.inl (q 16 (by rw [e]; decide)))))))))))))))))
  · exact Or.inr (Or.inr (Or.inr (Or.inr (Or.inr (Or.inr (Or.inr (Or.inr (Or.inr (Or.inr (Or.inr (Or.inr (Or.inr (Or.inr (Or.inr (Or.inr (Or.inl (q 17 (by rw [e]; decide))))))))))))))))))
  · exact Or.inr (Or.inr (Or.inr (Or.inr (Or.inr (Or.inr (Or.inr (Or.inr (Or.inr (Or.inr (Or.inr (Or.inr (Or.inr (Or.inr (Or.inr (Or.inr (Or.inr (Or.inl (q 18 (by rw [e]; decide)))))))))))))))))))
  · exact Or.inr (Or.inr (Or.inr (Or.inr (Or.inr (Or.inr (Or.inr (Or.inr (Or.inr (Or.inr (Or.inr (Or.inr (Or.inr (Or.inr (Or.inr (Or.inr (Or.inr (Or.inr (Or.inl (q 19 (by rw [e]; decide))))))))))))))))))))
  · exact Or.inr (Or.inr (Or.inr (Or.inr (Or.inr (Or.inr (Or.inr (Or.inr (Or.inr (Or.inr (Or.inr (Or.inr (Or.inr (Or.inr (Or.inr (Or.inr (Or.inr (Or.inr (Or.inr (Or.inl (q 20 (by rw [e]; decide)))))))))))))))))))))
  · exact Or.inr (Or.inr (Or.inr (Or.inr (Or.inr (Or.inr (Or.inr (Or.inr (Or.inr (Or.inr (Or.inr (Or.inr (Or.inr (Or.inr (Or.inr (Or.inr (Or.inr (Or.inr (Or.inr (Or.inr (Or.inl (q 21 (by rw [e]; decide))))))))))))))))))))))
  · exact Or.inr (Or.inr (Or.inr (Or.inr (Or.inr (Or.inr (Or.inr (Or.inr (Or.inr (Or.inr (Or.inr (Or.inr (Or.inr (Or.inr (Or.inr (Or.inr (Or.inr (Or.inr (Or.inr (Or.inr (Or.inr (Or.inl (q 22 (by rw [e]; decide)))))))))))))))))))))))
  · exact Or.inr (Or.inr (Or.inr (Or.inr (Or.inr (Or.inr (Or.inr (Or.inr (Or.inr (Or.inr (Or.inr (Or.inr (Or.inr (Or.inr (Or.inr (Or.inr (Or.inr (Or.inr (Or.inr (Or.inr (Or.inr (Or.inr (Or.inl (q 23 (by rw [e]; decide))))))))))))))))))))))))
  · exact Or.inr (Or.inr (Or.inr (Or.inr (Or.inr (Or.inr (Or.inr (Or.inr (Or.inr (Or.inr (Or.inr (Or.inr (Or.inr (Or.inr (Or.inr (Or.inr (Or.inr (Or.inr (Or.inr (Or.inr (Or.inr (Or.inr (Or.inr (Or.inl (q 24 (by rw [e]; decide)))))))))))))))))))))))))
  · exact Or.inr (Or.inr (Or.inr (Or.inr (Or.inr (Or.inr (Or.inr (Or.inr (Or.inr (Or.inr (Or.inr (Or.inr (Or.inr (Or.inr (Or.inr (Or.inr (Or.inr (Or.inr (Or.inr (Or.inr (Or.inr (Or.inr (Or.inr (Or.inr (q 25 (by rw [e]; decide)))))))))))))))))))))))))
set_option maxRecDepth 65536 in
set_option maxHeartbeats 40000000 in
theorem comes_1 {Post : Tables → Env → Array Value → State → Outcome → State → Prop} (hpost : ∀ tb e args s v u, (limb_1_1.after args s (.returned v) u = true ∧ limb_1_2.after args s (.returned v) u = true ∧ True) → FrameEnd s (.returned v) u (Jvm.fieldLocs frame_1_writes args s ++ Jvm.arrayLocs frame_1_arrays args s ++ Jvm.staticLocs frame_1_statics s) 0 0 → Post tb e args s (.returned v) u) :
    ArmFor flags0 classFile x code maxLocals ret World_1 tables_1 room_1 Calls_1 rest_1 Pre_1 Post := by
  intro l hfl _ _ p e ha hc hk s m args below hf hA hF happ hP
  obtain ⟨hcalls, hrest, hpre⟩ := hP
  obtain ⟨-, -, -, hnamed, -, -, -, hat⟩ := (Spec.applies_iff hf).mp happ
  obtain ⟨hg, hn⟩ := and_e (Cond.before_iff.mp (show (Jvm.Cond.and given_1 narrow_1).before args s = true from hpre))
  obtain ⟨g0, hg1⟩ := and_e hg
  obtain ⟨g1, hg2⟩ := and_e hg1
  obtain ⟨w0, w1, rfl⟩ : ∃ w0 w1 : Value, args = #[w0, w1] := by
    have hs : args.size = 2 := by simpa [Cond.value, given_1] using g0
    obtain ⟨L⟩ := args
    match L, hs with
    | [w0, w1], _ => exact ⟨w0, w1, rfl⟩
  have hw := fun d (hd : d ∈ tables_1) => atoms_spec (ws := Jvm.Cond.code x code maxLocals ret :: tables_1) hat d (List.mem_cons_of_mem _ hd)
  obtain ⟨i0, ei0⟩ := is_v g1
  obtain rfl : w0 = (.int i0) := Option.some.inj ei0
  obtain ⟨i1, ei1⟩ := is_v hg2
  obtain rfl : w1 = (.int i1) := Option.some.inj ei1
  obtain ⟨c0, hn0⟩ := and_e hn
  obtain ⟨vB, evB⟩ := arr_v c0
  obtain ⟨cl, Ar⟩ := Arr.start evB c0
  have S_BY_ID := Sta.start evB (Or.inr ⟨(hw _ (List.mem_of_getElem? (i := 2) rfl)), (hw _ (List.mem_of_getElem? (i := 5) rfl))⟩)
  obtain ⟨c1, hn1⟩ := and_e hn0
  have lv := eqv_i (Term.int_eval _) c1
  have Sz : cl.slots.size = 26 := own_len evB Ar lv
  obtain ⟨c2, hn2⟩ := and_e hn1
  obtain ⟨v_GUID, ev_GUID⟩ := exa_v c2
  have E_GUID := Exa.start ev_GUID c2
  obtain ⟨c3, hn3⟩ := and_e hn2
  have A_GUID := own_el evB Ar ev_GUID c3
  obtain ⟨c4, hn4⟩ := and_e hn3
  have O_GUID := Fld.start ((fld_at ev_GUID).symm.trans (eqv_i (Term.int_eval _) c4))
  obtain ⟨c5, hn5⟩ := and_e hn4
  obtain ⟨v_INT32, ev_INT32⟩ := exa_v c5
  have E_INT32 := Exa.start ev_INT32 c5
  obtain ⟨c6, hn6⟩ := and_e hn5
  have A_INT32 := own_el evB Ar ev_INT32 c6
  obtain ⟨c7, hn7⟩ := and_e hn6
  have O_INT32 := Fld.start ((fld_at ev_INT32).symm.trans (eqv_i (Term.int_eval _) c7))
  obtain ⟨c8, hn8⟩ := and_e hn7
  obtain ⟨v_INT16, ev_INT16⟩ := exa_v c8
  have E_INT16 := Exa.start ev_INT16 c8
  obtain ⟨c9, hn9⟩ := and_e hn8
  have A_INT16 := own_el evB Ar ev_INT16 c9
  obtain ⟨c10, hn10⟩ := and_e hn9
  have O_INT16 := Fld.start ((fld_at ev_INT16).symm.trans (eqv_i (Term.int_eval _) c10))
  obtain ⟨c11, hn11⟩ := and_e hn10
  obtain ⟨v_INT64, ev_INT64⟩ := exa_v c11
  have E_INT64 := Exa.start ev_INT64 c11
  obtain ⟨c12, hn12⟩ := and_e hn11
  have A_INT64 := own_el evB Ar ev_INT64 c12
  obtain ⟨c13, hn13⟩ := and_e hn12
  have O_INT64 := Fld.start ((fld_at ev_INT64).symm.trans (eqv_i (Term.int_eval _) c13))
  obtain ⟨c14, hn14⟩ := and_e hn13
  obtain ⟨v_STRING, ev_STRING⟩ := exa_v c14
  have E_STRING := Exa.start ev_STRING c14
  obtain ⟨c15, hn15⟩ := and_e hn14
  have A_STRING := own_el evB Ar ev_STRING c15
  obtain ⟨c16, hn16⟩ := and_e hn15
  have O_STRING := Fld.start ((fld_at ev_STRING).symm.trans (eqv_i (Term.int_eval _) c16))
  obtain ⟨c17, hn17⟩ := and_e hn16
  obtain ⟨v_LOCALIZED_TEXT, ev_LOCALIZED_TEXT⟩ := exa_v c17
  have E_LOCALIZED_TEXT := Exa.start ev_LOCALIZED_TEXT c17
  obtain ⟨c18, hn18⟩ := and_e hn17
  have A_LOCALIZED_TEXT := own_el evB Ar ev_LOCALIZED_TEXT c18
  obtain ⟨c19, hn19⟩ := and_e hn18
  have O_LOCALIZED_TEXT := Fld.start ((fld_at ev_LOCALIZED_TEXT).symm.trans (eqv_i (Term.int_eval _) c19))
  obtain ⟨c20, hn20⟩ := and_e hn19
  obtain ⟨v_BYTE, ev_BYTE⟩ := exa_v c20
  have E_BYTE := Exa.start ev_BYTE c20
  obtain ⟨c21, hn21⟩ := and_e hn20
  have A_BYTE := own_el evB Ar ev_BYTE c21
  obtain ⟨c22, hn22⟩ := and_e hn21
  have O_BYTE := Fld.start ((fld_at ev_BYTE).symm.trans (eqv_i (Term.int_eval _) c22))
  obtain ⟨c23, hn23⟩ := and_e hn22
  obtain ⟨v_FLOAT, ev_FLOAT⟩ := exa_v c23
  have E_FLOAT := Exa.start ev_FLOAT c23
  obtain ⟨c24, hn24⟩ := and_e hn23
  have A_FLOAT := own_el evB Ar ev_FLOAT c24
  obtain ⟨c25, hn25⟩ := and_e hn24
  have O_FLOAT := Fld.start ((fld_at ev_FLOAT).symm.trans (eqv_i (Term.int_eval _) c25))
  obtain ⟨c26, hn26⟩ := and_e hn25
  obtain ⟨v_XML_ELEMENT, ev_XML_ELEMENT⟩ := exa_v c26
  have E_XML_ELEMENT := Exa.start ev_XML_ELEMENT c26
  obtain ⟨c27, hn27⟩ := and_e hn26
  have A_XML_ELEMENT := own_el evB Ar ev_XML_ELEMENT c27
  obtain ⟨c28, hn28⟩ := and_e hn27
  have O_XML_ELEMENT := Fld.start ((fld_at ev_XML_ELEMENT).symm.trans (eqv_i (Term.int_eval _) c28))
  obtain ⟨c29, hn29⟩ := and_e hn28
  obtain ⟨v_UINT16, ev_UINT16⟩ := exa_v c29
  have E_UINT16 := Exa.start ev_UINT16 c29
  obtain ⟨c30, hn30⟩ := and_e hn29
  have A_UINT16 := own_el evB Ar ev_UINT16 c30
  obtain ⟨c31, hn31⟩ := and_e hn30
  have O_UINT16 := Fld.start ((fld_at ev_UINT16).symm.trans (eqv_i (Term.int_eval _) c31))
  obtain ⟨c32, hn32⟩ := and_e hn31
  obtain ⟨v_BOOLEAN, ev_BOOLEAN⟩ := exa_v c32
  have E_BOOLEAN := Exa.start ev_BOOLEAN c32
  obtain ⟨c33, hn33⟩ := and_e hn32
  have A_BOOLEAN := own_el evB Ar ev_BOOLEAN c33
  obtain ⟨c34, hn34⟩ := and_e hn33
  have O_BOOLEAN := Fld.start ((fld_at ev_BOOLEAN).symm.trans (eqv_i (Term.int_eval _) c34))
  obtain ⟨c35, hn35⟩ := and_e hn34
  obtain ⟨v_UINT64, ev_UINT64⟩ := exa_v c35
  have E_UINT64 := Exa.start ev_UINT64 c35
  obtain ⟨c36, hn36⟩ := and_e hn35
  have A_UINT64 := own_el evB Ar ev_UINT64 c36
  obtain ⟨c37, hn37⟩ := and_e hn36
  have O_UINT64 := Fld.start ((fld_at ev_UINT64).symm.trans (eqv_i (Term.int_eval _) c37))
  obtain ⟨c38, hn38⟩ := and_e hn37
  obtain ⟨v_EXTENSION_OBJECT, ev_EXTENSION_OBJECT⟩ := exa_v c38
  have E_EXTENSION_OBJECT := Exa.start ev_EXTENSION_OBJECT c38
  obtain ⟨c39, hn39⟩ := and_e hn38
  have A_EXTENSION_OBJECT := own_el evB Ar ev_EXTENSION_OBJECT c39
  obtain ⟨c40, hn40⟩ := and_e hn39
  have O_EXTENSION_OBJECT := Fld.start ((fld_at ev_EXTENSION_OBJECT).symm.trans (eqv_i (Term.int_eval _) c40))
  obtain ⟨c41, hn41⟩ := and_e hn40
  obtain ⟨v_DOUBLE, ev_DOUBLE⟩ := exa_v c41
  have E_DOUBLE := Exa.start ev_DOUBLE c41
  obtain ⟨c42, hn42⟩ := and_e hn41
  have A_DOUBLE := own_el evB Ar ev_DOUBLE c42
  obtain ⟨c43, hn43⟩ := and_e hn42
  have O_DOUBLE := Fld.start ((fld_at ev_DOUBLE).symm.trans (eqv_i (Term.int_eval _) c43))
  obtain ⟨c44, hn44⟩ := and_e hn43
  obtain ⟨v_EXPANDED_NODE_ID, ev_EXPANDED_NODE_ID⟩ := exa_v c44
  have E_EXPANDED_NODE_ID := Exa.start ev_EXPANDED_NODE_ID c44
  obtain ⟨c45, hn45⟩ := and_e hn44
  have A_EXPANDED_NODE_ID := own_el evB Ar ev_EXPANDED_NODE_ID c45
  obtain ⟨c46, hn46⟩ := and_e hn45
  have O_EXPANDED_NODE_ID := Fld.start ((fld_at ev_EXPANDED_NODE_ID).symm.trans (eqv_i (Term.int_eval _) c46))
  obtain ⟨c47, hn47⟩ := and_e hn46
  obtain ⟨v_SBYTE, ev_SBYTE⟩ := exa_v c47
  have E_SBYTE := Exa.start ev_SBYTE c47
  obtain ⟨c48, hn48⟩ := and_e hn47
  have A_SBYTE := own_el evB Ar ev_SBYTE c48
  obtain ⟨c49, hn49⟩ := and_e hn48
  have O_SBYTE := Fld.start ((fld_at ev_SBYTE).symm.trans (eqv_i (Term.int_eval _) c49))
  obtain ⟨c50, hn50⟩ := and_e hn49
  obtain ⟨v_UINT32, ev_UINT32⟩ := exa_v c50
  have E_UINT32 := Exa.start ev_UINT32 c50
  obtain ⟨c51, hn51⟩ := and_e hn50
  have A_UINT32 := own_el evB Ar ev_UINT32 c51
  obtain ⟨c52, hn52⟩ := and_e hn51
  have O_UINT32 := Fld.start ((fld_at ev_UINT32).symm.trans (eqv_i (Term.int_eval _) c52))
  obtain ⟨c53, hn53⟩ := and_e hn52
  obtain ⟨v_QUALIFIED_NAME, ev_QUALIFIED_NAME⟩ := exa_v c53
  have E_QUALIFIED_NAME := Exa.start ev_QUALIFIED_NAME c53
  obtain ⟨c54, hn54⟩ := and_e hn53
  have A_QUALIFIED_NAME := own_el evB Ar ev_QUALIFIED_NAME c54
  obtain ⟨c55, hn55⟩ := and_e hn54
  have O_QUALIFIED_NAME := Fld.start ((fld_at ev_QUALIFIED_NAME).symm.trans (eqv_i (Term.int_eval _) c55))
  obtain ⟨c56, hn56⟩ := and_e hn55
  obtain ⟨v_DIAGNOSTIC_INFO, ev_DIAGNOSTIC_INFO⟩ := exa_v c56
  have E_DIAGNOSTIC_INFO := Exa.start ev_DIAGNOSTIC_INFO c56
  obtain ⟨c57, hn57⟩ := and_e hn56
  have A_DIAGNOSTIC_INFO := own_el evB Ar ev_DIAGNOSTIC_INFO c57
  obtain ⟨c58, hn58⟩ := and_e hn57
  have O_DIAGNOSTIC_INFO := Fld.start ((fld_at ev_DIAGNOSTIC_INFO).symm.trans (eqv_i (Term.int_eval _) c58))
  obtain ⟨c59, hn59⟩ := and_e hn58
  obtain ⟨v_BYTE_STRING, ev_BYTE_STRING⟩ := exa_v c59
  have E_BYTE_STRING := Exa.start ev_BYTE_STRING c59
  obtain ⟨c60, hn60⟩ := and_e hn59
  have A_BYTE_STRING := own_el evB Ar ev_BYTE_STRING c60
  obtain ⟨c61, hn61⟩ := and_e hn60
  have O_BYTE_STRING := Fld.start ((fld_at ev_BYTE_STRING).symm.trans (eqv_i (Term.int_eval _) c61))
  obtain ⟨c62, hn62⟩ := and_e hn61
  obtain ⟨v_STATUS_CODE, ev_STATUS_CODE⟩ := exa_v c62
  have E_STATUS_CODE := Exa.start ev_STATUS_CODE c62
  obtain ⟨c63, hn63⟩ := and_e hn62
  have A_STATUS_CODE := own_el evB Ar ev_STATUS_CODE c63
  obtain ⟨c64, hn64⟩ := and_e hn63
  have O_STATUS_CODE := Fld.start ((fld_at ev_STATUS_CODE).symm.trans (eqv_i (Term.int_eval _) c64))
  obtain ⟨c65, hn65⟩ := and_e hn64
  obtain ⟨v_DATE_TIME, ev_DATE_TIME⟩ := exa_v c65
  have E_DATE_TIME := Exa.start ev_DATE_TIME c65
  obtain ⟨c66, hn66⟩ := and_e hn65
  have A_DATE_TIME := own_el evB Ar ev_DATE_TIME c66
  obtain ⟨c67, hn67⟩ := and_e hn66
  have O_DATE_TIME := Fld.start ((fld_at ev_DATE_TIME).symm.trans (eqv_i (Term.int_eval _) c67))
  obtain ⟨c68, hn68⟩ := and_e hn67
  obtain ⟨v_DATA_VALUE, ev_DATA_VALUE⟩ := exa_v c68
  have E_DATA_VALUE := Exa.start ev_DATA_VALUE c68
  obtain ⟨c69, hn69⟩ := and_e hn68
  have A_DATA_VALUE := own_el evB Ar ev_DATA_VALUE c69
  obtain ⟨c70, hn70⟩ := and_e hn69
  have O_DATA_VALUE := Fld.start ((fld_at ev_DATA_VALUE).symm.trans (eqv_i (Term.int_eval _) c70))
  obtain ⟨c71, hn71⟩ := and_e hn70
  obtain ⟨v_VARIANT, ev_VARIANT⟩ := exa_v c71
  have E_VARIANT := Exa.start ev_VARIANT c71
  obtain ⟨c72, hn72⟩ := and_e hn71
  have A_VARIANT := own_el evB Ar ev_VARIANT c72
  obtain ⟨c73, hn73⟩ := and_e hn72
  have O_VARIANT := Fld.start ((fld_at ev_VARIANT).symm.trans (eqv_i (Term.int_eval _) c73))
  obtain ⟨c74, hn74⟩ := and_e hn73
  obtain ⟨v_NODE_ID, ev_NODE_ID⟩ := exa_v c74
  have E_NODE_ID := Exa.start ev_NODE_ID c74
  obtain ⟨c75, hn75⟩ := and_e hn74
  have A_NODE_ID := own_el evB Ar ev_NODE_ID c75
  obtain ⟨c76, hn76⟩ := and_e hn75
  have O_NODE_ID := Fld.start ((fld_at ev_NODE_ID).symm.trans (eqv_i (Term.int_eval _) c76))
  have hB : ∀ j : Int32, (0 : Int32) < j → j < (26 : Int32) → ∃ t : Addr, cl.slots[(j).toNatClampNeg]? = some (.ref t) ∧ Exa s s.heap t "com/example/pulsekeep/pulsekeep/opcua/UaTypes$BuiltInType" ∧ Fld s s.heap t "com/example/pulsekeep/pulsekeep/opcua/UaTypes$BuiltInType" "id" "I" (.int j) := by
    intro j h1 h2
    rcases own_cases j h1 h2 with rfl | rfl | rfl | rfl | rfl | rfl | rfl | rfl | rfl | rfl | rfl | rfl | rfl | rfl | rfl | rfl | rfl | rfl | rfl | rfl | rfl | rfl | rfl | rfl | rfl
    · exact ⟨_, A_BOOLEAN, E_BOOLEAN, O_BOOLEAN⟩
    · exact ⟨_, A_SBYTE, E_SBYTE, O_SBYTE⟩
    · exact ⟨_, A_BYTE, E_BYTE, O_BYTE⟩
    · exact ⟨_, A_INT16, E_INT16, O_INT16⟩
    · exact ⟨_, A_UINT16, E_UINT16, O_UINT16⟩
    · exact ⟨_, A_INT32, E_INT32, O_INT32⟩
    · exact ⟨_, A_UINT32, E_UINT32, O_UINT32⟩
    · exact ⟨_, A_INT64, E_INT64, O_INT64⟩
    · exact ⟨_, A_UINT64, E_UINT64, O_UINT64⟩
    · exact ⟨_, A_FLOAT, E_FLOAT, O_FLOAT⟩
    · exact ⟨_, A_DOUBLE, E_DOUBLE, O_DOUBLE⟩
    · exact ⟨_, A_STRING, E_STRING, O_STRING⟩
    · exact ⟨_, A_DATE_TIME, E_DATE_TIME, O_DATE_TIME⟩
    · exact ⟨_, A_GUID, E_GUID, O_GUID⟩
    · exact ⟨_, A_BYTE_STRING, E_BYTE_STRING, O_BYTE_STRING⟩
    · exact ⟨_, A_XML_ELEMENT, E_XML_ELEMENT, O_XML_ELEMENT⟩
    · exact ⟨_, A_NODE_ID, E_NODE_ID, O_NODE_ID⟩
    · exact ⟨_, A_EXPANDED_NODE_ID, E_EXPANDED_NODE_ID, O_EXPANDED_NODE_ID⟩
    · exact ⟨_, A_STATUS_CODE, E_STATUS_CODE, O_STATUS_CODE⟩
    · exact ⟨_, A_QUALIFIED_NAME, E_QUALIFIED_NAME, O_QUALIFIED_NAME⟩
    · exact ⟨_, A_LOCALIZED_TEXT, E_LOCALIZED_TEXT, O_LOCALIZED_TEXT⟩
    · exact ⟨_, A_EXTENSION_OBJECT, E_EXTENSION_OBJECT, O_EXTENSION_OBJECT⟩
    · exact ⟨_, A_DATA_VALUE, E_DATA_VALUE, O_DATA_VALUE⟩
    · exact ⟨_, A_VARIANT, E_VARIANT, O_VARIANT⟩
    · exact ⟨_, A_DIAGNOSTIC_INFO, E_DIAGNOSTIC_INFO, O_DIAGNOSTIC_INFO⟩
  obtain ⟨n, o, h1, h2, h3, _, L, rfl, ⟨rfl, N⟩, hq⟩ := rm0 l s _ hw tables_1 i0 i1 vB cl s.heap s.heap.size (Nat.le_refl _) S_BY_ID Ar Sz hB (Old.start s) p e ha hc hk s m _ below hf ((Spec.applies_iff_loose hf).mp happ).1 ⟨rfl, State.Warmed39.refl s, rfl⟩ trivial
  refine ⟨n, _, h1, h2, h3, hpost _ _ _ _ _ _ ⟨Cond.after_iff.mpr rfl, Cond.after_iff.mpr (eq_i res_at (Term.int_eval (1)) rfl), trivial⟩ ⟨hq.1, hq.2.1, (hq.2.2.sift fun y hy => Or.inr (N y hy)).mono (by decide) (by decide)⟩⟩
theorem main_1_1 : Claimed_1_1 := comes_1 fun _ _ _ _ _ _ h hF => ⟨h.1, hF⟩
theorem main_1_2 : Claimed_1_2 := comes_1 fun _ _ _ _ _ _ h hF => ⟨h.2.1, hF⟩
end Jvm.Pilot.@@N@@
namespace Jvm.Pilot.@@N@@
open Jvm Jvm.ClassFile Sem Op Lib Jvm.Free Jvm.Stand Jvm.Pilot.@@N@@.Jvm.D
/-! MADE BY PROGRAM (witnessworld.py) out of the Statement's table words and the real class files: 13 classes; the members and pool entries that the words name. The judged class is class 1, her method 1. -/
namespace start1
open Jvm.ClassFile
def u (s : String) : CpInfo := .utf8 (stringToUtf16 s)
/-- a pool by its gaps: so many unusable entries, then the entry; so many at the end -/
def gap : Nat → List CpInfo → List CpInfo
  | 0, r => r
  | n + 1, r => .unusable :: gap n r
def poolList (es : List (Nat × CpInfo)) (last : Nat) : List CpInfo := es.foldr (fun e r => gap e.1 (e.2 :: r)) (gap last [])
def pool (es : List (Nat × CpInfo)) (last : Nat) : Array CpInfo := ⟨poolList es last⟩
def fileOf (pool : Array CpInfo) (this : Nat) (attrs : Array Attribute := #[]) (ms : Array MethodInfo := #[]) (fl : Nat := 33) (sup : Nat := 0) (ifs : Array Nat := #[]) (fds : Array FieldInfo := #[]) : ClassFile where
  minorVersion := 0
  majorVersion := 65
  constantPool := pool
  accessFlags := fl
  thisClass := this
  superClass := sup
  interfaces := ifs
  fields := fds
  methods := ms
  attributes := attrs
def plain (name : String) (sup : Option ClassId) : Class where
  name := name
  kind := .ordinary
  loader := none
  accessFlags := 33
  super := sup
  interfaces := #[]
  cf := none
  fields := #[]
  methods := #[]
  instanceTypes := #[]
  staticTypes := #[]
  resolved := #[]
  callSites := []
  init := .initialized
  statics := none
  mirror := none

def pool0 : Array CpInfo := pool [(5, u "<init>"), (0, u "()V"), (1, .class_ 10), (1, u "java/lang/Object")] 113

def k0m0 : Method := { name := "<init>", desc := "()V", sig := { parameters := [], returnType := none }, accessFlags := 1, code := none }
/-- java/lang/Object -/
def k0 : Class := { plain "java/lang/Object" none with
  accessFlags := 33
  interfaces := #[]
  cf := some (fileOf pool0 8 #[] #[{ accessFlags := 1, nameIndex := 5, descriptorIndex := 6, attributes := #[] }] 33 0 #[] #[])
  fields := #[]
  methods := #[k0m0]
  instanceTypes := #[]
  staticTypes := #[]
  resolved := Array.replicate 124 none
  statics := none }

def pool1 : Array CpInfo := pool [(2, .class_ 4), (1, u "java/lang/Object"), (0, u "<init>"), (0, u "()V"), (0, .methodref 8 9), (0, .class_ 10), (0, .nameAndType 11 12), (0, u "com/example/pulsekeep/pulsekeep/opcua/UaTypes$BuiltInType"), (0, u "forId"), (0, u "(I)Lcom/example/pulsekeep/pulsekeep/opcua/UaTypes$BuiltInType;"), (0, .methodref 8 14), (0, .nameAndType 15 16), (0, u "id"), (0, u "()I"), (0, .class_ 18), (0, u "com/example/pulsekeep/pulsekeep/opcua/BuiltInTypeForIdPinLaw"), (2, u "law"), (0, u "(II)Z")] 7

def k1m0 : Method := { name := "<init>", desc := "()V", sig := { parameters := [], returnType := none }, accessFlags := 2, code := none }
def k1c1 : Code := { maxStack := 2, maxLocals := 5, code := code, exceptionTable := #[], attributes := #[] }
def k1m1 : Method := { name := "law", desc := "(II)Z", sig := { parameters := [.int, .int], returnType := some .boolean }, accessFlags := 9, code := some k1c1 }
/-- com/example/pulsekeep/pulsekeep/opcua/BuiltInTypeForIdPinLaw -/
def k1 : Class := { plain "com/example/pulsekeep/pulsekeep/opcua/BuiltInTypeForIdPinLaw" (some 0) with
  accessFlags := 49
  interfaces := #[]
  cf := some (fileOf pool1 17 #[] #[{ accessFlags := 2, nameIndex := 5, descriptorIndex := 6, attributes := #[] }, { accessFlags := 9, nameIndex := 21, descriptorIndex := 22, attributes := #[] }] 49 2 #[] #[])
  fields := #[]
  methods := #[k1m0, k1m1]
  instanceTypes := #[]
  staticTypes := #[]
  resolved := Array.replicate 30 none
  statics := none }

def pool2 : Array CpInfo := pool [(1, .class_ 2), (0, u "java/lang/constant/Constable"), (0, .class_ 4), (0, u "java/lang/Object")] 6

/-- java/lang/constant/Constable -/
def k2 : Class := { plain "java/lang/constant/Constable" (some 0) with
  accessFlags := 1537
  interfaces := #[]
  cf := some (fileOf pool2 1 #[] #[] 1537 3 #[] #[])
  fields := #[]
  methods := #[]
  instanceTypes := #[]
  staticTypes := #[]
  resolved := Array.replicate 11 none
  statics := none }

def pool3 : Array CpInfo := pool [(1, .class_ 2), (0, u "java/lang/Comparable"), (0, .class_ 4), (0, u "java/lang/Object")] 7

/-- java/lang/Comparable -/
def k3 : Class := { plain "java/lang/Comparable" (some 0) with
  accessFlags := 1537
  interfaces := #[]
  cf := some (fileOf pool3 1 #[] #[] 1537 3 #[] #[])
  fields := #[]
  methods := #[]
  instanceTypes := #[]
  staticTypes := #[]
  resolved := Array.replicate 12 none
  statics := none }

def pool4 : Array CpInfo := pool [(1, .class_ 2), (0, u "java/io/Serializable"), (0, .class_ 4), (0, u "java/lang/Object")] 2

/-- java/io/Serializable -/
def k4 : Class := { plain "java/io/Serializable" (some 0) with
  accessFlags := 1537
  interfaces := #[]
  cf := some (fileOf pool4 1 #[] #[] 1537 3 #[] #[])
  fields := #[]
  methods := #[]
  instanceTypes := #[]
  staticTypes := #[]
  resolved := Array.replicate 7 none
  statics := none }

def pool5 : Array CpInfo := pool [(2, .class_ 4), (1, u "java/lang/Enum"), (0, u "name"), (0, u "Ljava/lang/String;"), (2, u "ordinal"), (0, u "I"), (1, .class_ 14), (1, u "java/lang/Object"), (4, u "hash"), (86, .class_ 108), (1, u "java/lang/Enum$EnumDesc"), (2, .class_ 112), (0, u "java/lang/constant/Constable"), (0, .class_ 114), (0, u "java/lang/Comparable"), (0, .class_ 116), (0, u "java/io/Serializable")] 87

/-- java/lang/Enum -/
def k5 : Class := { plain "java/lang/Enum" (some 0) with
  accessFlags := 1057
  interfaces := #[2, 3, 4]
  cf := some (fileOf pool5 2 #[.nestMembers #[106]] #[] 1057 12 #[111, 113, 115] #[{ accessFlags := 18, nameIndex := 5, descriptorIndex := 6, attributes := #[] }, { accessFlags := 18, nameIndex := 9, descriptorIndex := 10, attributes := #[] }, { accessFlags := 2, nameIndex := 19, descriptorIndex := 10, attributes := #[] }])
  fields := #[{ name := "name", type := (.object "java/lang/String"), accessFlags := 18, slot := 0, constantValue := 0 }, { name := "ordinal", type := .int, accessFlags := 18, slot := 1, constantValue := 0 }, { name := "hash", type := .int, accessFlags := 2, slot := 2, constantValue := 0 }]
  methods := #[]
  instanceTypes := #[(.object "java/lang/String"), .int, .int]
  staticTypes := #[]
  resolved := Array.replicate 204 none
  statics := none }

def pool6 : Array CpInfo := pool [(1, .class_ 2), (0, u "com/example/pulsekeep/pulsekeep/opcua/UaTypes$BuiltInType"), (2, u "BOOLEAN"), (0, u "Lcom/example/pulsekeep/pulsekeep/opcua/UaTypes$BuiltInType;"), (2, u "SBYTE"), (2, u "BYTE"), (2, u "INT16"), (2, u "UINT16"), (2, u "INT32"), (2, u "UINT32"), (2, u "INT64"), (2, u "UINT64"), (2, u "FLOAT"), (2, u "DOUBLE"), (2, u "STRING"), (2, u "DATE_TIME"), (2, u "GUID"), (2, u "BYTE_STRING"), (2, u "XML_ELEMENT"), (2, u "NODE_ID"), (2, u "EXPANDED_NODE_ID"), (2, u "STATUS_CODE"), (2, u "QUALIFIED_NAME"), (2, u "LOCALIZED_TEXT"), (2, u "EXTENSION_OBJECT"), (2, u "DATA_VALUE"), (2, u "VARIANT"), (2, u "DIAGNOSTIC_INFO"), (2, u "$VALUES"), (0, u "[Lcom/example/pulsekeep/pulsekeep/opcua/UaTypes$BuiltInType;"), (6, .class_ 91), (1, u "java/lang/Enum"), (6, .fieldref 1 99), (0, .nameAndType 100 101), (0, u "id"), (0, u "I"), (2, u "javaClass"), (0, u "Ljava/lang/Class;"), (2, u "minEncodedSize"), (0, .fieldref 1 110), (0, .nameAndType 111 82), (0, u "BY_ID"), (11, u "()I"), (85, u "forId"), (0, u "(I)Lcom/example/pulsekeep/pulsekeep/opcua/UaTypes$BuiltInType;"), (9, .class_ 221), (0, u "com/example/pulsekeep/pulsekeep/opcua/UaTypes")] 10

def k6c0 : Code := { maxStack := 1, maxLocals := 1, code := prog_113_method_4_code, exceptionTable := #[], attributes := #[] }
def k6m0 : Method := { name := "id", desc := "()I", sig := { parameters := [], returnType := some .int }, accessFlags := 0, code := some k6c0 }
def k6c1 : Code := { maxStack := 2, maxLocals := 1, code := prog_113_method_7_code, exceptionTable := #[], attributes := #[] }
def k6m1 : Method := { name := "forId", desc := "(I)Lcom/example/pulsekeep/pulsekeep/opcua/UaTypes$BuiltInType;", sig := { parameters := [.int], returnType := some (.object "com/example/pulsekeep/pulsekeep/opcua/UaTypes$BuiltInType") }, accessFlags := 8, code := some k6c1 }
/-- com/example/pulsekeep/pulsekeep/opcua/UaTypes$BuiltInType -/
def k6 : Class := { plain "com/example/pulsekeep/pulsekeep/opcua/UaTypes$BuiltInType" (some 5) with
  accessFlags := 16432
  interfaces := #[]
  cf := some (fileOf pool6 1 #[.nestHost 220] #[{ accessFlags := 0, nameIndex := 100, descriptorIndex := 123, attributes := #[] }, { accessFlags := 8, nameIndex := 209, descriptorIndex := 210, attributes := #[] }] 16432 89 #[] #[{ accessFlags := 16409, nameIndex := 5, descriptorIndex := 6, attributes := #[] }, { accessFlags := 16409, nameIndex := 9, descriptorIndex := 6, attributes := #[] }, { accessFlags := 16409, nameIndex := 12, descriptorIndex := 6, attributes := #[] }, { accessFlags := 16409, nameIndex := 15, descriptorIndex := 6, attributes := #[] }, { accessFlags := 16409, nameIndex := 18, descriptorIndex := 6, attributes := #[] }, { accessFlags := 16409, nameIndex := 21, descriptorIndex := 6, attributes := #[] }, { accessFlags := 16409, nameIndex := 24, descriptorIndex := 6, attributes := #[] }, { accessFlags := 16409, nameIndex := 27, descriptorIndex := 6, attributes := #[] }, { accessFlags := 16409, nameIndex := 30, descriptorIndex := 6, attributes := #[] }, { accessFlags := 16409, nameIndex := 33, descriptorIndex := 6, attributes := #[] }, { accessFlags := 16409, nameIndex := 36, descriptorIndex := 6, attributes := #[] }, { accessFlags := 16409, nameIndex := 39, descriptorIndex := 6, attributes := #[] }, { accessFlags := 16409, nameIndex := 42, descriptorIndex := 6, attributes := #[] }, { accessFlags := 16409, nameIndex := 45, descriptorIndex := 6, attributes := #[] }, { accessFlags := 16409, nameIndex := 48, descriptorIndex := 6, attributes := #[] }, { accessFlags := 16409, nameIndex := 51, descriptorIndex := 6, attributes := #[] }, { accessFlags := 16409, nameIndex := 54, descriptorIndex := 6, attributes := #[] }, { accessFlags := 16409, nameIndex := 57, descriptorIndex := 6, attributes := #[] }, { accessFlags := 16409, nameIndex := 60, descriptorIndex := 6, attributes := #[] }, { accessFlags := 16409, nameIndex := 63, descriptorIndex := 6, attributes := #[] }, { accessFlags := 16409, nameIndex := 66, descriptorIndex := 6, attributes := #[] }, { accessFlags := 16409, nameIndex := 69, descriptorIndex := 6, attributes := #[] }, { accessFlags := 16409, nameIndex := 72, descriptorIndex := 6, attributes := #[] }, { accessFlags := 16409, nameIndex := 75, descriptorIndex := 6, attributes := #[] }, { accessFlags := 16409, nameIndex := 78, descriptorIndex := 6, attributes := #[] }, { accessFlags := 26, nameIndex := 111, descriptorIndex := 82, attributes := #[] }, { accessFlags := 18, nameIndex := 100, descriptorIndex := 101, attributes := #[] }, { accessFlags := 18, nameIndex := 104, descriptorIndex := 105, attributes := #[] }, { accessFlags := 18, nameIndex := 108, descriptorIndex := 101, attributes := #[] }, { accessFlags := 4122, nameIndex := 81, descriptorIndex := 82, attributes := #[] }])
  fields := #[{ name := "BOOLEAN", type := (.object "com/example/pulsekeep/pulsekeep/opcua/UaTypes$BuiltInType"), accessFlags := 16409, slot := 0, constantValue := 0 }, { name := "SBYTE", type := (.object "com/example/pulsekeep/pulsekeep/opcua/UaTypes$BuiltInType"), accessFlags := 16409, slot := 1, constantValue := 0 }, { name := "BYTE", type := (.object "com/example/pulsekeep/pulsekeep/opcua/UaTypes$BuiltInType"), accessFlags := 16409, slot := 2, constantValue := 0 }, { name := "INT16", type := (.object "com/example/pulsekeep/pulsekeep/opcua/UaTypes$BuiltInType"), accessFlags := 16409, slot := 3, constantValue := 0 }, { name := "UINT16", type := (.object "com/example/pulsekeep/pulsekeep/opcua/UaTypes$BuiltInType"), accessFlags := 16409, slot := 4, constantValue := 0 }, { name := "INT32", type := (.object "com/example/pulsekeep/pulsekeep/opcua/UaTypes$BuiltInType"), accessFlags := 16409, slot := 5, constantValue := 0 }, { name := "UINT32", type := (.object "com/example/pulsekeep/pulsekeep/opcua/UaTypes$BuiltInType"), accessFlags := 16409, slot := 6, constantValue := 0 }, { name := "INT64", type := (.object "com/example/pulsekeep/pulsekeep/opcua/UaTypes$BuiltInType"), accessFlags := 16409, slot := 7, constantValue := 0 }, { name := "UINT64", type := (.object "com/example/pulsekeep/pulsekeep/opcua/UaTypes$BuiltInType"), accessFlags := 16409, slot := 8, constantValue := 0 }, { name := "FLOAT", type := (.object "com/example/pulsekeep/pulsekeep/opcua/UaTypes$BuiltInType"), accessFlags := 16409, slot := 9, constantValue := 0 }, { name := "DOUBLE", type := (.object "com/example/pulsekeep/pulsekeep/opcua/UaTypes$BuiltInType"), accessFlags := 16409, slot := 10, constantValue := 0 }, { name := "STRING", type := (.object "com/example/pulsekeep/pulsekeep/opcua/UaTypes$BuiltInType"), accessFlags := 16409, slot := 11, constantValue := 0 }, { name := "DATE_TIME", type := (.object "com/example/pulsekeep/pulsekeep/opcua/UaTypes$BuiltInType"), accessFlags := 16409, slot := 12, constantValue := 0 }, { name := "GUID", type := (.object "com/example/pulsekeep/pulsekeep/opcua/UaTypes$BuiltInType"), accessFlags := 16409, slot := 13, constantValue := 0 }, { name := "BYTE_STRING", type := (.object "com/example/pulsekeep/pulsekeep/opcua/UaTypes$BuiltInType"), accessFlags := 16409, slot := 14, constantValue := 0 }, { name := "XML_ELEMENT", type := (.object "com/example/pulsekeep/pulsekeep/opcua/UaTypes$BuiltInType"), accessFlags := 16409, slot := 15, constantValue := 0 }, { name := "NODE_ID", type := (.object "com/example/pulsekeep/pulsekeep/opcua/UaTypes$BuiltInType"), accessFlags := 16409, slot := 16, constantValue := 0 }, { name := "EXPANDED_NODE_ID", type := (.object "com/example/pulsekeep/pulsekeep/opcua/UaTypes$BuiltInType"), accessFlags := 16409, slot := 17, constantValue := 0 }, { name := "STATUS_CODE", type := (.object "com/example/pulsekeep/pulsekeep/opcua/UaTypes$BuiltInType"), accessFlags := 16409, slot := 18, constantValue := 0 }, { name := "QUALIFIED_NAME", type := (.object "com/example/pulsekeep/pulsekeep/opcua/UaTypes$BuiltInType"), accessFlags := 16409, slot := 19, constantValue := 0 }, { name := "LOCALIZED_TEXT", type := (.object "com/example/pulsekeep/pulsekeep/opcua/UaTypes$BuiltInType"), accessFlags := 16409, slot := 20, constantValue := 0 }, { name := "EXTENSION_OBJECT", type := (.object "com/example/pulsekeep/pulsekeep/opcua/UaTypes$BuiltInType"), accessFlags := 16409, slot := 21, constantValue := 0 }, { name := "DATA_VALUE", type := (.object "com/example/pulsekeep/pulsekeep/opcua/UaTypes$BuiltInType"), accessFlags := 16409, slot := 22, constantValue := 0 }, { name := "VARIANT", type := (.object "com/example/pulsekeep/pulsekeep/opcua/UaTypes$BuiltInType"), accessFlags := 16409, slot := 23, constantValue := 0 }, { name := "DIAGNOSTIC_INFO", type := (.object "com/example/pulsekeep/pulsekeep/opcua/UaTypes$BuiltInType"), accessFlags := 16409, slot := 24, constantValue := 0 }, { name := "BY_ID", type := (.array (.object "com/example/pulsekeep/pulsekeep/opcua/UaTypes$BuiltInType")), accessFlags := 26, slot := 25, constantValue := 0 }, { name := "id", type := .int, accessFlags := 18, slot := 3, constantValue := 0 }, { name := "javaClass", type := (.object "java/lang/Class"), accessFlags := 18, slot := 4, constantValue := 0 }, { name := "minEncodedSize", type := .int, accessFlags := 18, slot := 5, constantValue := 0 }, { name := "$VALUES", type := (.array (.object "com/example/pulsekeep/pulsekeep/opcua/UaTypes$BuiltInType")), accessFlags := 4122, slot := 26, constantValue := 0 }]
  methods := #[k6m0, k6m1]
  instanceTypes := #[(.object "java/lang/String"), .int, .int, .int, (.object "java/lang/Class"), .int]
  staticTypes := #[(.object "com/example/pulsekeep/pulsekeep/opcua/UaTypes$BuiltInType"), (.object "com/example/pulsekeep/pulsekeep/opcua/UaTypes$BuiltInType"), (.object "com/example/pulsekeep/pulsekeep/opcua/UaTypes$BuiltInType"), (.object "com/example/pulsekeep/pulsekeep/opcua/UaTypes$BuiltInType"), (.object "com/example/pulsekeep/pulsekeep/opcua/UaTypes$BuiltInType"), (.object "com/example/pulsekeep/pulsekeep/opcua/UaTypes$BuiltInType"), (.object "com/example/pulsekeep/pulsekeep/opcua/UaTypes$BuiltInType"), (.object "com/example/pulsekeep/pulsekeep/opcua/UaTypes$BuiltInType"), (.object "com/example/pulsekeep/pulsekeep/opcua/UaTypes$BuiltInType"), (.object "com/example/pulsekeep/pulsekeep/opcua/UaTypes$BuiltInType"), (.object "com/example/pulsekeep/pulsekeep/opcua/UaTypes$BuiltInType"), (.object "com/example/pulsekeep/pulsekeep/opcua/UaTypes$BuiltInType"), (.object "com/example/pulsekeep/pulsekeep/opcua/UaTypes$BuiltInType"), (.object "com/example/pulsekeep/pulsekeep/opcua/UaTypes$BuiltInType"), (.object "com/example/pulsekeep/pulsekeep/opcua/UaTypes$BuiltInType"), (.object "com/example/pulsekeep/pulsekeep/opcua/UaTypes$BuiltInType"), (.object "com/example/pulsekeep/pulsekeep/opcua/UaTypes$BuiltInType"), (.object "com/example/pulsekeep/pulsekeep/opcua/UaTypes$BuiltInType"), (.object "com/example/pulsekeep/pulsekeep/opcua/UaTypes$BuiltInType"), (.object "com/example/pulsekeep/pulsekeep/opcua/UaTypes$BuiltInType"), (.object "com/example/pulsekeep/pulsekeep/opcua/UaTypes$BuiltInType"), (.object "com/example/pulsekeep/pulsekeep/opcua/UaTypes$BuiltInType"), (.object "com/example/pulsekeep/pulsekeep/opcua/UaTypes$BuiltInType"), (.object "com/example/pulsekeep/pulsekeep/opcua/UaTypes$BuiltInType"), (.object "com/example/pulsekeep/pulsekeep/opcua/UaTypes$BuiltInType"), (.array (.object "com/example/pulsekeep/pulsekeep/opcua/UaTypes$BuiltInType")), (.array (.object "com/example/pulsekeep/pulsekeep/opcua/UaTypes$BuiltInType"))]
  resolved := Array.replicate 232 none
  statics := some 0 }

def pool7 : Array CpInfo := pool [(1, u "java/lang/Cloneable"), (0, .class_ 1), (0, u "java/lang/Object"), (0, .class_ 3)] 3

/-- java/lang/Cloneable -/
def k7 : Class := { plain "java/lang/Cloneable" (some 0) with
  accessFlags := 1537
  interfaces := #[]
  cf := some (fileOf pool7 2 #[] #[] 1537 4 #[] #[])
  fields := #[]
  methods := #[]
  instanceTypes := #[]
  staticTypes := #[]
  resolved := Array.replicate 8 none
  statics := none }

/-- the primitive byte -/
def k8 : Class := { plain "byte" none with kind := .primitive 'B', accessFlags := 0x411 }
/-- [B -/
def k9 : Class := { plain "[B" (some 0) with kind := .array 8 .byte, interfaces := #[7, 4], accessFlags := 1041 }

/-- the primitive int -/
def k10 : Class := { plain "int" none with kind := .primitive 'I', accessFlags := 0x411 }
/-- [I -/
def k11 : Class := { plain "[I" (some 0) with kind := .array 10 .int, interfaces := #[7, 4], accessFlags := 1041 }

/-- [Lcom/example/pulsekeep/pulsekeep/opcua/UaTypes$BuiltInType; -/
def k12 : Class := { plain "[Lcom/example/pulsekeep/pulsekeep/opcua/UaTypes$BuiltInType;" (some 0) with kind := .array 6 (.object "com/example/pulsekeep/pulsekeep/opcua/UaTypes$BuiltInType"), interfaces := #[7, 4], accessFlags := 1041 }

def heap : Heap := #[{ cls := 6, slots := #[.ref 2, .ref 3, .ref 4, .ref 5, .ref 6, .ref 7, .ref 8, .ref 9, .ref 10, .ref 11, .ref 12, .ref 13, .ref 14, .ref 15, .ref 16, .ref 17, .ref 18, .ref 19, .ref 20, .ref 21, .ref 22, .ref 23, .ref 24, .ref 25, .ref 26, .ref 1, .null], vm := .statics 6 },
  { cls := 12, slots := #[.null, .ref 2, .ref 3, .ref 4, .ref 5, .ref 6, .ref 7, .ref 8, .ref 9, .ref 10, .ref 11, .ref 12, .ref 13, .ref 14, .ref 15, .ref 16, .ref 17, .ref 18, .ref 19, .ref 20, .ref 21, .ref 22, .ref 23, .ref 24, .ref 25, .ref 26], vm := .none },
  { cls := 6, slots := #[.null, .int 0, .int 0, .int 1, .null, .int 0], vm := .none },
  { cls := 6, slots := #[.null, .int 1, .int 0, .int 2, .null, .int 0], vm := .none },
  { cls := 6, slots := #[.null, .int 2, .int 0, .int 3, .null, .int 0], vm := .none },
  { cls := 6, slots := #[.null, .int 3, .int 0, .int 4, .null, .int 0], vm := .none },
  { cls := 6, slots := #[.null, .int 4, .int 0, .int 5, .null, .int 0], vm := .none },
  { cls := 6, slots := #[.null, .int 5, .int 0, .int 6, .null, .int 0], vm := .none },
  { cls := 6, slots := #[.null, .int 6, .int 0, .int 7, .null, .int 0], vm := .none },
  { cls := 6, slots := #[.null, .int 7, .int 0, .int 8, .null, .int 0], vm := .none },
  { cls := 6, slots := #[.null, .int 8, .int 0, .int 9, .null, .int 0], vm := .none },
  { cls := 6, slots := #[.null, .int 9, .int 0, .int 10, .null, .int 0], vm := .none },
  { cls := 6, slots := #[.null, .int 10, .int 0, .int 11, .null, .int 0], vm := .none },
  { cls := 6, slots := #[.null, .int 11, .int 0, .int 12, .null, .int 0], vm := .none },
  { cls := 6, slots := #[.null, .int 12, .int 0, .int 13, .null, .int 0], vm := .none },
  { cls := 6, slots := #[.null, .int 13, .int 0, .int 14, .null, .int 0], vm := .none },
  { cls := 6, slots := #[.null, .int 14, .int 0, .int 15, .null, .int 0], vm := .none },
  { cls := 6, slots := #[.null, .int 15, .int 0, .int 16, .null, .int 0], vm := .none },
  { cls := 6, slots := #[.null, .int 16, .int 0, .int 17, .null, .int 0], vm := .none },
  { cls := 6, slots := #[.null, .int 17, .int 0, .int 18, .null, .int 0], vm := .none },
  { cls := 6, slots := #[.null, .int 18, .int 0, .int 19, .null, .int 0], vm := .none },
  { cls := 6, slots := #[.null, .int 19, .int 0, .int 20, .null, .int 0], vm := .none },
  { cls := 6, slots := #[.null, .int 20, .int 0, .int 21, .null, .int 0], vm := .none },
  { cls := 6, slots := #[.null, .int 21, .int 0, .int 22, .null, .int 0], vm := .none },
  { cls := 6, slots := #[.null, .int 22, .int 0, .int 23, .null, .int 0], vm := .none },
  { cls := 6, slots := #[.null, .int 23, .int 0, .int 24, .null, .int 0], vm := .none },
  { cls := 6, slots := #[.null, .int 24, .int 0, .int 25, .null, .int 0], vm := .none }]
def classes : Array Class := #[k0, k1, k2, k3, k4, k5, k6, k7, k8, k9, k10, k11, k12]
def interned : List (Array UInt16 × Addr) := []
def slotsUsed : Nat := 203
def theMethod : MethodId := ⟨1, 1⟩
def args0 : Array Value := #[.int 5, .int 1]
def aboutOver (below : List Frame) : State where
  vm := { classes := classes, interned := interned.toArray }
  heap := heap
  slotsUsed := slotsUsed
  threads := #[{ frames := .invoking theMethod args0 :: below }]
def below0 : List Frame := [.native { method := ⟨0, 0⟩, args := #[] }]
def about1 : State := aboutOver below0
def p0 : Program := .bare "" "" ""
def e0 : Env := launch0.env 0 0 0
theorem w_frames : about1.frames = Frame.invoking theMethod args0 :: below0 := rfl
set_option maxRecDepth 65536 in
theorem w_args : argsFit about1.vm theMethod args0 = true := by decide +kernel
set_option maxRecDepth 65536 in
theorem w_heap : heapFits about1 = true := by decide +kernel
set_option maxRecDepth 65536 in
theorem w_runnable : about1.curStatus? = some .runnable := by decide +kernel
set_option maxRecDepth 65536 in
theorem w_alone : about1.alone = true := by decide +kernel
set_option maxRecDepth 65536 in
theorem w_named : about1.methodNamed? x = some theMethod := by decide +kernel
set_option maxRecDepth 65536 in
theorem w_hears : about1.hears theMethod below0 = true := by decide +kernel
set_option maxRecDepth 65536 in
theorem w_ripe : about1.ripe theMethod args0 below0 = true := by decide +kernel
theorem w_running : about1.status = .running := rfl
set_option maxRecDepth 65536 in
theorem w_room : about1.hasRoom e0.platform room_1 = true :=
  launch0.hasRoom_least _ room_1 (by decide +kernel) (by decide +kernel) (by decide +kernel) (by decide +kernel) (by decide +kernel) (by decide +kernel)
theorem allAtoms_all (ts : List Jvm.Cond) (a : Array Jvm.Value) (st : Jvm.State) : (allAtoms ts).before a st = ts.all (fun c => c.before a st) := by
  induction ts with
  | nil => rfl
  | cons c t ih =>
    show (Jvm.Cond.and c (allAtoms t)).before a st = _
    rw [Jvm.Cond.before_and, ih, List.all_cons]
def words1 : List Jvm.Cond := Jvm.Cond.code x code maxLocals ret :: tables_1
/-- a 'code' word, met by the world's own term for the bytes: nothing is compared byte by byte -/
theorem code_word {y : MethodName} {bytes : ByteArray} {mx : Nat} {rt : Option FieldType} {a : Array Value} {s : State} {m : MethodId} {meth : Method} {c : Code} (h1 : s.methodNamed? y = some m) (h2 : s.vm.method? m = some meth) (h3 : meth.code = some c) (h4 : c.code = bytes)
    (h5 : (c.maxLocals == mx && c.exceptionTable.isEmpty && decide (c.maxStack ≤ mostOperands) && decide (meth.sig.returnType = rt) && !meth.locks && decide (parseMethodDescriptor y.desc = some meth.sig)) = true) : (Jvm.Cond.code y bytes mx rt).before a s = true := by
  simp only [Bool.and_eq_true, beq_iff_eq, Bool.not_eq_true', decide_eq_true_eq] at h5
  obtain ⟨⟨⟨⟨⟨g1, g2⟩, g3⟩, g4⟩, g5⟩, g6⟩ := h5
  simp [Cond.before, Cond.holds, Cond.value, h1, h2, h3, h4, g1, g2, g3, g4, g5, g6]
def isCode : Jvm.Cond → Bool
  | .code _ _ _ _ => true
  | _ => false
theorem all_split {L : List Jvm.Cond} {P : Jvm.Cond → Bool} (h1 : L.all (fun c => isCode c || P c) = true) (h2 : ∀ c ∈ L.filter isCode, P c = true) : L.all P = true := by
  refine List.all_eq_true.mpr fun c hc => ?_
  have h := List.all_eq_true.mp h1 c hc
  rcases Bool.eq_false_or_eq_true (isCode c) with hi | hi
  · exact h2 c (List.mem_filter.mpr ⟨hc, hi⟩)
  · simpa [hi] using h
set_option maxRecDepth 65536 in
theorem w_c0 : (Jvm.Cond.code x code maxLocals ret).before args0 about1 = true := code_word (m := ⟨1, 1⟩) (meth := k1m1) (c := k1c1) (by decide +kernel) rfl rfl rfl (by decide +kernel)
set_option maxRecDepth 65536 in
theorem w_c1 : (Jvm.Cond.code ({ cls := "com/example/pulsekeep/pulsekeep/opcua/UaTypes$BuiltInType", name := "forId", desc := "(I)Lcom/example/pulsekeep/pulsekeep/opcua/UaTypes$BuiltInType;" } : Jvm.MethodName) prog_113_method_7_code (1 : Nat) (Option.some (Jvm.ClassFile.FieldType.object "com/example/pulsekeep/pulsekeep/opcua/UaTypes$BuiltInType"))).before args0 about1 = true := code_word (m := ⟨6, 1⟩) (meth := k6m1) (c := k6c1) (by decide +kernel) rfl rfl rfl (by decide +kernel)
set_option maxRecDepth 65536 in
theorem w_c2 : (Jvm.Cond.code ({ cls := "com/example/pulsekeep/pulsekeep/opcua/UaTypes$BuiltInType", name := "id", desc := "()I" } : Jvm.MethodName) prog_113_method_4_code (1 : Nat) (Option.some Jvm.ClassFile.FieldType.int)).before args0 about1 = true := code_word (m := ⟨6, 0⟩) (meth := k6m0) (c := k6c0) (by decide +kernel) rfl rfl rfl (by decide +kernel)
def codes1 : List Jvm.Cond := [Jvm.Cond.code x code maxLocals ret, Jvm.Cond.code ({ cls := "com/example/pulsekeep/pulsekeep/opcua/UaTypes$BuiltInType", name := "forId", desc := "(I)Lcom/example/pulsekeep/pulsekeep/opcua/UaTypes$BuiltInType;" } : Jvm.MethodName) prog_113_method_7_code (1 : Nat) (Option.some (Jvm.ClassFile.FieldType.object "com/example/pulsekeep/pulsekeep/opcua/UaTypes$BuiltInType")), Jvm.Cond.code ({ cls := "com/example/pulsekeep/pulsekeep/opcua/UaTypes$BuiltInType", name := "id", desc := "()I" } : Jvm.MethodName) prog_113_method_4_code (1 : Nat) (Option.some Jvm.ClassFile.FieldType.int)]
set_option maxRecDepth 65536 in
theorem codes_eq : words1.filter isCode = codes1 := rfl
theorem w_codes : ∀ c ∈ words1.filter isCode, c.before args0 about1 = true := by
  rw [codes_eq]
  intro c hc
  simp only [codes1, List.mem_cons, List.not_mem_nil, or_false] at hc
  rcases hc with rfl | rfl | rfl
  · exact w_c0
  · exact w_c1
  · exact w_c2
set_option maxRecDepth 65536 in
theorem w_t1 : (words1.take 24).all (fun c => isCode c || c.before args0 about1) = true := by decide +kernel
set_option maxRecDepth 65536 in
theorem w_t2 : (words1.drop 24).all (fun c => isCode c || c.before args0 about1) = true := by decide +kernel
theorem w_tables : (allAtoms (Jvm.Cond.code x code maxLocals ret :: tables_1)).before args0 about1 = true := by
  rw [allAtoms_all]
  show words1.all (fun c => c.before args0 about1) = true
  refine all_split ?_ w_codes
  rw [← List.take_append_drop 24 words1, List.all_append, w_t1, w_t2]
  rfl
set_option maxRecDepth 65536 in
theorem w_case : (Jvm.Cond.and given_1 narrow_1).before args0 about1 = true := by decide +kernel
theorem w_applies : (headSpec (Jvm.Cond.code x code maxLocals ret :: tables_1) room_1).applies x e0.platform about1 = true :=
  (Spec.applies_iff w_frames).mpr ⟨w_running, w_runnable, w_alone, w_named, w_hears, w_ripe, w_room, w_tables⟩
theorem atStart : AtStart classFile x code maxLocals ret World_1 tables_1 room_1 Calls_1 rest_1 Pre_1 launch0 p0 e0 about1 theMethod args0 below0 :=
  ⟨lists_1, trivial, launch0.admits_env _ _ _, launch0.least_env, fairChoices_fair.cas, fairChoices_fair.clock, w_frames, w_args, w_heap, w_applies, trivial, trivial, w_case⟩
end start1
theorem witness_1 : WitnessClaimed_1 := ⟨start1.p0, start1.e0, start1.about1, start1.theMethod, start1.args0, start1.below0, start1.atStart⟩
end Jvm.Pilot.@@N@@
