import JvmDerived
import JvmDerived.Pilot.@@N@@Statement
import JvmDerived.Pilot.@@N@@Code
set_option linter.unusedVariables false
set_option linter.unusedSimpArgs false
namespace Jvm.Pilot.@@N@@
open Jvm Jvm.ClassFile Sem Op Lib Jvm.Free Jvm.Stand Jvm.LawKit Jvm.RoadKit Bundle Jvm.Pilot.@@N@@.Jvm.D
def Go (p : Program) (e : Env) (below : List Frame) (s : State) (K N : Nat) (Q : Option Value → Heap → List Loc → Prop) (st : State) : Prop :=
  ∃ s₂ o, Steps p.tables e below st s₂ ∧ s₂.status = .running ∧ Ended s₂ below o ∧ ∃ v L, o = .returned v ∧ Q v s₂.heap L ∧ FrameEnd s o s₂ L K N
def Ctx (p : Program) (s : State) (m : MethodId) (meth : Method) (c : Code) (Z : State) (bytes : ByteArray) (maxl : Nat) (own : String) (ret : Option FieldType) : Prop :=
  p.tables.exec = Jvm.exec ∧ Z.Warmed39 s.vm ∧ c.code = bytes ∧ c.maxLocals = maxl ∧ s.vm.findClass own = some m.cls ∧ meth.sig.returnType = ret ∧ meth.locks = false
def QV (w : Value) (h0 : Heap) (n0 : Nat) (v : Option Value) (h : Heap) (L : List Loc) : Prop := v = some w ∧ Fr n0 L ∧ h = h0
section Own
variable {p : Program} {l : Launch} {e : Env} {R : Room} {s : State} {m : MethodId} {args : Array Value} {below : List Frame} {meth : Method} {c : Code} {T : State} {locs : List Loc} {cells slots K N : Nat} {Q : Option Value → Heap → List Loc → Prop} {st st' : State}
theorem Go.pre (h : ∀ t, Steps p.tables e below st' t → Steps p.tables e below st t) (k : Go p e below s K N Q st') : Go p e below s K N Q st := by
  obtain ⟨s₂, o, h1, h2⟩ := k; exact ⟨s₂, o, h _ h1, h2⟩
theorem Go.trans (h : Steps p.tables e below st st') (k : Go p e below s K N Q st') : Go p e below s K N Q st := by
  obtain ⟨s₂, o, h1, h2⟩ := k; exact ⟨s₂, o, h.trans h1, h2⟩
theorem Go.mono {Q' : Option Value → Heap → List Loc → Prop} (k : Go p e below s K N Q st) (h : ∀ v h L, Q v h L → Q' v h L) : Go p e below s K N Q' st := by
  obtain ⟨s₂, o, h1, h2, h3, v, L, h4, h5, h6⟩ := k; exact ⟨s₂, o, h1, h2, h3, v, L, h4, h _ _ _ h5, h6⟩
theorem Go.retN (X : Stand p l e R s m args below meth c T locs cells slots) (hx : p.tables.exec = Jvm.exec) (hlk : meth.locks = false) {pc : Nat} {Ls : Array Slot} {z z' : Int32} {t : FieldType} {rest : List Value} (hret : meth.sig.returnType = some t) (ht : t = .boolean ∨ t = .byte ∨ t = .char ∨ t = .short)
    (hd : decode c.code pc = .ok (.ireturn, 1)) (hz : nar t z = z') (hk : cells ≤ K) (hn : slots ≤ N) (hQ : Q (some (.int z')) T.heap locs) : Go p e below s K N Q (T.setTop (mkF m pc Ls (.int z :: rest))) := by
  subst hz
  obtain ⟨fs, hr, hrun, hended, hW, hsame⟩ := X.leave (v := some (.int (nar t z))) (fun h => by rw [hret] at h; cases h) hlk
  exact ⟨_, _, Jvm.RoadKit.retN X hx hret ht hd hr, hrun, hended, _, _, rfl, hQ, ⟨_, rfl⟩, hW, hsame.mono hk hn⟩
theorem Go.retV (X : Stand p l e R s m args below meth c T locs cells slots) (hx : p.tables.exec = Jvm.exec) (hlk : meth.locks = false) {pc : Nat} {Ls : Array Slot} {w : Value} {t : FieldType} {i : Instr} {rest : List Value} (hret : meth.sig.returnType = some t) (hnr : narrow t w = w)
    (hi : (i = .ireturn ∧ (t = .int ∨ t = .boolean ∨ t = .byte ∨ t = .char ∨ t = .short) ∧ ∃ z, w = .int z) ∨ (i = .lreturn ∧ t = .long ∧ ∃ z, w = .long z) ∨ (i = .dreturn ∧ t = .double ∧ ∃ z, w = .double z) ∨ (i = .freturn ∧ t = .float ∧ ∃ z, w = .float z) ∨ (i = .areturn ∧ t.isReference = true ∧ w.isRef = true))
    (hd : decode c.code pc = .ok (i, 1)) (hk : cells ≤ K) (hn : slots ≤ N) (hQ : Q (some w) T.heap locs) : Go p e below s K N Q (T.setTop (mkF m pc Ls (w :: rest))) := by
  obtain ⟨fs, hr, hrun, hended, hW, hsame⟩ := X.leave (v := some w) (fun h => by rw [hret] at h; cases h) hlk
  exact ⟨_, _, retOut X hx hret hnr hi hd hr, hrun, hended, _, _, rfl, hQ, ⟨_, rfl⟩, hW, hsame.mono hk hn⟩
theorem Go.ret0 (X : Stand p l e R s m args below meth c T locs cells slots) (hx : p.tables.exec = Jvm.exec) (hlk : meth.locks = false) {pc : Nat} {Ls : Array Slot} (hret : meth.sig.returnType = none)
    (hd : decode c.code pc = .ok (.return_, 1)) (hk : cells ≤ K) (hn : slots ≤ N) (hQ : Q none T.heap locs) : Go p e below s K N Q (T.setTop (mkF m pc Ls [])) := by
  obtain ⟨fs, hr, hrun, hended, hW, hsame⟩ := X.leave (v := none) (fun _ => rfl) hlk
  exact ⟨_, _, X.returnOut hx hret hd hr, hrun, hended, _, _, rfl, hQ, ⟨_, rfl⟩, hW, hsame.mono hk hn⟩
end Own

def KF (Z : State) (h0 h : Heap) (ps : List (Addr × Nat)) : Prop := ∀ (b : Addr) (O n d : String) (w : Value), Fld Z h0 b O n d w → (∀ p ∈ ps, b ≠ p.1 ∨ Jvm.RoadKit.slotOf Z O n d ≠ p.2) → Fld Z h b O n d w
theorem KF.refl (Z : State) (h0 : Heap) (ps : List (Addr × Nat)) : KF Z h0 h0 ps := fun _ _ _ _ _ F _ => F
theorem KF.ext {Z : State} {h0 h h' : Heap} {ps : List (Addr × Nat)} (K : KF Z h0 h ps) (E : Ext h h') : KF Z h0 h' ps := fun b O n d w F q => (K b O n d w F q).ext E
theorem KF.wr {Z : State} {h0 h h' : Heap} {ps : List (Addr × Nat)} {a : Addr} {sl : Nat} {v : Value} (K : KF Z h0 h ps) (W : Wr h h' a sl v) (q : (a, sl) ∈ ps ∨ h0.size ≤ a) : KF Z h0 h' ps := fun b O n d w F r => by
  refine (K b O n d w F r).other W ?_
  rcases q with q | q
  · exact r _ q
  · exact Or.inl (Nat.ne_of_lt (Nat.lt_of_lt_of_le F.lt q))
theorem KF.trans {Z : State} {h0 h h' : Heap} {ps ps' : List (Addr × Nat)} (K : KF Z h0 h ps) (K' : KF Z h h' ps') (q : ∀ p ∈ ps', p ∈ ps ∨ h0.size ≤ p.1) : KF Z h0 h' ps := fun b O n d w F r => by
  refine K' b O n d w (K b O n d w F r) fun p hp => ?_
  rcases q p hp with q | q
  · exact r _ q
  · exact Or.inl (Nat.ne_of_lt (Nat.lt_of_lt_of_le F.lt q))
theorem pall0 {P : Addr × Nat → Prop} : ∀ x ∈ ([] : List (Addr × Nat)), P x := fun _ q => nomatch q
theorem pallS {P : Addr × Nat → Prop} {y : Addr × Nat} {L : List (Addr × Nat)} (q : P y) (r : ∀ x ∈ L, P x) : ∀ x ∈ y :: L, P x := fun x z => (List.mem_cons.mp z).elim (fun u => u ▸ q) (r x)
theorem padS {p : Program} {l : Launch} {e : Env} {R : Room} {s : State} {m : MethodId} {args : Array Value} {below : List Frame} {meth : Method} {c : Code} {T : State} {locs : List Loc} {k n k' n' : Nat} (X : Stand p l e R s m args below meth c T locs k n) (h1 : k ≤ k') (h2 : n ≤ n') : Stand p l e R s m args below meth c T locs k' n' :=
  ⟨X.admits, X.cas, X.clock, X.frames, X.room, X.hears, X.method, X.code, X.here, X.tail, X.warmed, X.limits, X.bytes, X.same.mono h1 h2⟩
theorem and11 (x : Int32) : nar .boolean (x &&& 1) = x &&& 1 := by
  show x &&& 1 &&& 1 = x &&& 1
  rw [Int32.and_assoc]; rfl
theorem fits_and1 (x : Int32) : fits .boolean (.int (x &&& 1)) = true := fits_nar_bool x
theorem narV {C : String} {v : Value} (h : v.isRef = true) : narrow (.object C) v = v := by rcases ref_cases h with rfl | ⟨a, rfl⟩ <;> rfl
theorem fitV {C : String} {v : Value} (h : v.isRef = true) : fits (.object C) v = true := by rcases ref_cases h with rfl | ⟨a, rfl⟩ <;> rfl

theorem d1_0 : decode prog_111_method_2_code 0 = .ok (.iload_n 0, 1) := by decide +kernel
theorem d1_1 : decode prog_111_method_2_code 1 = .ok (.bipush 32, 2) := by decide +kernel
theorem d1_3 : decode prog_111_method_2_code 3 = .ok (.if_icmp .lt 41, 3) := by decide +kernel
theorem d1_6 : decode prog_111_method_2_code 6 = .ok (.iload_n 0, 1) := by decide +kernel
theorem d1_7 : decode prog_111_method_2_code 7 = .ok (.ldc 7, 2) := by decide +kernel
theorem d1_9 : decode prog_111_method_2_code 9 = .ok (.if_icmp .le 27, 3) := by decide +kernel
theorem d1_12 : decode prog_111_method_2_code 12 = .ok (.ldc 8, 2) := by decide +kernel
theorem d1_14 : decode prog_111_method_2_code 14 = .ok (.iload_n 0, 1) := by decide +kernel
theorem d1_15 : decode prog_111_method_2_code 15 = .ok (.if_icmp .gt 9, 3) := by decide +kernel
theorem d1_18 : decode prog_111_method_2_code 18 = .ok (.iload_n 0, 1) := by decide +kernel
theorem d1_19 : decode prog_111_method_2_code 19 = .ok (.ldc 9, 2) := by decide +kernel
theorem d1_21 : decode prog_111_method_2_code 21 = .ok (.if_icmp .le 15, 3) := by decide +kernel
theorem d1_24 : decode prog_111_method_2_code 24 = .ok (.ldc 10, 2) := by decide +kernel
theorem d1_26 : decode prog_111_method_2_code 26 = .ok (.iload_n 0, 1) := by decide +kernel
theorem d1_27 : decode prog_111_method_2_code 27 = .ok (.if_icmp .gt 13, 3) := by decide +kernel
theorem d1_30 : decode prog_111_method_2_code 30 = .ok (.iload_n 0, 1) := by decide +kernel
theorem d1_31 : decode prog_111_method_2_code 31 = .ok (.ldc 11, 2) := by decide +kernel
theorem d1_33 : decode prog_111_method_2_code 33 = .ok (.if_icmp .gt 7, 3) := by decide +kernel
theorem d1_36 : decode prog_111_method_2_code 36 = .ok (.iconst 1, 1) := by decide +kernel
theorem d1_37 : decode prog_111_method_2_code 37 = .ok (.goto 30, 3) := by decide +kernel
theorem d1_40 : decode prog_111_method_2_code 40 = .ok (.iconst 0, 1) := by decide +kernel
theorem d1_41 : decode prog_111_method_2_code 41 = .ok (.goto 26, 3) := by decide +kernel
theorem d1_44 : decode prog_111_method_2_code 44 = .ok (.iload_n 0, 1) := by decide +kernel
theorem d1_45 : decode prog_111_method_2_code 45 = .ok (.bipush 9, 2) := by decide +kernel
theorem d1_47 : decode prog_111_method_2_code 47 = .ok (.if_icmp .eq 15, 3) := by decide +kernel
theorem d1_50 : decode prog_111_method_2_code 50 = .ok (.iload_n 0, 1) := by decide +kernel
theorem d1_51 : decode prog_111_method_2_code 51 = .ok (.bipush 10, 2) := by decide +kernel
theorem d1_53 : decode prog_111_method_2_code 53 = .ok (.if_icmp .eq 9, 3) := by decide +kernel
theorem d1_56 : decode prog_111_method_2_code 56 = .ok (.iload_n 0, 1) := by decide +kernel
theorem d1_57 : decode prog_111_method_2_code 57 = .ok (.bipush 13, 2) := by decide +kernel
theorem d1_59 : decode prog_111_method_2_code 59 = .ok (.if_icmp .ne 7, 3) := by decide +kernel
theorem d1_62 : decode prog_111_method_2_code 62 = .ok (.iconst 1, 1) := by decide +kernel
theorem d1_63 : decode prog_111_method_2_code 63 = .ok (.goto 4, 3) := by decide +kernel
theorem d1_66 : decode prog_111_method_2_code 66 = .ok (.iconst 0, 1) := by decide +kernel
theorem d1_67 : decode prog_111_method_2_code 67 = .ok (.ireturn, 1) := by decide +kernel
theorem pn_1 : plainName site_108.cls = true := by first | (simp [plainName, overriddenIn]; done) | decide +kernel
theorem ef_1 (m : MethodId) (x0 : Int32) : entryFrame m #[(.int x0)] 1 = (mkF m 0 #[.val (.int x0)] []) := by first | (simp [entryFrame, mkF, argsToLocals, Value.category]; done) | rfl
def f1_67 (i0 : Int32) (t0 : Int32) : Int32 := (t0 &&& 1)
def f1_62 (i0 : Int32) : Int32 := f1_67 i0 (1 : Int32)
def f1_36 (i0 : Int32) : Int32 := f1_67 i0 (1 : Int32)
def f1_40 (i0 : Int32) : Int32 := f1_67 i0 (0 : Int32)
def f1_24 (i0 : Int32) : Int32 := (if i0 < (65536 : Int32) then f1_40 i0 else (if (1114111 : Int32) < i0 then f1_40 i0 else f1_36 i0))
def f1_0 (i0 : Int32) : Int32 := (if i0 < (32 : Int32) then (if i0 = (9 : Int32) then f1_62 i0 else (if i0 = (10 : Int32) then f1_62 i0 else (if i0 = (13 : Int32) then f1_62 i0 else f1_67 i0 (0 : Int32)))) else (if (55295 : Int32) < i0 then (if i0 < (57344 : Int32) then f1_24 i0 else (if (65533 : Int32) < i0 then f1_24 i0 else f1_36 i0)) else f1_36 i0))
set_option maxRecDepth 65536 in
set_option maxHeartbeats 40000000 in
theorem b1_67 {p : Program} {l : Launch} {e : Env} {s : State} {m : MethodId} {args : Array Value} {below : List Frame} {meth : Method} {c : Code} {Z : State} {a0 : Array Value} {T : State} {locs : List Loc} {h0 : Heap} {n0 : Nat} (C : Ctx p s m meth c Z prog_111_method_2_code 1 site_108.cls (some .boolean)) (hw : ∀ d ∈ tables_1, d.before a0 Z = true)
    (X : Stand p l e ({ frames := 0, cells := 0, slots := 0, locals := 0 } : Room) s m args below meth c T locs 0 0) (eT : T.heap = h0) (NL : Fr n0 locs) (i0 : Int32) (t0 : Int32) :
    Go p e below s 0 0 (QV (.int (f1_67 i0 t0)) h0 n0) (T.setTop (mkF m 67 #[.val (.int i0)] [(.int t0)])) := by
  obtain ⟨hx, hZ, hby, hml, hown, hrt, hlk⟩ := id C
  unfold f1_67
  exact Go.retN X hx hlk hrt (by simp) (hb hby d1_67) rfl (Nat.le_refl _) (Nat.le_refl _) ⟨rfl, NL, eT⟩
set_option maxRecDepth 65536 in
set_option maxHeartbeats 40000000 in
theorem b1_62 {p : Program} {l : Launch} {e : Env} {s : State} {m : MethodId} {args : Array Value} {below : List Frame} {meth : Method} {c : Code} {Z : State} {a0 : Array Value} {T : State} {locs : List Loc} {h0 : Heap} {n0 : Nat} (C : Ctx p s m meth c Z prog_111_method_2_code 1 site_108.cls (some .boolean)) (hw : ∀ d ∈ tables_1, d.before a0 Z = true)
    (X : Stand p l e ({ frames := 0, cells := 0, slots := 0, locals := 0 } : Room) s m args below meth c T locs 0 0) (eT : T.heap = h0) (NL : Fr n0 locs) (i0 : Int32) :
    Go p e below s 0 0 (QV (.int (f1_62 i0)) h0 n0) (T.setTop (mkF m 62 #[.val (.int i0)] [])) := by
  obtain ⟨hx, hZ, hby, hml, hown, hrt, hlk⟩ := id C
  unfold f1_62
  refine Go.pre (st' := T.setTop (mkF m 67 #[.val (.int i0)] [(.int (1 : Int32))])) (fun target kt => ?_) ?_
  · show Steps p.tables e below (T.setTop (mkF m 62 #[.val (.int i0)] [])) _
    refine XS.iconst X.here hx rfl (hb hby d1_62) ?_
    show Steps p.tables e below (T.setTop (mkF m 63 #[.val (.int i0)] [(.int (1 : Int32))])) _
    refine XS.goto X.here hx rfl (pc0 := 63) (pc' := 67) rfl (hb hby d1_63) (by decide) (by decide) ?_
    exact kt
  exact b1_67 C hw X eT NL i0 (1 : Int32)
set_option maxRecDepth 65536 in
set_option maxHeartbeats 40000000 in
theorem b1_36 {p : Program} {l : Launch} {e : Env} {s : State} {m : MethodId} {args : Array Value} {below : List Frame} {meth : Method} {c : Code} {Z : State} {a0 : Array Value} {T : State} {locs : List Loc} {h0 : Heap} {n0 : Nat} (C : Ctx p s m meth c Z prog_111_method_2_code 1 site_108.cls (some .boolean)) (hw : ∀ d ∈ tables_1, d.before a0 Z = true)
    (X : Stand p l e ({ frames := 0, cells := 0, slots := 0, locals := 0 } : Room) s m args below meth c T locs 0 0) (eT : T.heap = h0) (NL : Fr n0 locs) (i0 : Int32) :
    Go p e below s 0 0 (QV (.int (f1_36 i0)) h0 n0) (T.setTop (mkF m 36 #[.val (.int i0)] [])) := by
  obtain ⟨hx, hZ, hby, hml, hown, hrt, hlk⟩ := id C
  unfold f1_36
  refine Go.pre (st' := T.setTop (mkF m 67 #[.val (.int i0)] [(.int (1 : Int32))])) (fun target kt => ?_) ?_
  · show Steps p.tables e below (T.setTop (mkF m 36 #[.val (.int i0)] [])) _
    refine XS.iconst X.here hx rfl (hb hby d1_36) ?_
    show Steps p.tables e below (T.setTop (mkF m 37 #[.val (.int i0)] [(.int (1 : Int32))])) _
    refine XS.goto X.here hx rfl (pc0 := 37) (pc' := 67) rfl (hb hby d1_37) (by decide) (by decide) ?_
    exact kt
  exact b1_67 C hw X eT NL i0 (1 : Int32)
set_option maxRecDepth 65536 in
set_option maxHeartbeats 40000000 in
theorem b1_40 {p : Program} {l : Launch} {e : Env} {s : State} {m : MethodId} {args : Array Value} {below : List Frame} {meth : Method} {c : Code} {Z : State} {a0 : Array Value} {T : State} {locs : List Loc} {h0 : Heap} {n0 : Nat} (C : Ctx p s m meth c Z prog_111_method_2_code 1 site_108.cls (some .boolean)) (hw : ∀ d ∈ tables_1, d.before a0 Z = true)
    (X : Stand p l e ({ frames := 0, cells := 0, slots := 0, locals := 0 } : Room) s m args below meth c T locs 0 0) (eT : T.heap = h0) (NL : Fr n0 locs) (i0 : Int32) :
    Go p e below s 0 0 (QV (.int (f1_40 i0)) h0 n0) (T.setTop (mkF m 40 #[.val (.int i0)] [])) := by
  obtain ⟨hx, hZ, hby, hml, hown, hrt, hlk⟩ := id C
  unfold f1_40
  refine Go.pre (st' := T.setTop (mkF m 67 #[.val (.int i0)] [(.int (0 : Int32))])) (fun target kt => ?_) ?_
  · show Steps p.tables e below (T.setTop (mkF m 40 #[.val (.int i0)] [])) _
    refine XS.iconst X.here hx rfl (hb hby d1_40) ?_
    show Steps p.tables e below (T.setTop (mkF m 41 #[.val (.int i0)] [(.int (0 : Int32))])) _
    refine XS.goto X.here hx rfl (pc0 := 41) (pc' := 67) rfl (hb hby d1_41) (by decide) (by decide) ?_
    exact kt
  exact b1_67 C hw X eT NL i0 (0 : Int32)
set_option maxRecDepth 65536 in
set_option maxHeartbeats 40000000 in
theorem b1_24 {p : Program} {l : Launch} {e : Env} {s : State} {m : MethodId} {args : Array Value} {below : List Frame} {meth : Method} {c : Code} {Z : State} {a0 : Array Value} {T : State} {locs : List Loc} {h0 : Heap} {n0 : Nat} (C : Ctx p s m meth c Z prog_111_method_2_code 1 site_108.cls (some .boolean)) (hw : ∀ d ∈ tables_1, d.before a0 Z = true)
    (X : Stand p l e ({ frames := 0, cells := 0, slots := 0, locals := 0 } : Room) s m args below meth c T locs 0 0) (eT : T.heap = h0) (NL : Fr n0 locs) (i0 : Int32) :
    Go p e below s 0 0 (QV (.int (f1_24 i0)) h0 n0) (T.setTop (mkF m 24 #[.val (.int i0)] [])) := by
  obtain ⟨hx, hZ, hby, hml, hown, hrt, hlk⟩ := id C
  unfold f1_24
  refine Go.pre (st' := T.setTop (mkF m 27 #[.val (.int i0)] [(.int i0), (.int (65536 : Int32))])) (fun target kt => ?_) ?_
  · show Steps p.tables e below (T.setTop (mkF m 24 #[.val (.int i0)] [])) _
    refine X.ldcInt hx hown (mvT hZ (hw _ (List.mem_of_getElem? (i := 22) rfl))) (g := (mkF m 24 #[.val (.int i0)] [])) rfl (hb hby d1_24) _ ?_
    show Steps p.tables e below (T.setTop (mkF m 26 #[.val (.int i0)] [(.int (65536 : Int32))])) _
    refine XS.iloadN X.here hx rfl (hb hby d1_26) rfl ?_
    exact kt
  by_cases h27 : i0 < (65536 : Int32)
  · rw [if_pos h27]
    refine Go.pre (st' := T.setTop (mkF m 40 #[.val (.int i0)] [])) (fun target kt => ?_) ?_
    · show Steps p.tables e below (T.setTop (mkF m 27 #[.val (.int i0)] [(.int i0), (.int (65536 : Int32))])) _
      refine XS.icmpYes X.here hx rfl (pc0 := 27) (pc' := 40) rfl (hb hby d1_27) rfl (tlt h27).2.2.1 (by decide) (by decide) ?_
      exact kt
    exact b1_40 C hw X eT NL i0
  · rw [if_neg h27]
    refine Go.pre (st' := T.setTop (mkF m 30 #[.val (.int i0)] [])) (fun target kt => ?_) ?_
    · show Steps p.tables e below (T.setTop (mkF m 27 #[.val (.int i0)] [(.int i0), (.int (65536 : Int32))])) _
      refine XS.icmpNo X.here hx rfl (hb hby d1_27) rfl (flt h27).2.2.1 ?_
      exact kt
    refine Go.pre (st' := T.setTop (mkF m 33 #[.val (.int i0)] [(.int (1114111 : Int32)), (.int i0)])) (fun target kt => ?_) ?_
    · show Steps p.tables e below (T.setTop (mkF m 30 #[.val (.int i0)] [])) _
      refine XS.iloadN X.here hx rfl (hb hby d1_30) rfl ?_
      show Steps p.tables e below (T.setTop (mkF m 31 #[.val (.int i0)] [(.int i0)])) _
      refine X.ldcInt hx hown (mvT hZ (hw _ (List.mem_of_getElem? (i := 23) rfl))) (g := (mkF m 31 #[.val (.int i0)] [(.int i0)])) rfl (hb hby d1_31) _ ?_
      exact kt
    by_cases h33 : (1114111 : Int32) < i0
    · rw [if_pos h33]
      refine Go.pre (st' := T.setTop (mkF m 40 #[.val (.int i0)] [])) (fun target kt => ?_) ?_
      · show Steps p.tables e below (T.setTop (mkF m 33 #[.val (.int i0)] [(.int (1114111 : Int32)), (.int i0)])) _
        refine XS.icmpYes X.here hx rfl (pc0 := 33) (pc' := 40) rfl (hb hby d1_33) rfl (tlt h33).2.2.1 (by decide) (by decide) ?_
        exact kt
      exact b1_40 C hw X eT NL i0
    · rw [if_neg h33]
      refine Go.pre (st' := T.setTop (mkF m 36 #[.val (.int i0)] [])) (fun target kt => ?_) ?_
      · show Steps p.tables e below (T.setTop (mkF m 33 #[.val (.int i0)] [(.int (1114111 : Int32)), (.int i0)])) _
        refine XS.icmpNo X.here hx rfl (hb hby d1_33) rfl (flt h33).2.2.1 ?_
        exact kt
      exact b1_36 C hw X eT NL i0
set_option maxRecDepth 65536 in
set_option maxHeartbeats 40000000 in
theorem b1_0 {p : Program} {l : Launch} {e : Env} {s : State} {m : MethodId} {args : Array Value} {below : List Frame} {meth : Method} {c : Code} {Z : State} {a0 : Array Value} {T : State} {locs : List Loc} {h0 : Heap} {n0 : Nat} (C : Ctx p s m meth c Z prog_111_method_2_code 1 site_108.cls (some .boolean)) (hw : ∀ d ∈ tables_1, d.before a0 Z = true)
    (X : Stand p l e ({ frames := 0, cells := 0, slots := 0, locals := 0 } : Room) s m args below meth c T locs 0 0) (eT : T.heap = h0) (NL : Fr n0 locs) (i0 : Int32) :
    Go p e below s 0 0 (QV (.int (f1_0 i0)) h0 n0) (T.setTop (mkF m 0 #[.val (.int i0)] [])) := by
  obtain ⟨hx, hZ, hby, hml, hown, hrt, hlk⟩ := id C
  unfold f1_0
  refine Go.pre (st' := T.setTop (mkF m 3 #[.val (.int i0)] [(.int (32 : Int32)), (.int i0)])) (fun target kt => ?_) ?_
  · show Steps p.tables e below (T.setTop (mkF m 0 #[.val (.int i0)] [])) _
    refine XS.iloadN X.here hx rfl (hb hby d1_0) rfl ?_
    show Steps p.tables e below (T.setTop (mkF m 1 #[.val (.int i0)] [(.int i0)])) _
    refine XS.bipush X.here hx rfl (hb hby d1_1) ?_
    exact kt
  by_cases h3 : i0 < (32 : Int32)
  · rw [if_pos h3]
    refine Go.pre (st' := T.setTop (mkF m 44 #[.val (.int i0)] [])) (fun target kt => ?_) ?_
    · show Steps p.tables e below (T.setTop (mkF m 3 #[.val (.int i0)] [(.int (32 : Int32)), (.int i0)])) _
      refine XS.icmpYes X.here hx rfl (pc0 := 3) (pc' := 44) rfl (hb hby d1_3) rfl (tlt h3).1 (by decide) (by decide) ?_
      exact kt
    refine Go.pre (st' := T.setTop (mkF m 47 #[.val (.int i0)] [(.int (9 : Int32)), (.int i0)])) (fun target kt => ?_) ?_
    · show Steps p.tables e below (T.setTop (mkF m 44 #[.val (.int i0)] [])) _
      refine XS.iloadN X.here hx rfl (hb hby d1_44) rfl ?_
      show Steps p.tables e below (T.setTop (mkF m 45 #[.val (.int i0)] [(.int i0)])) _
      refine XS.bipush X.here hx rfl (hb hby d1_45) ?_
      exact kt
    by_cases h47 : i0 = (9 : Int32)
    · rw [if_pos h47]
      refine Go.pre (st' := T.setTop (mkF m 62 #[.val (.int i0)] [])) (fun target kt => ?_) ?_
      · show Steps p.tables e below (T.setTop (mkF m 47 #[.val (.int i0)] [(.int (9 : Int32)), (.int i0)])) _
        refine XS.icmpYes X.here hx rfl (pc0 := 47) (pc' := 62) rfl (hb hby d1_47) rfl (teq h47).1 (by decide) (by decide) ?_
        exact kt
      exact b1_62 C hw X eT NL i0
    · rw [if_neg h47]
      refine Go.pre (st' := T.setTop (mkF m 50 #[.val (.int i0)] [])) (fun target kt => ?_) ?_
      · show Steps p.tables e below (T.setTop (mkF m 47 #[.val (.int i0)] [(.int (9 : Int32)), (.int i0)])) _
        refine XS.icmpNo X.here hx rfl (hb hby d1_47) rfl (feq h47).1 ?_
        exact kt
      refine Go.pre (st' := T.setTop (mkF m 53 #[.val (.int i0)] [(.int (10 : Int32)), (.int i0)])) (fun target kt => ?_) ?_
      · show Steps p.tables e below (T.setTop (mkF m 50 #[.val (.int i0)] [])) _
        refine XS.iloadN X.here hx rfl (hb hby d1_50) rfl ?_
        show Steps p.tables e below (T.setTop (mkF m 51 #[.val (.int i0)] [(.int i0)])) _
        refine XS.bipush X.here hx rfl (hb hby d1_51) ?_
        exact kt
      by_cases h53 : i0 = (10 : Int32)
      · rw [if_pos h53]
        refine Go.pre (st' := T.setTop (mkF m 62 #[.val (.int i0)] [])) (fun target kt => ?_) ?_
        · show Steps p.tables e below (T.setTop (mkF m 53 #[.val (.int i0)] [(.int (10 : Int32)), (.int i0)])) _
          refine XS.icmpYes X.here hx rfl (pc0 := 53) (pc' := 62) rfl (hb hby d1_53) rfl (teq h53).1 (by decide) (by decide) ?_
          exact kt
        exact b1_62 C hw X eT NL i0
      · rw [if_neg h53]
        refine Go.pre (st' := T.setTop (mkF m 56 #[.val (.int i0)] [])) (fun target kt => ?_) ?_
        · show Steps p.tables e below (T.setTop (mkF m 53 #[.val (.int i0)] [(.int (10 : Int32)), (.int i0)])) _
          refine XS.icmpNo X.here hx rfl (hb hby d1_53) rfl (feq h53).1 ?_
          exact kt
        refine Go.pre (st' := T.setTop (mkF m 59 #[.val (.int i0)] [(.int (13 : Int32)), (.int i0)])) (fun target kt => ?_) ?_
        · show Steps p.tables e below (T.setTop (mkF m 56 #[.val (.int i0)] [])) _
          refine XS.iloadN X.here hx rfl (hb hby d1_56) rfl ?_
          show Steps p.tables e below (T.setTop (mkF m 57 #[.val (.int i0)] [(.int i0)])) _
          refine XS.bipush X.here hx rfl (hb hby d1_57) ?_
          exact kt
        by_cases h59 : i0 = (13 : Int32)
        · rw [if_pos h59]
          refine Go.pre (st' := T.setTop (mkF m 62 #[.val (.int i0)] [])) (fun target kt => ?_) ?_
          · show Steps p.tables e below (T.setTop (mkF m 59 #[.val (.int i0)] [(.int (13 : Int32)), (.int i0)])) _
            refine XS.icmpNo X.here hx rfl (hb hby d1_59) rfl (teq h59).2 ?_
            exact kt
          exact b1_62 C hw X eT NL i0
        · rw [if_neg h59]
          refine Go.pre (st' := T.setTop (mkF m 66 #[.val (.int i0)] [])) (fun target kt => ?_) ?_
          · show Steps p.tables e below (T.setTop (mkF m 59 #[.val (.int i0)] [(.int (13 : Int32)), (.int i0)])) _
            refine XS.icmpYes X.here hx rfl (pc0 := 59) (pc' := 66) rfl (hb hby d1_59) rfl (feq h59).2 (by decide) (by decide) ?_
            exact kt
          refine Go.pre (st' := T.setTop (mkF m 67 #[.val (.int i0)] [(.int (0 : Int32))])) (fun target kt => ?_) ?_
          · show Steps p.tables e below (T.setTop (mkF m 66 #[.val (.int i0)] [])) _
            refine XS.iconst X.here hx rfl (hb hby d1_66) ?_
            exact kt
          exact b1_67 C hw X eT NL i0 (0 : Int32)
  · rw [if_neg h3]
    refine Go.pre (st' := T.setTop (mkF m 6 #[.val (.int i0)] [])) (fun target kt => ?_) ?_
    · show Steps p.tables e below (T.setTop (mkF m 3 #[.val (.int i0)] [(.int (32 : Int32)), (.int i0)])) _
      refine XS.icmpNo X.here hx rfl (hb hby d1_3) rfl (flt h3).1 ?_
      exact kt
    refine Go.pre (st' := T.setTop (mkF m 9 #[.val (.int i0)] [(.int (55295 : Int32)), (.int i0)])) (fun target kt => ?_) ?_
    · show Steps p.tables e below (T.setTop (mkF m 6 #[.val (.int i0)] [])) _
      refine XS.iloadN X.here hx rfl (hb hby d1_6) rfl ?_
      show Steps p.tables e below (T.setTop (mkF m 7 #[.val (.int i0)] [(.int i0)])) _
      refine X.ldcInt hx hown (mvT hZ (hw _ (List.mem_of_getElem? (i := 18) rfl))) (g := (mkF m 7 #[.val (.int i0)] [(.int i0)])) rfl (hb hby d1_7) _ ?_
      exact kt
    by_cases h9 : (55295 : Int32) < i0
    · rw [if_pos h9]
      refine Go.pre (st' := T.setTop (mkF m 12 #[.val (.int i0)] [])) (fun target kt => ?_) ?_
      · show Steps p.tables e below (T.setTop (mkF m 9 #[.val (.int i0)] [(.int (55295 : Int32)), (.int i0)])) _
        refine XS.icmpNo X.here hx rfl (hb hby d1_9) rfl (tlt h9).2.2.2 ?_
        exact kt
      refine Go.pre (st' := T.setTop (mkF m 15 #[.val (.int i0)] [(.int i0), (.int (57344 : Int32))])) (fun target kt => ?_) ?_
      · show Steps p.tables e below (T.setTop (mkF m 12 #[.val (.int i0)] [])) _
        refine X.ldcInt hx hown (mvT hZ (hw _ (List.mem_of_getElem? (i := 20) rfl))) (g := (mkF m 12 #[.val (.int i0)] [])) rfl (hb hby d1_12) _ ?_
        show Steps p.tables e below (T.setTop (mkF m 14 #[.val (.int i0)] [(.int (57344 : Int32))])) _
        refine XS.iloadN X.here hx rfl (hb hby d1_14) rfl ?_
        exact kt
      by_cases h15 : i0 < (57344 : Int32)
      · rw [if_pos h15]
        refine Go.pre (st' := T.setTop (mkF m 24 #[.val (.int i0)] [])) (fun target kt => ?_) ?_
        · show Steps p.tables e below (T.setTop (mkF m 15 #[.val (.int i0)] [(.int i0), (.int (57344 : Int32))])) _
          refine XS.icmpYes X.here hx rfl (pc0 := 15) (pc' := 24) rfl (hb hby d1_15) rfl (tlt h15).2.2.1 (by decide) (by decide) ?_
          exact kt
        exact b1_24 C hw X eT NL i0
      · rw [if_neg h15]
        refine Go.pre (st' := T.setTop (mkF m 18 #[.val (.int i0)] [])) (fun target kt => ?_) ?_
        · show Steps p.tables e below (T.setTop (mkF m 15 #[.val (.int i0)] [(.int i0), (.int (57344 : Int32))])) _
          refine XS.icmpNo X.here hx rfl (hb hby d1_15) rfl (flt h15).2.2.1 ?_
          exact kt
        refine Go.pre (st' := T.setTop (mkF m 21 #[.val (.int i0)] [(.int (65533 : Int32)), (.int i0)])) (fun target kt => ?_) ?_
        · show Steps p.tables e below (T.setTop (mkF m 18 #[.val (.int i0)] [])) _
          refine XS.iloadN X.here hx rfl (hb hby d1_18) rfl ?_
          show Steps p.tables e below (T.setTop (mkF m 19 #[.val (.int i0)] [(.int i0)])) _
          refine X.ldcInt hx hown (mvT hZ (hw _ (List.mem_of_getElem? (i := 21) rfl))) (g := (mkF m 19 #[.val (.int i0)] [(.int i0)])) rfl (hb hby d1_19) _ ?_
          exact kt
        by_cases h21 : (65533 : Int32) < i0
        · rw [if_pos h21]
          refine Go.pre (st' := T.setTop (mkF m 24 #[.val (.int i0)] [])) (fun target kt => ?_) ?_
          · show Steps p.tables e below (T.setTop (mkF m 21 #[.val (.int i0)] [(.int (65533 : Int32)), (.int i0)])) _
            refine XS.icmpNo X.here hx rfl (hb hby d1_21) rfl (tlt h21).2.2.2 ?_
            exact kt
          exact b1_24 C hw X eT NL i0
        · rw [if_neg h21]
          refine Go.pre (st' := T.setTop (mkF m 36 #[.val (.int i0)] [])) (fun target kt => ?_) ?_
          · show Steps p.tables e below (T.setTop (mkF m 21 #[.val (.int i0)] [(.int (65533 : Int32)), (.int i0)])) _
            refine XS.icmpYes X.here hx rfl (pc0 := 21) (pc' := 36) rfl (hb hby d1_21) rfl (flt h21).2.2.2 (by decide) (by decide) ?_
            exact kt
          exact b1_36 C hw X eT NL i0
    · rw [if_neg h9]
      refine Go.pre (st' := T.setTop (mkF m 36 #[.val (.int i0)] [])) (fun target kt => ?_) ?_
      · show Steps p.tables e below (T.setTop (mkF m 9 #[.val (.int i0)] [(.int (55295 : Int32)), (.int i0)])) _
        refine XS.icmpYes X.here hx rfl (pc0 := 9) (pc' := 36) rfl (hb hby d1_9) rfl (flt h9).2.2.2 (by decide) (by decide) ?_
        exact kt
      exact b1_36 C hw X eT NL i0
set_option maxRecDepth 65536 in
set_option maxHeartbeats 40000000 in
theorem rm1 (l : Launch) (Z : State) (a0 : Array Value) (hw : ∀ d ∈ tables_1, d.before a0 Z = true) (ws : List Jvm.Cond) (x0 : Int32) (h0 : Heap) (n0 : Nat) :
    MetFree l (⟨site_108.cls, "isChar", "(I)Z"⟩ : MethodName) (head1 (Jvm.Cond.code (⟨site_108.cls, "isChar", "(I)Z"⟩ : MethodName) prog_111_method_2_code 1 (some .boolean) :: ws) ({ frames := 0, cells := 0, slots := 0, locals := 0 } : Room)) (fun a U => a = #[(.int x0)] ∧ Z.Warmed39 U.vm ∧ U.heap = h0) (fun _ _ _ _ _ => True) (fun _ U o U' => ∃ v L, o = .returned v ∧ QV (.int (f1_0 x0)) h0 n0 v U'.heap L ∧ FrameEnd U o U' L ({ frames := 0, cells := 0, slots := 0, locals := 0 } : Room).cells ({ frames := 0, cells := 0, slots := 0, locals := 0 } : Room).slots) := by
  refine MetFree.of_bodySF (plainFor_of_name pn_1) hisR ?_
  intro p e s m args below meth c s₁ Bd hml0 hP hK
  obtain ⟨rfl, hZ, hh⟩ := hP
  have C : Ctx p s m meth c Z prog_111_method_2_code 1 site_108.cls (some .boolean) := ⟨Bd.exec, hZ, Bd.bytes, hml0, (by have q := findClass_of_methodNamed Bd.named; exact q), Bd.returns, Bd.notSynchronized⟩
  have X0 : Stand p l e ({ frames := 0, cells := 0, slots := 0, locals := 0 } : Room) s m #[(.int x0)] below meth c s₁ [] 0 0 := Stand.of_body Bd
  have e0 : s₁.heap = h0 := by rw [← hh, Bd.state]; rfl
  rw [ef_1 m x0]
  exact b1_0 C hw X0 e0 (Fr.nil n0) x0
theorem d2_0 : decode method_2_code 0 = .ok (.iload_n 0, 1) := by decide +kernel
theorem d2_1 : decode method_2_code 1 = .ok (.ifCond .ge 5, 3) := by decide +kernel
theorem d2_4 : decode method_2_code 4 = .ok (.iconst 1, 1) := by decide +kernel
theorem d2_5 : decode method_2_code 5 = .ok (.ireturn, 1) := by decide +kernel
theorem d2_6 : decode method_2_code 6 = .ok (.iload_n 0, 1) := by decide +kernel
theorem d2_7 : decode method_2_code 7 = .ok (.ldc 7, 2) := by decide +kernel
theorem d2_9 : decode method_2_code 9 = .ok (.if_icmp .le 5, 3) := by decide +kernel
theorem d2_12 : decode method_2_code 12 = .ok (.iconst 1, 1) := by decide +kernel
theorem d2_13 : decode method_2_code 13 = .ok (.ireturn, 1) := by decide +kernel
theorem d2_14 : decode method_2_code 14 = .ok (.ldc 8, 2) := by decide +kernel
theorem d2_16 : decode method_2_code 16 = .ok (.iload_n 0, 1) := by decide +kernel
theorem d2_17 : decode method_2_code 17 = .ok (.if_icmp .gt 11, 3) := by decide +kernel
theorem d2_20 : decode method_2_code 20 = .ok (.iload_n 0, 1) := by decide +kernel
theorem d2_21 : decode method_2_code 21 = .ok (.ldc 9, 2) := by decide +kernel
theorem d2_23 : decode method_2_code 23 = .ok (.if_icmp .gt 5, 3) := by decide +kernel
theorem d2_26 : decode method_2_code 26 = .ok (.iconst 1, 1) := by decide +kernel
theorem d2_27 : decode method_2_code 27 = .ok (.ireturn, 1) := by decide +kernel
theorem d2_28 : decode method_2_code 28 = .ok (.iload_n 0, 1) := by decide +kernel
theorem d2_29 : decode method_2_code 29 = .ok (.ldc 10, 2) := by decide +kernel
theorem d2_31 : decode method_2_code 31 = .ok (.if_icmp .eq 9, 3) := by decide +kernel
theorem d2_34 : decode method_2_code 34 = .ok (.iload_n 0, 1) := by decide +kernel
theorem d2_35 : decode method_2_code 35 = .ok (.ldc 11, 2) := by decide +kernel
theorem d2_37 : decode method_2_code 37 = .ok (.if_icmp .ne 5, 3) := by decide +kernel
theorem d2_40 : decode method_2_code 40 = .ok (.iconst 1, 1) := by decide +kernel
theorem d2_41 : decode method_2_code 41 = .ok (.ireturn, 1) := by decide +kernel
theorem d2_42 : decode method_2_code 42 = .ok (.iload_n 0, 1) := by decide +kernel
theorem d2_43 : decode method_2_code 43 = .ok (.bipush 32, 2) := by decide +kernel
theorem d2_45 : decode method_2_code 45 = .ok (.if_icmp .ge 27, 3) := by decide +kernel
theorem d2_48 : decode method_2_code 48 = .ok (.iload_n 0, 1) := by decide +kernel
theorem d2_49 : decode method_2_code 49 = .ok (.bipush 9, 2) := by decide +kernel
theorem d2_51 : decode method_2_code 51 = .ok (.if_icmp .eq 19, 3) := by decide +kernel
theorem d2_54 : decode method_2_code 54 = .ok (.iload_n 0, 1) := by decide +kernel
theorem d2_55 : decode method_2_code 55 = .ok (.bipush 10, 2) := by decide +kernel
theorem d2_57 : decode method_2_code 57 = .ok (.if_icmp .eq 13, 3) := by decide +kernel
theorem d2_60 : decode method_2_code 60 = .ok (.iload_n 0, 1) := by decide +kernel
theorem d2_61 : decode method_2_code 61 = .ok (.bipush 13, 2) := by decide +kernel
theorem d2_63 : decode method_2_code 63 = .ok (.if_icmp .eq 7, 3) := by decide +kernel
theorem d2_66 : decode method_2_code 66 = .ok (.iconst 1, 1) := by decide +kernel
theorem d2_67 : decode method_2_code 67 = .ok (.goto 4, 3) := by decide +kernel
theorem d2_70 : decode method_2_code 70 = .ok (.iconst 0, 1) := by decide +kernel
theorem d2_71 : decode method_2_code 71 = .ok (.ireturn, 1) := by decide +kernel
theorem d2_72 : decode method_2_code 72 = .ok (.iconst 0, 1) := by decide +kernel
theorem d2_73 : decode method_2_code 73 = .ok (.ireturn, 1) := by decide +kernel
theorem pn_2 : plainName x.cls = true := by first | (simp [plainName, overriddenIn]; done) | decide +kernel
theorem ef_2 (m : MethodId) (x0 : Int32) : entryFrame m #[(.int x0)] 1 = (mkF m 0 #[.val (.int x0)] []) := by first | (simp [entryFrame, mkF, argsToLocals, Value.category]; done) | rfl
def f2_40 (i0 : Int32) : Int32 := (1 : Int32)
def f2_71 (i0 : Int32) (t0 : Int32) : Int32 := (t0 &&& 1)
def f2_70 (i0 : Int32) : Int32 := f2_71 i0 (0 : Int32)
def f2_28 (i0 : Int32) : Int32 := (if i0 = (65534 : Int32) then f2_40 i0 else (if i0 = (65535 : Int32) then f2_40 i0 else (if i0 < (32 : Int32) then (if i0 = (9 : Int32) then f2_70 i0 else (if i0 = (10 : Int32) then f2_70 i0 else (if i0 = (13 : Int32) then f2_70 i0 else f2_71 i0 (1 : Int32)))) else (0 : Int32))))
def f2_0 (i0 : Int32) : Int32 := (if i0 < (0 : Int32) then (1 : Int32) else (if (1114111 : Int32) < i0 then (1 : Int32) else (if i0 < (55296 : Int32) then f2_28 i0 else (if (57343 : Int32) < i0 then f2_28 i0 else (1 : Int32)))))
set_option maxRecDepth 65536 in
set_option maxHeartbeats 40000000 in
theorem b2_40 {p : Program} {l : Launch} {e : Env} {s : State} {m : MethodId} {args : Array Value} {below : List Frame} {meth : Method} {c : Code} {Z : State} {a0 : Array Value} {T : State} {locs : List Loc} {h0 : Heap} {n0 : Nat} (C : Ctx p s m meth c Z method_2_code 1 x.cls (some .boolean)) (hw : ∀ d ∈ tables_1, d.before a0 Z = true)
    (X : Stand p l e ({ frames := 0, cells := 0, slots := 0, locals := 0 } : Room) s m args below meth c T locs 0 0) (eT : T.heap = h0) (NL : Fr n0 locs) (i0 : Int32) :
    Go p e below s 0 0 (QV (.int (f2_40 i0)) h0 n0) (T.setTop (mkF m 40 #[.val (.int i0)] [])) := by
  obtain ⟨hx, hZ, hby, hml, hown, hrt, hlk⟩ := id C
  unfold f2_40
  refine Go.pre (st' := T.setTop (mkF m 41 #[.val (.int i0)] [(.int (1 : Int32))])) (fun target kt => ?_) ?_
  · show Steps p.tables e below (T.setTop (mkF m 40 #[.val (.int i0)] [])) _
    refine XS.iconst X.here hx rfl (hb hby d2_40) ?_
    exact kt
  exact Go.retN X hx hlk hrt (by simp) (hb hby d2_41) (by decide) (Nat.le_refl _) (Nat.le_refl _) ⟨rfl, NL, eT⟩
set_option maxRecDepth 65536 in
set_option maxHeartbeats 40000000 in
theorem b2_71 {p : Program} {l : Launch} {e : Env} {s : State} {m : MethodId} {args : Array Value} {below : List Frame} {meth : Method} {c : Code} {Z : State} {a0 : Array Value} {T : State} {locs : List Loc} {h0 : Heap} {n0 : Nat} (C : Ctx p s m meth c Z method_2_code 1 x.cls (some .boolean)) (hw : ∀ d ∈ tables_1, d.before a0 Z = true)
    (X : Stand p l e ({ frames := 0, cells := 0, slots := 0, locals := 0 } : Room) s m args below meth c T locs 0 0) (eT : T.heap = h0) (NL : Fr n0 locs) (i0 : Int32) (t0 : Int32) :
    Go p e below s 0 0 (QV (.int (f2_71 i0 t0)) h0 n0) (T.setTop (mkF m 71 #[.val (.int i0)] [(.int t0)])) := by
  obtain ⟨hx, hZ, hby, hml, hown, hrt, hlk⟩ := id C
  unfold f2_71
  exact Go.retN X hx hlk hrt (by simp) (hb hby d2_71) rfl (Nat.le_refl _) (Nat.le_refl _) ⟨rfl, NL, eT⟩
set_option maxRecDepth 65536 in
set_option maxHeartbeats 40000000 in
theorem b2_70 {p : Program} {l : Launch} {e : Env} {s : State} {m : MethodId} {args : Array Value} {below : List Frame} {meth : Method} {c : Code} {Z : State} {a0 : Array Value} {T : State} {locs : List Loc} {h0 : Heap} {n0 : Nat} (C : Ctx p s m meth c Z method_2_code 1 x.cls (some .boolean)) (hw : ∀ d ∈ tables_1, d.before a0 Z = true)
    (X : Stand p l e ({ frames := 0, cells := 0, slots := 0, locals := 0 } : Room) s m args below meth c T locs 0 0) (eT : T.heap = h0) (NL : Fr n0 locs) (i0 : Int32) :
    Go p e below s 0 0 (QV (.int (f2_70 i0)) h0 n0) (T.setTop (mkF m 70 #[.val (.int i0)] [])) := by
  obtain ⟨hx, hZ, hby, hml, hown, hrt, hlk⟩ := id C
  unfold f2_70
  refine Go.pre (st' := T.setTop (mkF m 71 #[.val (.int i0)] [(.int (0 : Int32))])) (fun target kt => ?_) ?_
  · show Steps p.tables e below (T.setTop (mkF m 70 #[.val (.int i0)] [])) _
    refine XS.iconst X.here hx rfl (hb hby d2_70) ?_
    exact kt
  exact b2_71 C hw X eT NL i0 (0 : Int32)
set_option maxRecDepth 65536 in
set_option maxHeartbeats 40000000 in
theorem b2_28 {p : Program} {l : Launch} {e : Env} {s : State} {m : MethodId} {args : Array Value} {below : List Frame} {meth : Method} {c : Code} {Z : State} {a0 : Array Value} {T : State} {locs : List Loc} {h0 : Heap} {n0 : Nat} (C : Ctx p s m meth c Z method_2_code 1 x.cls (some .boolean)) (hw : ∀ d ∈ tables_1, d.before a0 Z = true)
    (X : Stand p l e ({ frames := 0, cells := 0, slots := 0, locals := 0 } : Room) s m args below meth c T locs 0 0) (eT : T.heap = h0) (NL : Fr n0 locs) (i0 : Int32) :
    Go p e below s 0 0 (QV (.int (f2_28 i0)) h0 n0) (T.setTop (mkF m 28 #[.val (.int i0)] [])) := by
  obtain ⟨hx, hZ, hby, hml, hown, hrt, hlk⟩ := id C
  unfold f2_28
  refine Go.pre (st' := T.setTop (mkF m 31 #[.val (.int i0)] [(.int (65534 : Int32)), (.int i0)])) (fun target kt => ?_) ?_
  · show Steps p.tables e below (T.setTop (mkF m 28 #[.val (.int i0)] [])) _
    refine XS.iloadN X.here hx rfl (hb hby d2_28) rfl ?_
    show Steps p.tables e below (T.setTop (mkF m 29 #[.val (.int i0)] [(.int i0)])) _
    refine X.ldcInt hx hown (mvT hZ (hw _ (List.mem_of_getElem? (i := 16) rfl))) (g := (mkF m 29 #[.val (.int i0)] [(.int i0)])) rfl (hb hby d2_29) _ ?_
    exact kt
  by_cases h31 : i0 = (65534 : Int32)
  · rw [if_pos h31]
    refine Go.pre (st' := T.setTop (mkF m 40 #[.val (.int i0)] [])) (fun target kt => ?_) ?_
    · show Steps p.tables e below (T.setTop (mkF m 31 #[.val (.int i0)] [(.int (65534 : Int32)), (.int i0)])) _
      refine XS.icmpYes X.here hx rfl (pc0 := 31) (pc' := 40) rfl (hb hby d2_31) rfl (teq h31).1 (by decide) (by decide) ?_
      exact kt
    exact b2_40 C hw X eT NL i0
  · rw [if_neg h31]
    refine Go.pre (st' := T.setTop (mkF m 34 #[.val (.int i0)] [])) (fun target kt => ?_) ?_
    · show Steps p.tables e below (T.setTop (mkF m 31 #[.val (.int i0)] [(.int (65534 : Int32)), (.int i0)])) _
      refine XS.icmpNo X.here hx rfl (hb hby d2_31) rfl (feq h31).1 ?_
      exact kt
    refine Go.pre (st' := T.setTop (mkF m 37 #[.val (.int i0)] [(.int (65535 : Int32)), (.int i0)])) (fun target kt => ?_) ?_
    · show Steps p.tables e below (T.setTop (mkF m 34 #[.val (.int i0)] [])) _
      refine XS.iloadN X.here hx rfl (hb hby d2_34) rfl ?_
      show Steps p.tables e below (T.setTop (mkF m 35 #[.val (.int i0)] [(.int i0)])) _
      refine X.ldcInt hx hown (mvT hZ (hw _ (List.mem_of_getElem? (i := 17) rfl))) (g := (mkF m 35 #[.val (.int i0)] [(.int i0)])) rfl (hb hby d2_35) _ ?_
      exact kt
    by_cases h37 : i0 = (65535 : Int32)
    · rw [if_pos h37]
      refine Go.pre (st' := T.setTop (mkF m 40 #[.val (.int i0)] [])) (fun target kt => ?_) ?_
      · show Steps p.tables e below (T.setTop (mkF m 37 #[.val (.int i0)] [(.int (65535 : Int32)), (.int i0)])) _
        refine XS.icmpNo X.here hx rfl (hb hby d2_37) rfl (teq h37).2 ?_
        exact kt
      exact b2_40 C hw X eT NL i0
    · rw [if_neg h37]
      refine Go.pre (st' := T.setTop (mkF m 42 #[.val (.int i0)] [])) (fun target kt => ?_) ?_
      · show Steps p.tables e below (T.setTop (mkF m 37 #[.val (.int i0)] [(.int (65535 : Int32)), (.int i0)])) _
        refine XS.icmpYes X.here hx rfl (pc0 := 37) (pc' := 42) rfl (hb hby d2_37) rfl (feq h37).2 (by decide) (by decide) ?_
        exact kt
      refine Go.pre (st' := T.setTop (mkF m 45 #[.val (.int i0)] [(.int (32 : Int32)), (.int i0)])) (fun target kt => ?_) ?_
      · show Steps p.tables e below (T.setTop (mkF m 42 #[.val (.int i0)] [])) _
        refine XS.iloadN X.here hx rfl (hb hby d2_42) rfl ?_
        show Steps p.tables e below (T.setTop (mkF m 43 #[.val (.int i0)] [(.int i0)])) _
        refine XS.bipush X.here hx rfl (hb hby d2_43) ?_
        exact kt
      by_cases h45 : i0 < (32 : Int32)
      · rw [if_pos h45]
        refine Go.pre (st' := T.setTop (mkF m 48 #[.val (.int i0)] [])) (fun target kt => ?_) ?_
        · show Steps p.tables e below (T.setTop (mkF m 45 #[.val (.int i0)] [(.int (32 : Int32)), (.int i0)])) _
          refine XS.icmpNo X.here hx rfl (hb hby d2_45) rfl (tlt h45).2.1 ?_
          exact kt
        refine Go.pre (st' := T.setTop (mkF m 51 #[.val (.int i0)] [(.int (9 : Int32)), (.int i0)])) (fun target kt => ?_) ?_
        · show Steps p.tables e below (T.setTop (mkF m 48 #[.val (.int i0)] [])) _
          refine XS.iloadN X.here hx rfl (hb hby d2_48) rfl ?_
          show Steps p.tables e below (T.setTop (mkF m 49 #[.val (.int i0)] [(.int i0)])) _
          refine XS.bipush X.here hx rfl (hb hby d2_49) ?_
          exact kt
        by_cases h51 : i0 = (9 : Int32)
        · rw [if_pos h51]
          refine Go.pre (st' := T.setTop (mkF m 70 #[.val (.int i0)] [])) (fun target kt => ?_) ?_
          · show Steps p.tables e below (T.setTop (mkF m 51 #[.val (.int i0)] [(.int (9 : Int32)), (.int i0)])) _
            refine XS.icmpYes X.here hx rfl (pc0 := 51) (pc' := 70) rfl (hb hby d2_51) rfl (teq h51).1 (by decide) (by decide) ?_
            exact kt
          exact b2_70 C hw X eT NL i0
        · rw [if_neg h51]
          refine Go.pre (st' := T.setTop (mkF m 54 #[.val (.int i0)] [])) (fun target kt => ?_) ?_
          · show Steps p.tables e below (T.setTop (mkF m 51 #[.val (.int i0)] [(.int (9 : Int32)), (.int i0)])) _
            refine XS.icmpNo X.here hx rfl (hb hby d2_51) rfl (feq h51).1 ?_
            exact kt
          refine Go.pre (st' := T.setTop (mkF m 57 #[.val (.int i0)] [(.int (10 : Int32)), (.int i0)])) (fun target kt => ?_) ?_
          · show Steps p.tables e below (T.setTop (mkF m 54 #[.val (.int i0)] [])) _
            refine XS.iloadN X.here hx rfl (hb hby d2_54) rfl ?_
            show Steps p.tables e below (T.setTop (mkF m 55 #[.val (.int i0)] [(.int i0)])) _
            refine XS.bipush X.here hx rfl (hb hby d2_55) ?_
            exact kt
          by_cases h57 : i0 = (10 : Int32)
          · rw [if_pos h57]
            refine Go.pre (st' := T.setTop (mkF m 70 #[.val (.int i0)] [])) (fun target kt => ?_) ?_
            · show Steps p.tables e below (T.setTop (mkF m 57 #[.val (.int i0)] [(.int (10 : Int32)), (.int i0)])) _
              refine XS.icmpYes X.here hx rfl (pc0 := 57) (pc' := 70) rfl (hb hby d2_57) rfl (teq h57).1 (by decide) (by decide) ?_
              exact kt
            exact b2_70 C hw X eT NL i0
          · rw [if_neg h57]
            refine Go.pre (st' := T.setTop (mkF m 60 #[.val (.int i0)] [])) (fun target kt => ?_) ?_
            · show Steps p.tables e below (T.setTop (mkF m 57 #[.val (.int i0)] [(.int (10 : Int32)), (.int i0)])) _
              refine XS.icmpNo X.here hx rfl (hb hby d2_57) rfl (feq h57).1 ?_
              exact kt
            refine Go.pre (st' := T.setTop (mkF m 63 #[.val (.int i0)] [(.int (13 : Int32)), (.int i0)])) (fun target kt => ?_) ?_
            · show Steps p.tables e below (T.setTop (mkF m 60 #[.val (.int i0)] [])) _
              refine XS.iloadN X.here hx rfl (hb hby d2_60) rfl ?_
              show Steps p.tables e below (T.setTop (mkF m 61 #[.val (.int i0)] [(.int i0)])) _
              refine XS.bipush X.here hx rfl (hb hby d2_61) ?_
              exact kt
            by_cases h63 : i0 = (13 : Int32)
            · rw [if_pos h63]
              refine Go.pre (st' := T.setTop (mkF m 70 #[.val (.int i0)] [])) (fun target kt => ?_) ?_
              · show Steps p.tables e below (T.setTop (mkF m 63 #[.val (.int i0)] [(.int (13 : Int32)), (.int i0)])) _
                refine XS.icmpYes X.here hx rfl (pc0 := 63) (pc' := 70) rfl (hb hby d2_63) rfl (teq h63).1 (by decide) (by decide) ?_
                exact kt
              exact b2_70 C hw X eT NL i0
            · rw [if_neg h63]
              refine Go.pre (st' := T.setTop (mkF m 66 #[.val (.int i0)] [])) (fun target kt => ?_) ?_
              · show Steps p.tables e below (T.setTop (mkF m 63 #[.val (.int i0)] [(.int (13 : Int32)), (.int i0)])) _
                refine XS.icmpNo X.here hx rfl (hb hby d2_63) rfl (feq h63).1 ?_
                exact kt
              refine Go.pre (st' := T.setTop (mkF m 71 #[.val (.int i0)] [(.int (1 : Int32))])) (fun target kt => ?_) ?_
              · show Steps p.tables e below (T.setTop (mkF m 66 #[.val (.int i0)] [])) _
                refine XS.iconst X.here hx rfl (hb hby d2_66) ?_
                show Steps p.tables e below (T.setTop (mkF m 67 #[.val (.int i0)] [(.int (1 : Int32))])) _
                refine XS.goto X.here hx rfl (pc0 := 67) (pc' := 71) rfl (hb hby d2_67) (by decide) (by decide) ?_
                exact kt
              exact b2_71 C hw X eT NL i0 (1 : Int32)
      · rw [if_neg h45]
        refine Go.pre (st' := T.setTop (mkF m 72 #[.val (.int i0)] [])) (fun target kt => ?_) ?_
        · show Steps p.tables e below (T.setTop (mkF m 45 #[.val (.int i0)] [(.int (32 : Int32)), (.int i0)])) _
          refine XS.icmpYes X.here hx rfl (pc0 := 45) (pc' := 72) rfl (hb hby d2_45) rfl (flt h45).2.1 (by decide) (by decide) ?_
          exact kt
        refine Go.pre (st' := T.setTop (mkF m 73 #[.val (.int i0)] [(.int (0 : Int32))])) (fun target kt => ?_) ?_
        · show Steps p.tables e below (T.setTop (mkF m 72 #[.val (.int i0)] [])) _
          refine XS.iconst X.here hx rfl (hb hby d2_72) ?_
          exact kt
        exact Go.retN X hx hlk hrt (by simp) (hb hby d2_73) (by decide) (Nat.le_refl _) (Nat.le_refl _) ⟨rfl, NL, eT⟩
set_option maxRecDepth 65536 in
set_option maxHeartbeats 40000000 in
theorem b2_0 {p : Program} {l : Launch} {e : Env} {s : State} {m : MethodId} {args : Array Value} {below : List Frame} {meth : Method} {c : Code} {Z : State} {a0 : Array Value} {T : State} {locs : List Loc} {h0 : Heap} {n0 : Nat} (C : Ctx p s m meth c Z method_2_code 1 x.cls (some .boolean)) (hw : ∀ d ∈ tables_1, d.before a0 Z = true)
    (X : Stand p l e ({ frames := 0, cells := 0, slots := 0, locals := 0 } : Room) s m args below meth c T locs 0 0) (eT : T.heap = h0) (NL : Fr n0 locs) (i0 : Int32) :
    Go p e below s 0 0 (QV (.int (f2_0 i0)) h0 n0) (T.setTop (mkF m 0 #[.val (.int i0)] [])) := by
  obtain ⟨hx, hZ, hby, hml, hown, hrt, hlk⟩ := id C
  unfold f2_0
  refine Go.pre (st' := T.setTop (mkF m 1 #[.val (.int i0)] [(.int i0)])) (fun target kt => ?_) ?_
  · show Steps p.tables e below (T.setTop (mkF m 0 #[.val (.int i0)] [])) _
    refine XS.iloadN X.here hx rfl (hb hby d2_0) rfl ?_
    exact kt
  by_cases h1 : i0 < (0 : Int32)
  · rw [if_pos h1]
    refine Go.pre (st' := T.setTop (mkF m 4 #[.val (.int i0)] [])) (fun target kt => ?_) ?_
    · show Steps p.tables e below (T.setTop (mkF m 1 #[.val (.int i0)] [(.int i0)])) _
      refine XS.ifNo X.here hx rfl (hb hby d2_1) rfl ((if0 _ _).trans (tlt h1).2.1) ?_
      exact kt
    refine Go.pre (st' := T.setTop (mkF m 5 #[.val (.int i0)] [(.int (1 : Int32))])) (fun target kt => ?_) ?_
    · show Steps p.tables e below (T.setTop (mkF m 4 #[.val (.int i0)] [])) _
      refine XS.iconst X.here hx rfl (hb hby d2_4) ?_
      exact kt
    exact Go.retN X hx hlk hrt (by simp) (hb hby d2_5) (by decide) (Nat.le_refl _) (Nat.le_refl _) ⟨rfl, NL, eT⟩
  · rw [if_neg h1]
    refine Go.pre (st' := T.setTop (mkF m 6 #[.val (.int i0)] [])) (fun target kt => ?_) ?_
    · show Steps p.tables e below (T.setTop (mkF m 1 #[.val (.int i0)] [(.int i0)])) _
      refine XS.ifYes X.here hx rfl (pc0 := 1) (pc' := 6) rfl (hb hby d2_1) rfl ((if0 _ _).trans (flt h1).2.1) (by decide) (by decide) ?_
      exact kt
    refine Go.pre (st' := T.setTop (mkF m 9 #[.val (.int i0)] [(.int (1114111 : Int32)), (.int i0)])) (fun target kt => ?_) ?_
    · show Steps p.tables e below (T.setTop (mkF m 6 #[.val (.int i0)] [])) _
      refine XS.iloadN X.here hx rfl (hb hby d2_6) rfl ?_
      show Steps p.tables e below (T.setTop (mkF m 7 #[.val (.int i0)] [(.int i0)])) _
      refine X.ldcInt hx hown (mvT hZ (hw _ (List.mem_of_getElem? (i := 5) rfl))) (g := (mkF m 7 #[.val (.int i0)] [(.int i0)])) rfl (hb hby d2_7) _ ?_
      exact kt
    by_cases h9 : (1114111 : Int32) < i0
    · rw [if_pos h9]
      refine Go.pre (st' := T.setTop (mkF m 12 #[.val (.int i0)] [])) (fun target kt => ?_) ?_
      · show Steps p.tables e below (T.setTop (mkF m 9 #[.val (.int i0)] [(.int (1114111 : Int32)), (.int i0)])) _
        refine XS.icmpNo X.here hx rfl (hb hby d2_9) rfl (tlt h9).2.2.2 ?_
        exact kt
      refine Go.pre (st' := T.setTop (mkF m 13 #[.val (.int i0)] [(.int (1 : Int32))])) (fun target kt => ?_) ?_
      · show Steps p.tables e below (T.setTop (mkF m 12 #[.val (.int i0)] [])) _
        refine XS.iconst X.here hx rfl (hb hby d2_12) ?_
        exact kt
      exact Go.retN X hx hlk hrt (by simp) (hb hby d2_13) (by decide) (Nat.le_refl _) (Nat.le_refl _) ⟨rfl, NL, eT⟩
    · rw [if_neg h9]
      refine Go.pre (st' := T.setTop (mkF m 14 #[.val (.int i0)] [])) (fun target kt => ?_) ?_
      · show Steps p.tables e below (T.setTop (mkF m 9 #[.val (.int i0)] [(.int (1114111 : Int32)), (.int i0)])) _
        refine XS.icmpYes X.here hx rfl (pc0 := 9) (pc' := 14) rfl (hb hby d2_9) rfl (flt h9).2.2.2 (by decide) (by decide) ?_
        exact kt
      refine Go.pre (st' := T.setTop (mkF m 17 #[.val (.int i0)] [(.int i0), (.int (55296 : Int32))])) (fun target kt => ?_) ?_
      · show Steps p.tables e below (T.setTop (mkF m 14 #[.val (.int i0)] [])) _
        refine X.ldcInt hx hown (mvT hZ (hw _ (List.mem_of_getElem? (i := 15) rfl))) (g := (mkF m 14 #[.val (.int i0)] [])) rfl (hb hby d2_14) _ ?_
        show Steps p.tables e below (T.setTop (mkF m 16 #[.val (.int i0)] [(.int (55296 : Int32))])) _
        refine XS.iloadN X.here hx rfl (hb hby d2_16) rfl ?_
        exact kt
      by_cases h17 : i0 < (55296 : Int32)
      · rw [if_pos h17]
        refine Go.pre (st' := T.setTop (mkF m 28 #[.val (.int i0)] [])) (fun target kt => ?_) ?_
        · show Steps p.tables e below (T.setTop (mkF m 17 #[.val (.int i0)] [(.int i0), (.int (55296 : Int32))])) _
          refine XS.icmpYes X.here hx rfl (pc0 := 17) (pc' := 28) rfl (hb hby d2_17) rfl (tlt h17).2.2.1 (by decide) (by decide) ?_
          exact kt
        exact b2_28 C hw X eT NL i0
      · rw [if_neg h17]
        refine Go.pre (st' := T.setTop (mkF m 20 #[.val (.int i0)] [])) (fun target kt => ?_) ?_
        · show Steps p.tables e below (T.setTop (mkF m 17 #[.val (.int i0)] [(.int i0), (.int (55296 : Int32))])) _
          refine XS.icmpNo X.here hx rfl (hb hby d2_17) rfl (flt h17).2.2.1 ?_
          exact kt
        refine Go.pre (st' := T.setTop (mkF m 23 #[.val (.int i0)] [(.int (57343 : Int32)), (.int i0)])) (fun target kt => ?_) ?_
        · show Steps p.tables e below (T.setTop (mkF m 20 #[.val (.int i0)] [])) _
          refine XS.iloadN X.here hx rfl (hb hby d2_20) rfl ?_
          show Steps p.tables e below (T.setTop (mkF m 21 #[.val (.int i0)] [(.int i0)])) _
          refine X.ldcInt hx hown (mvT hZ (hw _ (List.mem_of_getElem? (i := 6) rfl))) (g := (mkF m 21 #[.val (.int i0)] [(.int i0)])) rfl (hb hby d2_21) _ ?_
          exact kt
        by_cases h23 : (57343 : Int32) < i0
        · rw [if_pos h23]
          refine Go.pre (st' := T.setTop (mkF m 28 #[.val (.int i0)] [])) (fun target kt => ?_) ?_
          · show Steps p.tables e below (T.setTop (mkF m 23 #[.val (.int i0)] [(.int (57343 : Int32)), (.int i0)])) _
            refine XS.icmpYes X.here hx rfl (pc0 := 23) (pc' := 28) rfl (hb hby d2_23) rfl (tlt h23).2.2.1 (by decide) (by decide) ?_
            exact kt
          exact b2_28 C hw X eT NL i0
        · rw [if_neg h23]
          refine Go.pre (st' := T.setTop (mkF m 26 #[.val (.int i0)] [])) (fun target kt => ?_) ?_
          · show Steps p.tables e below (T.setTop (mkF m 23 #[.val (.int i0)] [(.int (57343 : Int32)), (.int i0)])) _
            refine XS.icmpNo X.here hx rfl (hb hby d2_23) rfl (flt h23).2.2.1 ?_
            exact kt
          refine Go.pre (st' := T.setTop (mkF m 27 #[.val (.int i0)] [(.int (1 : Int32))])) (fun target kt => ?_) ?_
          · show Steps p.tables e below (T.setTop (mkF m 26 #[.val (.int i0)] [])) _
            refine XS.iconst X.here hx rfl (hb hby d2_26) ?_
            exact kt
          exact Go.retN X hx hlk hrt (by simp) (hb hby d2_27) (by decide) (Nat.le_refl _) (Nat.le_refl _) ⟨rfl, NL, eT⟩
set_option maxRecDepth 65536 in
set_option maxHeartbeats 40000000 in
theorem rm2 (l : Launch) (Z : State) (a0 : Array Value) (hw : ∀ d ∈ tables_1, d.before a0 Z = true) (ws : List Jvm.Cond) (x0 : Int32) (h0 : Heap) (n0 : Nat) :
    MetFree l (⟨x.cls, "forbidden", "(I)Z"⟩ : MethodName) (head1 (Jvm.Cond.code (⟨x.cls, "forbidden", "(I)Z"⟩ : MethodName) method_2_code 1 (some .boolean) :: ws) ({ frames := 0, cells := 0, slots := 0, locals := 0 } : Room)) (fun a U => a = #[(.int x0)] ∧ Z.Warmed39 U.vm ∧ U.heap = h0) (fun _ _ _ _ _ => True) (fun _ U o U' => ∃ v L, o = .returned v ∧ QV (.int (f2_0 x0)) h0 n0 v U'.heap L ∧ FrameEnd U o U' L ({ frames := 0, cells := 0, slots := 0, locals := 0 } : Room).cells ({ frames := 0, cells := 0, slots := 0, locals := 0 } : Room).slots) := by
  refine MetFree.of_bodySF (plainFor_of_name pn_2) hisR ?_
  intro p e s m args below meth c s₁ Bd hml0 hP hK
  obtain ⟨rfl, hZ, hh⟩ := hP
  have C : Ctx p s m meth c Z method_2_code 1 x.cls (some .boolean) := ⟨Bd.exec, hZ, Bd.bytes, hml0, (by have q := findClass_of_methodNamed Bd.named; exact q), Bd.returns, Bd.notSynchronized⟩
  have X0 : Stand p l e ({ frames := 0, cells := 0, slots := 0, locals := 0 } : Room) s m #[(.int x0)] below meth c s₁ [] 0 0 := Stand.of_body Bd
  have e0 : s₁.heap = h0 := by rw [← hh, Bd.state]; rfl
  rw [ef_2 m x0]
  exact b2_0 C hw X0 e0 (Fr.nil n0) x0
theorem pn0_0 : plainName x.cls = true := by first | (simp [plainName, overriddenIn]; done) | decide +kernel
theorem pd0_108 : parseMethodDescriptor "(I)Z" = some ⟨[.int], some .boolean⟩ := by decide +kernel
def f0_132 (i0 : Int32) (i1 : Int32) (i2 : Int32) (i4 : Int32) (i5 : Int32) (t0 : Int32) : Int32 := (t0 &&& 1)
def f0_124 (i0 : Int32) (i1 : Int32) (i2 : Int32) (i4 : Int32) (i5 : Int32) (t0 : Int32) (t1 : Int32) : Int32 := (if t1 = t0 then f0_132 i0 i1 i2 i4 i5 (1 : Int32) else f0_132 i0 i1 i2 i4 i5 (0 : Int32))
def f0_106 (i0 : Int32) (i1 : Int32) (i2 : Int32) (i4 : Int32) (i5 : Int32) : Int32 := (if (f2_0 i5) = (0 : Int32) then f0_124 i0 i1 i2 i4 i5 (1 : Int32) (f1_0 i5) else f0_124 i0 i1 i2 i4 i5 (0 : Int32) (f1_0 i5))
set_option maxRecDepth 65536 in
set_option maxHeartbeats 40000000 in
theorem b0_132 {p : Program} {l : Launch} {e : Env} {s : State} {m : MethodId} {args : Array Value} {below : List Frame} {meth : Method} {c : Code} {Z : State} {a0 : Array Value} {T : State} {locs : List Loc} {h0 : Heap} {n0 : Nat} (C : Ctx p s m meth c Z code 6 x.cls (some .boolean)) (hw : ∀ d ∈ tables_1, d.before a0 Z = true)
    (X : Stand p l e room_1 s m args below meth c T locs 1 10) (eT : T.heap = h0) (NL : Fr n0 locs) (i0 : Int32) (i1 : Int32) (i2 : Int32) (r3 : Addr) (i4 : Int32) (i5 : Int32) (t0 : Int32) :
    Go p e below s 1 10 (QV (.int (f0_132 i0 i1 i2 i4 i5 t0)) h0 n0) (T.setTop (mkF m 132 #[.val (.int i0), .val (.int i1), .val (.int i2), .val (.ref r3), .val (.int i4), .val (.int i5)] [(.int t0)])) := by
  obtain ⟨hx, hZ, hby, hml, hown, hrt, hlk⟩ := id C
  unfold f0_132
  exact Go.retN X hx hlk hrt (by simp) (hb hby at_132) rfl (Nat.le_refl _) (Nat.le_refl _) ⟨rfl, NL, eT⟩
set_option maxRecDepth 65536 in
set_option maxHeartbeats 40000000 in
theorem b0_124 {p : Program} {l : Launch} {e : Env} {s : State} {m : MethodId} {args : Array Value} {below : List Frame} {meth : Method} {c : Code} {Z : State} {a0 : Array Value} {T : State} {locs : List Loc} {h0 : Heap} {n0 : Nat} (C : Ctx p s m meth c Z code 6 x.cls (some .boolean)) (hw : ∀ d ∈ tables_1, d.before a0 Z = true)
    (X : Stand p l e room_1 s m args below meth c T locs 1 10) (eT : T.heap = h0) (NL : Fr n0 locs) (i0 : Int32) (i1 : Int32) (i2 : Int32) (r3 : Addr) (i4 : Int32) (i5 : Int32) (t0 : Int32) (t1 : Int32) :
    Go p e below s 1 10 (QV (.int (f0_124 i0 i1 i2 i4 i5 t0 t1)) h0 n0) (T.setTop (mkF m 124 #[.val (.int i0), .val (.int i1), .val (.int i2), .val (.ref r3), .val (.int i4), .val (.int i5)] [(.int t0), (.int t1)])) := by
  obtain ⟨hx, hZ, hby, hml, hown, hrt, hlk⟩ := id C
  unfold f0_124
  by_cases h124 : t1 = t0
  · rw [if_pos h124]
    refine Go.pre (st' := T.setTop (mkF m 127 #[.val (.int i0), .val (.int i1), .val (.int i2), .val (.ref r3), .val (.int i4), .val (.int i5)] [])) (fun target kt => ?_) ?_
    · show Steps p.tables e below (T.setTop (mkF m 124 #[.val (.int i0), .val (.int i1), .val (.int i2), .val (.ref r3), .val (.int i4), .val (.int i5)] [(.int t0), (.int t1)])) _
      refine XS.icmpNo X.here hx rfl (hb hby at_124) rfl (teq h124).2 ?_
      exact kt
    refine Go.pre (st' := T.setTop (mkF m 132 #[.val (.int i0), .val (.int i1), .val (.int i2), .val (.ref r3), .val (.int i4), .val (.int i5)] [(.int (1 : Int32))])) (fun target kt => ?_) ?_
    · show Steps p.tables e below (T.setTop (mkF m 127 #[.val (.int i0), .val (.int i1), .val (.int i2), .val (.ref r3), .val (.int i4), .val (.int i5)] [])) _
      refine XS.iconst X.here hx rfl (hb hby at_127) ?_
      show Steps p.tables e below (T.setTop (mkF m 128 #[.val (.int i0), .val (.int i1), .val (.int i2), .val (.ref r3), .val (.int i4), .val (.int i5)] [(.int (1 : Int32))])) _
      refine XS.goto X.here hx rfl (pc0 := 128) (pc' := 132) rfl (hb hby at_128) (by decide) (by decide) ?_
      exact kt
    exact b0_132 C hw X eT NL i0 i1 i2 r3 i4 i5 (1 : Int32)
  · rw [if_neg h124]
    refine Go.pre (st' := T.setTop (mkF m 131 #[.val (.int i0), .val (.int i1), .val (.int i2), .val (.ref r3), .val (.int i4), .val (.int i5)] [])) (fun target kt => ?_) ?_
    · show Steps p.tables e below (T.setTop (mkF m 124 #[.val (.int i0), .val (.int i1), .val (.int i2), .val (.ref r3), .val (.int i4), .val (.int i5)] [(.int t0), (.int t1)])) _
      refine XS.icmpYes X.here hx rfl (pc0 := 124) (pc' := 131) rfl (hb hby at_124) rfl (feq h124).2 (by decide) (by decide) ?_
      exact kt
    refine Go.pre (st' := T.setTop (mkF m 132 #[.val (.int i0), .val (.int i1), .val (.int i2), .val (.ref r3), .val (.int i4), .val (.int i5)] [(.int (0 : Int32))])) (fun target kt => ?_) ?_
    · show Steps p.tables e below (T.setTop (mkF m 131 #[.val (.int i0), .val (.int i1), .val (.int i2), .val (.ref r3), .val (.int i4), .val (.int i5)] [])) _
      refine XS.iconst X.here hx rfl (hb hby at_131) ?_
      exact kt
    exact b0_132 C hw X eT NL i0 i1 i2 r3 i4 i5 (0 : Int32)
set_option maxRecDepth 65536 in
set_option maxHeartbeats 40000000 in
theorem b0_106 {p : Program} {l : Launch} {e : Env} {s : State} {m : MethodId} {args : Array Value} {below : List Frame} {meth : Method} {c : Code} {Z : State} {a0 : Array Value} {T : State} {locs : List Loc} {h0 : Heap} {n0 : Nat} (C : Ctx p s m meth c Z code 6 x.cls (some .boolean)) (hw : ∀ d ∈ tables_1, d.before a0 Z = true)
    (X : Stand p l e room_1 s m args below meth c T locs 1 10) (eT : T.heap = h0) (NL : Fr n0 locs) (i0 : Int32) (i1 : Int32) (i2 : Int32) (r3 : Addr) (i4 : Int32) (i5 : Int32) :
    Go p e below s 1 10 (QV (.int (f0_106 i0 i1 i2 i4 i5)) h0 n0) (T.setTop (mkF m 106 #[.val (.int i0), .val (.int i1), .val (.int i2), .val (.ref r3), .val (.int i4), .val (.int i5)] [])) := by
  obtain ⟨hx, hZ, hby, hml, hown, hrt, hlk⟩ := id C
  unfold f0_106
  refine Go.pre (st' := T.setTop (mkF m 108 #[.val (.int i0), .val (.int i1), .val (.int i2), .val (.ref r3), .val (.int i4), .val (.int i5)] [(.int i5)])) (fun target kt => ?_) ?_
  · show Steps p.tables e below (T.setTop (mkF m 106 #[.val (.int i0), .val (.int i1), .val (.int i2), .val (.ref r3), .val (.int i4), .val (.int i5)] [])) _
    refine XS.iload X.here hx rfl (hb hby at_106) rfl ?_
    exact kt
  obtain ⟨_, _, ⟨T108, L108, k108, n108⟩, -, X108, ⟨Lc108, hQ108, l108, y108, z108⟩, st108⟩ := Jvm.LawKit.callS X hx (y := (⟨site_108.cls, "isChar", "(I)Z"⟩ : MethodName)) hown (mvT hZ (hw _ (List.mem_of_getElem? (i := 7) rfl))) (mvT hZ (hw _ (List.mem_of_getElem? (i := 8) rfl))) (mvT hZ (hw _ (List.mem_of_getElem? (i := 9) rfl))) (mvT hZ (hw _ (List.mem_of_getElem? (i := 10) rfl))) (by decide) (backOf (W := 0) (rm1 l Z a0 hw [] i5 h0 n0) hZ (hw _ (List.mem_of_getElem? (i := 10) rfl)) (hw _ (List.mem_of_getElem? (i := 9) rfl)) (by decide) (by decide)) (g := (mkF m 108 #[.val (.int i0), .val (.int i1), .val (.int i2), .val (.ref r3), .val (.int i4), .val (.int i5)] [(.int i5)])) rfl (by rw [hml]; rfl) (argsL := [(.int i5)]) (rest := []) (lenOf pd0_108 rfl) rfl (by show 2 * 0 + _ ≤ _; exact Nat.le_of_eq rfl) (hb hby at_108) (fun _ _ => ⟨rfl, eT, (by decide : 1 + 0 ≤ _), (by decide : 10 + 0 ≤ _)⟩)
  dsimp only [Pt.U, Pt.locs, Pt.cells, Pt.slots] at X108 l108 y108 z108 st108 hQ108
  subst l108 y108 z108
  obtain ⟨rfl, N108q, e108⟩ := hQ108
  have N108 := Fr.app NL N108q
  refine Go.pre st108 ?_
  show Go p e below s 1 10 _ (T108.setTop (mkF m 111 #[.val (.int i0), .val (.int i1), .val (.int i2), .val (.ref r3), .val (.int i4), .val (.int i5)] [(.int (f1_0 i5))]))
  refine Go.pre (st' := T108.setTop (mkF m 113 #[.val (.int i0), .val (.int i1), .val (.int i2), .val (.ref r3), .val (.int i4), .val (.int i5)] [(.int i5), (.int (f1_0 i5))])) (fun target kt => ?_) ?_
  · show Steps p.tables e below (T108.setTop (mkF m 111 #[.val (.int i0), .val (.int i1), .val (.int i2), .val (.ref r3), .val (.int i4), .val (.int i5)] [(.int (f1_0 i5))])) _
    refine XS.iload X108.here hx rfl (hb hby at_111) rfl ?_
    exact kt
  obtain ⟨_, _, ⟨T113, L113, k113, n113⟩, -, X113, ⟨Lc113, hQ113, l113, y113, z113⟩, st113⟩ := Jvm.LawKit.callS X108 hx (y := (⟨x.cls, "forbidden", "(I)Z"⟩ : MethodName)) hown (mvT hZ (hw _ (List.mem_of_getElem? (i := 11) rfl))) (mvT hZ (hw _ (List.mem_of_getElem? (i := 12) rfl))) (mvT hZ (hw _ (List.mem_of_getElem? (i := 13) rfl))) (mvT hZ (hw _ (List.mem_of_getElem? (i := 14) rfl))) (by decide) (backOf (W := 1) (rm2 l Z a0 hw [] i5 h0 n0) hZ (hw _ (List.mem_of_getElem? (i := 14) rfl)) (hw _ (List.mem_of_getElem? (i := 13) rfl)) (by decide) (by decide)) (g := (mkF m 113 #[.val (.int i0), .val (.int i1), .val (.int i2), .val (.ref r3), .val (.int i4), .val (.int i5)] [(.int i5), (.int (f1_0 i5))])) rfl (by rw [hml]; rfl) (argsL := [(.int i5)]) (rest := [(.int (f1_0 i5))]) (lenOf pd0_108 rfl) rfl (by show 2 * 0 + _ ≤ _; exact Nat.le_of_eq rfl) (hb hby at_113) (fun _ _ => ⟨rfl, e108, (by decide : 1 + 0 ≤ _), (by decide : 10 + 0 ≤ _)⟩)
  dsimp only [Pt.U, Pt.locs, Pt.cells, Pt.slots] at X113 l113 y113 z113 st113 hQ113
  subst l113 y113 z113
  obtain ⟨rfl, N113q, e113⟩ := hQ113
  have N113 := Fr.app N108 N113q
  refine Go.pre st113 ?_
  show Go p e below s 1 10 _ (T113.setTop (mkF m 116 #[.val (.int i0), .val (.int i1), .val (.int i2), .val (.ref r3), .val (.int i4), .val (.int i5)] [(.int (f2_0 i5)), (.int (f1_0 i5))]))
  by_cases h116 : (f2_0 i5) = (0 : Int32)
  · rw [if_pos h116]
    refine Go.pre (st' := T113.setTop (mkF m 119 #[.val (.int i0), .val (.int i1), .val (.int i2), .val (.ref r3), .val (.int i4), .val (.int i5)] [(.int (f1_0 i5))])) (fun target kt => ?_) ?_
    · show Steps p.tables e below (T113.setTop (mkF m 116 #[.val (.int i0), .val (.int i1), .val (.int i2), .val (.ref r3), .val (.int i4), .val (.int i5)] [(.int (f2_0 i5)), (.int (f1_0 i5))])) _
      refine XS.ifNo X113.here hx rfl (hb hby at_116) rfl ((if0 _ _).trans (teq h116).2) ?_
      exact kt
    refine Go.pre (st' := T113.setTop (mkF m 124 #[.val (.int i0), .val (.int i1), .val (.int i2), .val (.ref r3), .val (.int i4), .val (.int i5)] [(.int (1 : Int32)), (.int (f1_0 i5))])) (fun target kt => ?_) ?_
    · show Steps p.tables e below (T113.setTop (mkF m 119 #[.val (.int i0), .val (.int i1), .val (.int i2), .val (.ref r3), .val (.int i4), .val (.int i5)] [(.int (f1_0 i5))])) _
      refine XS.iconst X113.here hx rfl (hb hby at_119) ?_
      show Steps p.tables e below (T113.setTop (mkF m 120 #[.val (.int i0), .val (.int i1), .val (.int i2), .val (.ref r3), .val (.int i4), .val (.int i5)] [(.int (1 : Int32)), (.int (f1_0 i5))])) _
      refine XS.goto X113.here hx rfl (pc0 := 120) (pc' := 124) rfl (hb hby at_120) (by decide) (by decide) ?_
      exact kt
    exact b0_124 C hw X113 e113 N113 i0 i1 i2 r3 i4 i5 (1 : Int32) (f1_0 i5)
  · rw [if_neg h116]
    refine Go.pre (st' := T113.setTop (mkF m 123 #[.val (.int i0), .val (.int i1), .val (.int i2), .val (.ref r3), .val (.int i4), .val (.int i5)] [(.int (f1_0 i5))])) (fun target kt => ?_) ?_
    · show Steps p.tables e below (T113.setTop (mkF m 116 #[.val (.int i0), .val (.int i1), .val (.int i2), .val (.ref r3), .val (.int i4), .val (.int i5)] [(.int (f2_0 i5)), (.int (f1_0 i5))])) _
      refine XS.ifYes X113.here hx rfl (pc0 := 116) (pc' := 123) rfl (hb hby at_116) rfl ((if0 _ _).trans (feq h116).2) (by decide) (by decide) ?_
      exact kt
    refine Go.pre (st' := T113.setTop (mkF m 124 #[.val (.int i0), .val (.int i1), .val (.int i2), .val (.ref r3), .val (.int i4), .val (.int i5)] [(.int (0 : Int32)), (.int (f1_0 i5))])) (fun target kt => ?_) ?_
    · show Steps p.tables e below (T113.setTop (mkF m 123 #[.val (.int i0), .val (.int i1), .val (.int i2), .val (.ref r3), .val (.int i4), .val (.int i5)] [(.int (f1_0 i5))])) _
      refine XS.iconst X113.here hx rfl (hb hby at_123) ?_
      exact kt
    exact b0_124 C hw X113 e113 N113 i0 i1 i2 r3 i4 i5 (0 : Int32) (f1_0 i5)
theorem own_p (c : Int32) (z : Int32) : (c < z ↔ c.toInt < z.toInt) ∧ (c = z ↔ c.toInt = z.toInt) := ⟨Int32.lt_iff_toInt_lt, ⟨fun h => by rw [h], fun h => Int32.toInt_inj.mp h⟩⟩
theorem own_same (c : Int32) : (f2_0 c = (0 : Int32) → f1_0 c = (1 : Int32)) ∧ (¬ f2_0 c = (0 : Int32) → f1_0 c = (0 : Int32)) := by
  have e1 : f1_67 c (1 : Int32) = 1 := by unfold f1_67; decide
  have e2 : f1_67 c (0 : Int32) = 0 := by unfold f1_67; decide
  have e3 : f2_71 c (1 : Int32) = 1 := by unfold f2_71; decide
  have e4 : f2_71 c (0 : Int32) = 0 := by unfold f2_71; decide
  unfold f1_0 f1_24 f1_62 f1_36 f1_40 f2_0 f2_28 f2_40 f2_70
  rw [e1, e2, e3, e4]
  simp only [(own_p c _).1, (own_p c _).2, Int32.lt_iff_toInt_lt]
  have k0 : (0 : Int32).toInt = 0 := by decide
  have k1 : (1114111 : Int32).toInt = 1114111 := by decide
  have k2 : (55296 : Int32).toInt = 55296 := by decide
  have k3 : (57343 : Int32).toInt = 57343 := by decide
  have k4 : (65534 : Int32).toInt = 65534 := by decide
  have k5 : (65535 : Int32).toInt = 65535 := by decide
  have k6 : (32 : Int32).toInt = 32 := by decide
  have k7 : (9 : Int32).toInt = 9 := by decide
  have k8 : (10 : Int32).toInt = 10 := by decide
  have k9 : (13 : Int32).toInt = 13 := by decide
  have ka : (55295 : Int32).toInt = 55295 := by decide
  have kb : (57344 : Int32).toInt = 57344 := by decide
  have kc : (65533 : Int32).toInt = 65533 := by decide
  have kd : (65536 : Int32).toInt = 65536 := by decide
  simp only [k0, k1, k2, k3, k4, k5, k6, k7, k8, k9, ka, kb, kc, kd]
  generalize c.toInt = z
  constructor <;> intro h <;> (repeat' split) <;> first | rfl | (exfalso; omega) | (exfalso; revert h; (repeat' split) <;> first | (intro h; exact absurd h (by decide)) | (intro h; exact h rfl) | (exfalso; omega))

theorem law_106 (a b c d e : Int32) : f0_106 a b c d e = 1 := by
  unfold f0_106
  by_cases h : f2_0 e = (0 : Int32)
  · rw [if_pos h]
    unfold f0_124
    rw [if_pos ((own_same e).1 h)]
    unfold f0_132; decide
  · rw [if_neg h]
    unfold f0_124
    rw [if_pos ((own_same e).2 h)]
    unfold f0_132; decide
theorem own_nn (x : Int32) : ¬ (x &&& (15 : Int32)) < (0 : Int32) := by
  have h := (c_and x (15 : Int32) (by decide)).1
  rw [Int32.lt_iff_toInt_lt]
  have : (0 : Int32).toInt = 0 := by decide
  omega
theorem pn_0 : plainName x.cls = true := by first | (simp [plainName, overriddenIn]; done) | decide +kernel
theorem ef_0 (m : MethodId) (p0 : Int32) (p1 : Int32) (p2 : Int32) : entryFrame m #[(.int p0), (.int p1), (.int p2)] maxLocals = (mkF m 0 #[.val (.int p0), .val (.int p1), .val (.int p2), .unset, .unset, .unset] []) := by first | (simp [entryFrame, mkF, argsToLocals, Value.category, maxLocals]; done) | rfl
def Q0 (Z : State) (p0 : Int32) (p1 : Int32) (p2 : Int32) (h0 : Heap) (n0 : Nat) (v : Option Value) (h : Heap) (L : List Loc) : Prop := v = some (.int 1) ∧ Fr n0 L
set_option maxRecDepth 65536 in
set_option maxHeartbeats 40000000 in
theorem rm0 (l : Launch) (Z : State) (a0 : Array Value) (hw : ∀ d ∈ tables_1, d.before a0 Z = true) (ws : List Jvm.Cond) (p0 : Int32) (p1 : Int32) (p2 : Int32) (h0 : Heap) (n0 : Nat) (Z0 : n0 ≤ h0.size) :
    MetFree l x (head1 (Jvm.Cond.code x code maxLocals ret :: ws) room_1) (fun a U => a = #[(.int p0), (.int p1), (.int p2)] ∧ Z.Warmed39 U.vm ∧ U.heap = h0) (fun _ _ _ _ _ => True) (fun _ U o U' => ∃ v L, o = .returned v ∧ Q0 Z p0 p1 p2 h0 n0 v U'.heap L ∧ FrameEnd U o U' L 1 10) := by
  refine MetFree.of_bodySF (plainFor_of_name pn_0) hisR ?_
  intro p e s m args below meth c s₁ Bd hml0 hP hK
  obtain ⟨rfl, hZ, hh⟩ := hP
  have hx := Bd.exec
  have hby := Bd.bytes
  have hml : c.maxLocals = 6 := hml0
  have hown : s.vm.findClass x.cls = some m.cls := findClass_of_methodNamed Bd.named
  have hnm := (name_of_methodNamed Bd.named Bd.method).1
  have hrt := Bd.returns
  have hlk := Bd.notSynchronized
  have X0 : Stand p l e room_1 s m #[(.int p0), (.int p1), (.int p2)] below meth c s₁ [] 0 0 := Stand.of_body Bd
  have e0 : s₁.heap = h0 := by rw [← hh, Bd.state]; rfl
  have N0 := Fr.nil n0
  show Go p e below s 1 10 (Q0 Z p0 p1 p2 h0 n0) (s₁.setTop (entryFrame m #[(.int p0), (.int p1), (.int p2)] maxLocals))
  rw [ef_0 m p0 p1 p2]
  refine Go.pre (st' := s₁.setTop (mkF m 2 #[.val (.int p0), .val (.int p1), .val (.int p2), .unset, .unset, .unset] [(.int (10 : Int32))])) (fun target kt => ?_) ?_
  · show Steps p.tables e below (s₁.setTop (mkF m 0 #[.val (.int p0), .val (.int p1), .val (.int p2), .unset, .unset, .unset] [])) _
    refine XS.bipush X0.here hx rfl (hb hby at_0) ?_
    exact kt
  obtain ⟨T1, h1, k1, X1, e1, E1, A1, st1⟩ := newP X0 hx hZ (hw _ (List.mem_of_getElem? (i := 0) rfl)) e0 (g := (mkF m 2 #[.val (.int p0), .val (.int p1), .val (.int p2), .unset, .unset, .unset] [(.int (10 : Int32))])) rfl (hb hby at_2) rfl (by decide) (cap := 10) (by decide) (by decide) (by decide) (by decide)
  obtain ⟨b1, g1⟩ : ∃ z, z = h0.size := ⟨_, rfl⟩
  rw [← g1] at A1 st1
  have sz1 : h0.size ≤ h1.size := E1.1
  have V1 : Arv Z h1 b1 k1 .int (10 : Int32) [(.int (0 : Int32)), (.int (0 : Int32)), (.int (0 : Int32)), (.int (0 : Int32)), (.int (0 : Int32)), (.int (0 : Int32)), (.int (0 : Int32)), (.int (0 : Int32)), (.int (0 : Int32)), (.int (0 : Int32))] (.int (0 : Int32)) := (Arv.new A1 (by decide)).pad (pad_rep [] (.int (0 : Int32)) 10)
  have lt1 : b1 < h1.size := V1.lt
  refine Go.pre st1 ?_
  show Go p e below s _ _ _ (T1.setTop (mkF m 4 #[.val (.int p0), .val (.int p1), .val (.int p2), .unset, .unset, .unset] [(.ref b1)]))
  refine Go.pre (st' := T1.setTop (mkF m 7 #[.val (.int p0), .val (.int p1), .val (.int p2), .unset, .unset, .unset] [(.int (0 : Int32)), (.int (0 : Int32)), (.ref b1), (.ref b1)])) (fun target kt => ?_) ?_
  · show Steps p.tables e below (T1.setTop (mkF m 4 #[.val (.int p0), .val (.int p1), .val (.int p2), .unset, .unset, .unset] [(.ref b1)])) _
    refine XS.dup X1.here hx rfl (hb hby at_4) rfl rfl ?_
    show Steps p.tables e below (T1.setTop (mkF m 5 #[.val (.int p0), .val (.int p1), .val (.int p2), .unset, .unset, .unset] [(.ref b1), (.ref b1)])) _
    refine XS.iconst X1.here hx rfl (hb hby at_5) ?_
    show Steps p.tables e below (T1.setTop (mkF m 6 #[.val (.int p0), .val (.int p1), .val (.int p2), .unset, .unset, .unset] [(.int (0 : Int32)), (.ref b1), (.ref b1)])) _
    refine XS.iconst X1.here hx rfl (hb hby at_6) ?_
    exact kt
  obtain ⟨cl2, Ar2, q2, Sz2, Nn2, Hs2, Gs2⟩ := V1
  have in2 := inb_of (j := (0 : Int32)) Sz2 ⟨by decide, by decide⟩
  obtain ⟨T2, h2, X2, e2, W2, st2⟩ := stI X1 hx hZ e1 Ar2 (j := (0 : Int32)) in2 (g := (mkF m 7 #[.val (.int p0), .val (.int p1), .val (.int p2), .unset, .unset, .unset] [(.int (0 : Int32)), (.int (0 : Int32)), (.ref b1), (.ref b1)])) rfl rfl (hb hby at_7)
  have sz2 : h1.size ≤ h2.size := (Keep.of_wr W2).1
  have V2 : Arv Z h2 b1 k1 .int (10 : Int32) [(.int (0 : Int32)), (.int (0 : Int32)), (.int (0 : Int32)), (.int (0 : Int32)), (.int (0 : Int32)), (.int (0 : Int32)), (.int (0 : Int32)), (.int (0 : Int32)), (.int (0 : Int32)), (.int (0 : Int32))] (.int (0 : Int32)) := Arv.set Ar2 q2 Sz2 Nn2 Hs2 Gs2 rfl W2 0 rfl (Nat.le_of_ble_eq_true rfl)
  have N2 := Fr.snoc X2 N0 (by omega)
  refine Go.pre st2 ?_
  show Go p e below s _ _ _ (T2.setTop (mkF m 8 #[.val (.int p0), .val (.int p1), .val (.int p2), .unset, .unset, .unset] [(.ref b1)]))
  refine Go.pre (st' := T2.setTop (mkF m 12 #[.val (.int p0), .val (.int p1), .val (.int p2), .unset, .unset, .unset] [(.int (9 : Int32)), (.int (1 : Int32)), (.ref b1), (.ref b1)])) (fun target kt => ?_) ?_
  · show Steps p.tables e below (T2.setTop (mkF m 8 #[.val (.int p0), .val (.int p1), .val (.int p2), .unset, .unset, .unset] [(.ref b1)])) _
    refine XS.dup X2.here hx rfl (hb hby at_8) rfl rfl ?_
    show Steps p.tables e below (T2.setTop (mkF m 9 #[.val (.int p0), .val (.int p1), .val (.int p2), .unset, .unset, .unset] [(.ref b1), (.ref b1)])) _
    refine XS.iconst X2.here hx rfl (hb hby at_9) ?_
    show Steps p.tables e below (T2.setTop (mkF m 10 #[.val (.int p0), .val (.int p1), .val (.int p2), .unset, .unset, .unset] [(.int (1 : Int32)), (.ref b1), (.ref b1)])) _
    refine XS.bipush X2.here hx rfl (hb hby at_10) ?_
    exact kt
  obtain ⟨cl3, Ar3, q3, Sz3, Nn3, Hs3, Gs3⟩ := V2
  have in3 := inb_of (j := (1 : Int32)) Sz3 ⟨by decide, by decide⟩
  obtain ⟨T3, h3, X3, e3, W3, st3⟩ := stI X2 hx hZ e2 Ar3 (j := (1 : Int32)) in3 (g := (mkF m 12 #[.val (.int p0), .val (.int p1), .val (.int p2), .unset, .unset, .unset] [(.int (9 : Int32)), (.int (1 : Int32)), (.ref b1), (.ref b1)])) rfl rfl (hb hby at_12)
  have sz3 : h2.size ≤ h3.size := (Keep.of_wr W3).1
  have V3 : Arv Z h3 b1 k1 .int (10 : Int32) [(.int (0 : Int32)), (.int (9 : Int32)), (.int (0 : Int32)), (.int (0 : Int32)), (.int (0 : Int32)), (.int (0 : Int32)), (.int (0 : Int32)), (.int (0 : Int32)), (.int (0 : Int32)), (.int (0 : Int32))] (.int (0 : Int32)) := Arv.set Ar3 q3 Sz3 Nn3 Hs3 Gs3 rfl W3 1 rfl (Nat.le_of_ble_eq_true rfl)
  have N3 := Fr.snoc X3 N2 (by omega)
  refine Go.pre st3 ?_
  show Go p e below s _ _ _ (T3.setTop (mkF m 13 #[.val (.int p0), .val (.int p1), .val (.int p2), .unset, .unset, .unset] [(.ref b1)]))
  refine Go.pre (st' := T3.setTop (mkF m 17 #[.val (.int p0), .val (.int p1), .val (.int p2), .unset, .unset, .unset] [(.int (13 : Int32)), (.int (2 : Int32)), (.ref b1), (.ref b1)])) (fun target kt => ?_) ?_
  · show Steps p.tables e below (T3.setTop (mkF m 13 #[.val (.int p0), .val (.int p1), .val (.int p2), .unset, .unset, .unset] [(.ref b1)])) _
    refine XS.dup X3.here hx rfl (hb hby at_13) rfl rfl ?_
    show Steps p.tables e below (T3.setTop (mkF m 14 #[.val (.int p0), .val (.int p1), .val (.int p2), .unset, .unset, .unset] [(.ref b1), (.ref b1)])) _
    refine XS.iconst X3.here hx rfl (hb hby at_14) ?_
    show Steps p.tables e below (T3.setTop (mkF m 15 #[.val (.int p0), .val (.int p1), .val (.int p2), .unset, .unset, .unset] [(.int (2 : Int32)), (.ref b1), (.ref b1)])) _
    refine XS.bipush X3.here hx rfl (hb hby at_15) ?_
    exact kt
  obtain ⟨cl4, Ar4, q4, Sz4, Nn4, Hs4, Gs4⟩ := V3
  have in4 := inb_of (j := (2 : Int32)) Sz4 ⟨by decide, by decide⟩
  obtain ⟨T4, h4, X4, e4, W4, st4⟩ := stI X3 hx hZ e3 Ar4 (j := (2 : Int32)) in4 (g := (mkF m 17 #[.val (.int p0), .val (.int p1), .val (.int p2), .unset, .unset, .unset] [(.int (13 : Int32)), (.int (2 : Int32)), (.ref b1), (.ref b1)])) rfl rfl (hb hby at_17)
  have sz4 : h3.size ≤ h4.size := (Keep.of_wr W4).1
  have V4 : Arv Z h4 b1 k1 .int (10 : Int32) [(.int (0 : Int32)), (.int (9 : Int32)), (.int (13 : Int32)), (.int (0 : Int32)), (.int (0 : Int32)), (.int (0 : Int32)), (.int (0 : Int32)), (.int (0 : Int32)), (.int (0 : Int32)), (.int (0 : Int32))] (.int (0 : Int32)) := Arv.set Ar4 q4 Sz4 Nn4 Hs4 Gs4 rfl W4 2 rfl (Nat.le_of_ble_eq_true rfl)
  have N4 := Fr.snoc X4 N3 (by omega)
  refine Go.pre st4 ?_
  show Go p e below s _ _ _ (T4.setTop (mkF m 18 #[.val (.int p0), .val (.int p1), .val (.int p2), .unset, .unset, .unset] [(.ref b1)]))
  refine Go.pre (st' := T4.setTop (mkF m 22 #[.val (.int p0), .val (.int p1), .val (.int p2), .unset, .unset, .unset] [(.int (32 : Int32)), (.int (3 : Int32)), (.ref b1), (.ref b1)])) (fun target kt => ?_) ?_
  · show Steps p.tables e below (T4.setTop (mkF m 18 #[.val (.int p0), .val (.int p1), .val (.int p2), .unset, .unset, .unset] [(.ref b1)])) _
    refine XS.dup X4.here hx rfl (hb hby at_18) rfl rfl ?_
    show Steps p.tables e below (T4.setTop (mkF m 19 #[.val (.int p0), .val (.int p1), .val (.int p2), .unset, .unset, .unset] [(.ref b1), (.ref b1)])) _
    refine XS.iconst X4.here hx rfl (hb hby at_19) ?_
    show Steps p.tables e below (T4.setTop (mkF m 20 #[.val (.int p0), .val (.int p1), .val (.int p2), .unset, .unset, .unset] [(.int (3 : Int32)), (.ref b1), (.ref b1)])) _
    refine XS.bipush X4.here hx rfl (hb hby at_20) ?_
    exact kt
  obtain ⟨cl5, Ar5, q5, Sz5, Nn5, Hs5, Gs5⟩ := V4
  have in5 := inb_of (j := (3 : Int32)) Sz5 ⟨by decide, by decide⟩
  obtain ⟨T5, h5, X5, e5, W5, st5⟩ := stI X4 hx hZ e4 Ar5 (j := (3 : Int32)) in5 (g := (mkF m 22 #[.val (.int p0), .val (.int p1), .val (.int p2), .unset, .unset, .unset] [(.int (32 : Int32)), (.int (3 : Int32)), (.ref b1), (.ref b1)])) rfl rfl (hb hby at_22)
  have sz5 : h4.size ≤ h5.size := (Keep.of_wr W5).1
  have V5 : Arv Z h5 b1 k1 .int (10 : Int32) [(.int (0 : Int32)), (.int (9 : Int32)), (.int (13 : Int32)), (.int (32 : Int32)), (.int (0 : Int32)), (.int (0 : Int32)), (.int (0 : Int32)), (.int (0 : Int32)), (.int (0 : Int32)), (.int (0 : Int32))] (.int (0 : Int32)) := Arv.set Ar5 q5 Sz5 Nn5 Hs5 Gs5 rfl W5 3 rfl (Nat.le_of_ble_eq_true rfl)
  have N5 := Fr.snoc X5 N4 (by omega)
  refine Go.pre st5 ?_
  show Go p e below s _ _ _ (T5.setTop (mkF m 23 #[.val (.int p0), .val (.int p1), .val (.int p2), .unset, .unset, .unset] [(.ref b1)]))
  refine Go.pre (st' := T5.setTop (mkF m 27 #[.val (.int p0), .val (.int p1), .val (.int p2), .unset, .unset, .unset] [(.int (55295 : Int32)), (.int (4 : Int32)), (.ref b1), (.ref b1)])) (fun target kt => ?_) ?_
  · show Steps p.tables e below (T5.setTop (mkF m 23 #[.val (.int p0), .val (.int p1), .val (.int p2), .unset, .unset, .unset] [(.ref b1)])) _
    refine XS.dup X5.here hx rfl (hb hby at_23) rfl rfl ?_
    show Steps p.tables e below (T5.setTop (mkF m 24 #[.val (.int p0), .val (.int p1), .val (.int p2), .unset, .unset, .unset] [(.ref b1), (.ref b1)])) _
    refine XS.iconst X5.here hx rfl (hb hby at_24) ?_
    show Steps p.tables e below (T5.setTop (mkF m 25 #[.val (.int p0), .val (.int p1), .val (.int p2), .unset, .unset, .unset] [(.int (4 : Int32)), (.ref b1), (.ref b1)])) _
    refine X5.ldcInt hx hown (mvT hZ (hw _ (List.mem_of_getElem? (i := 1) rfl))) (g := (mkF m 25 #[.val (.int p0), .val (.int p1), .val (.int p2), .unset, .unset, .unset] [(.int (4 : Int32)), (.ref b1), (.ref b1)])) rfl (hb hby at_25) _ ?_
    exact kt
  obtain ⟨cl6, Ar6, q6, Sz6, Nn6, Hs6, Gs6⟩ := V5
  have in6 := inb_of (j := (4 : Int32)) Sz6 ⟨by decide, by decide⟩
  obtain ⟨T6, h6, X6, e6, W6, st6⟩ := stI X5 hx hZ e5 Ar6 (j := (4 : Int32)) in6 (g := (mkF m 27 #[.val (.int p0), .val (.int p1), .val (.int p2), .unset, .unset, .unset] [(.int (55295 : Int32)), (.int (4 : Int32)), (.ref b1), (.ref b1)])) rfl rfl (hb hby at_27)
  have sz6 : h5.size ≤ h6.size := (Keep.of_wr W6).1
  have V6 : Arv Z h6 b1 k1 .int (10 : Int32) [(.int (0 : Int32)), (.int (9 : Int32)), (.int (13 : Int32)), (.int (32 : Int32)), (.int (55295 : Int32)), (.int (0 : Int32)), (.int (0 : Int32)), (.int (0 : Int32)), (.int (0 : Int32)), (.int (0 : Int32))] (.int (0 : Int32)) := Arv.set Ar6 q6 Sz6 Nn6 Hs6 Gs6 rfl W6 4 rfl (Nat.le_of_ble_eq_true rfl)
  have N6 := Fr.snoc X6 N5 (by omega)
  refine Go.pre st6 ?_
  show Go p e below s _ _ _ (T6.setTop (mkF m 28 #[.val (.int p0), .val (.int p1), .val (.int p2), .unset, .unset, .unset] [(.ref b1)]))
  refine Go.pre (st' := T6.setTop (mkF m 32 #[.val (.int p0), .val (.int p1), .val (.int p2), .unset, .unset, .unset] [(.int (57344 : Int32)), (.int (5 : Int32)), (.ref b1), (.ref b1)])) (fun target kt => ?_) ?_
  · show Steps p.tables e below (T6.setTop (mkF m 28 #[.val (.int p0), .val (.int p1), .val (.int p2), .unset, .unset, .unset] [(.ref b1)])) _
    refine XS.dup X6.here hx rfl (hb hby at_28) rfl rfl ?_
    show Steps p.tables e below (T6.setTop (mkF m 29 #[.val (.int p0), .val (.int p1), .val (.int p2), .unset, .unset, .unset] [(.ref b1), (.ref b1)])) _
    refine XS.iconst X6.here hx rfl (hb hby at_29) ?_
    show Steps p.tables e below (T6.setTop (mkF m 30 #[.val (.int p0), .val (.int p1), .val (.int p2), .unset, .unset, .unset] [(.int (5 : Int32)), (.ref b1), (.ref b1)])) _
    refine X6.ldcInt hx hown (mvT hZ (hw _ (List.mem_of_getElem? (i := 2) rfl))) (g := (mkF m 30 #[.val (.int p0), .val (.int p1), .val (.int p2), .unset, .unset, .unset] [(.int (5 : Int32)), (.ref b1), (.ref b1)])) rfl (hb hby at_30) _ ?_
    exact kt
  obtain ⟨cl7, Ar7, q7, Sz7, Nn7, Hs7, Gs7⟩ := V6
  have in7 := inb_of (j := (5 : Int32)) Sz7 ⟨by decide, by decide⟩
  obtain ⟨T7, h7, X7, e7, W7, st7⟩ := stI X6 hx hZ e6 Ar7 (j := (5 : Int32)) in7 (g := (mkF m 32 #[.val (.int p0), .val (.int p1), .val (.int p2), .unset, .unset, .unset] [(.int (57344 : Int32)), (.int (5 : Int32)), (.ref b1), (.ref b1)])) rfl rfl (hb hby at_32)
  have sz7 : h6.size ≤ h7.size := (Keep.of_wr W7).1
  have V7 : Arv Z h7 b1 k1 .int (10 : Int32) [(.int (0 : Int32)), (.int (9 : Int32)), (.int (13 : Int32)), (.int (32 : Int32)), (.int (55295 : Int32)), (.int (57344 : Int32)), (.int (0 : Int32)), (.int (0 : Int32)), (.int (0 : Int32)), (.int (0 : Int32))] (.int (0 : Int32)) := Arv.set Ar7 q7 Sz7 Nn7 Hs7 Gs7 rfl W7 5 rfl (Nat.le_of_ble_eq_true rfl)
  have N7 := Fr.snoc X7 N6 (by omega)
  refine Go.pre st7 ?_
  show Go p e below s _ _ _ (T7.setTop (mkF m 33 #[.val (.int p0), .val (.int p1), .val (.int p2), .unset, .unset, .unset] [(.ref b1)]))
  refine Go.pre (st' := T7.setTop (mkF m 38 #[.val (.int p0), .val (.int p1), .val (.int p2), .unset, .unset, .unset] [(.int (65533 : Int32)), (.int (6 : Int32)), (.ref b1), (.ref b1)])) (fun target kt => ?_) ?_
  · show Steps p.tables e below (T7.setTop (mkF m 33 #[.val (.int p0), .val (.int p1), .val (.int p2), .unset, .unset, .unset] [(.ref b1)])) _
    refine XS.dup X7.here hx rfl (hb hby at_33) rfl rfl ?_
    show Steps p.tables e below (T7.setTop (mkF m 34 #[.val (.int p0), .val (.int p1), .val (.int p2), .unset, .unset, .unset] [(.ref b1), (.ref b1)])) _
    refine XS.bipush X7.here hx rfl (hb hby at_34) ?_
    show Steps p.tables e below (T7.setTop (mkF m 36 #[.val (.int p0), .val (.int p1), .val (.int p2), .unset, .unset, .unset] [(.int (6 : Int32)), (.ref b1), (.ref b1)])) _
    refine X7.ldcInt hx hown (mvT hZ (hw _ (List.mem_of_getElem? (i := 3) rfl))) (g := (mkF m 36 #[.val (.int p0), .val (.int p1), .val (.int p2), .unset, .unset, .unset] [(.int (6 : Int32)), (.ref b1), (.ref b1)])) rfl (hb hby at_36) _ ?_
    exact kt
  obtain ⟨cl8, Ar8, q8, Sz8, Nn8, Hs8, Gs8⟩ := V7
  have in8 := inb_of (j := (6 : Int32)) Sz8 ⟨by decide, by decide⟩
  obtain ⟨T8, h8, X8, e8, W8, st8⟩ := stI X7 hx hZ e7 Ar8 (j := (6 : Int32)) in8 (g := (mkF m 38 #[.val (.int p0), .val (.int p1), .val (.int p2), .unset, .unset, .unset] [(.int (65533 : Int32)), (.int (6 : Int32)), (.ref b1), (.ref b1)])) rfl rfl (hb hby at_38)
  have sz8 : h7.size ≤ h8.size := (Keep.of_wr W8).1
  have V8 : Arv Z h8 b1 k1 .int (10 : Int32) [(.int (0 : Int32)), (.int (9 : Int32)), (.int (13 : Int32)), (.int (32 : Int32)), (.int (55295 : Int32)), (.int (57344 : Int32)), (.int (65533 : Int32)), (.int (0 : Int32)), (.int (0 : Int32)), (.int (0 : Int32))] (.int (0 : Int32)) := Arv.set Ar8 q8 Sz8 Nn8 Hs8 Gs8 rfl W8 6 rfl (Nat.le_of_ble_eq_true rfl)
  have N8 := Fr.snoc X8 N7 (by omega)
  refine Go.pre st8 ?_
  show Go p e below s _ _ _ (T8.setTop (mkF m 39 #[.val (.int p0), .val (.int p1), .val (.int p2), .unset, .unset, .unset] [(.ref b1)]))
  refine Go.pre (st' := T8.setTop (mkF m 44 #[.val (.int p0), .val (.int p1), .val (.int p2), .unset, .unset, .unset] [(.int (65536 : Int32)), (.int (7 : Int32)), (.ref b1), (.ref b1)])) (fun target kt => ?_) ?_
  · show Steps p.tables e below (T8.setTop (mkF m 39 #[.val (.int p0), .val (.int p1), .val (.int p2), .unset, .unset, .unset] [(.ref b1)])) _
    refine XS.dup X8.here hx rfl (hb hby at_39) rfl rfl ?_
    show Steps p.tables e below (T8.setTop (mkF m 40 #[.val (.int p0), .val (.int p1), .val (.int p2), .unset, .unset, .unset] [(.ref b1), (.ref b1)])) _
    refine XS.bipush X8.here hx rfl (hb hby at_40) ?_
    show Steps p.tables e below (T8.setTop (mkF m 42 #[.val (.int p0), .val (.int p1), .val (.int p2), .unset, .unset, .unset] [(.int (7 : Int32)), (.ref b1), (.ref b1)])) _
    refine X8.ldcInt hx hown (mvT hZ (hw _ (List.mem_of_getElem? (i := 4) rfl))) (g := (mkF m 42 #[.val (.int p0), .val (.int p1), .val (.int p2), .unset, .unset, .unset] [(.int (7 : Int32)), (.ref b1), (.ref b1)])) rfl (hb hby at_42) _ ?_
    exact kt
  obtain ⟨cl9, Ar9, q9, Sz9, Nn9, Hs9, Gs9⟩ := V8
  have in9 := inb_of (j := (7 : Int32)) Sz9 ⟨by decide, by decide⟩
  obtain ⟨T9, h9, X9, e9, W9, st9⟩ := stI X8 hx hZ e8 Ar9 (j := (7 : Int32)) in9 (g := (mkF m 44 #[.val (.int p0), .val (.int p1), .val (.int p2), .unset, .unset, .unset] [(.int (65536 : Int32)), (.int (7 : Int32)), (.ref b1), (.ref b1)])) rfl rfl (hb hby at_44)
  have sz9 : h8.size ≤ h9.size := (Keep.of_wr W9).1
  have V9 : Arv Z h9 b1 k1 .int (10 : Int32) [(.int (0 : Int32)), (.int (9 : Int32)), (.int (13 : Int32)), (.int (32 : Int32)), (.int (55295 : Int32)), (.int (57344 : Int32)), (.int (65533 : Int32)), (.int (65536 : Int32)), (.int (0 : Int32)), (.int (0 : Int32))] (.int (0 : Int32)) := Arv.set Ar9 q9 Sz9 Nn9 Hs9 Gs9 rfl W9 7 rfl (Nat.le_of_ble_eq_true rfl)
  have N9 := Fr.snoc X9 N8 (by omega)
  refine Go.pre st9 ?_
  show Go p e below s _ _ _ (T9.setTop (mkF m 45 #[.val (.int p0), .val (.int p1), .val (.int p2), .unset, .unset, .unset] [(.ref b1)]))
  refine Go.pre (st' := T9.setTop (mkF m 50 #[.val (.int p0), .val (.int p1), .val (.int p2), .unset, .unset, .unset] [(.int (1114111 : Int32)), (.int (8 : Int32)), (.ref b1), (.ref b1)])) (fun target kt => ?_) ?_
  · show Steps p.tables e below (T9.setTop (mkF m 45 #[.val (.int p0), .val (.int p1), .val (.int p2), .unset, .unset, .unset] [(.ref b1)])) _
    refine XS.dup X9.here hx rfl (hb hby at_45) rfl rfl ?_
    show Steps p.tables e below (T9.setTop (mkF m 46 #[.val (.int p0), .val (.int p1), .val (.int p2), .unset, .unset, .unset] [(.ref b1), (.ref b1)])) _
    refine XS.bipush X9.here hx rfl (hb hby at_46) ?_
    show Steps p.tables e below (T9.setTop (mkF m 48 #[.val (.int p0), .val (.int p1), .val (.int p2), .unset, .unset, .unset] [(.int (8 : Int32)), (.ref b1), (.ref b1)])) _
    refine X9.ldcInt hx hown (mvT hZ (hw _ (List.mem_of_getElem? (i := 5) rfl))) (g := (mkF m 48 #[.val (.int p0), .val (.int p1), .val (.int p2), .unset, .unset, .unset] [(.int (8 : Int32)), (.ref b1), (.ref b1)])) rfl (hb hby at_48) _ ?_
    exact kt
  obtain ⟨cl10, Ar10, q10, Sz10, Nn10, Hs10, Gs10⟩ := V9
  have in10 := inb_of (j := (8 : Int32)) Sz10 ⟨by decide, by decide⟩
  obtain ⟨T10, h10, X10, e10, W10, st10⟩ := stI X9 hx hZ e9 Ar10 (j := (8 : Int32)) in10 (g := (mkF m 50 #[.val (.int p0), .val (.int p1), .val (.int p2), .unset, .unset, .unset] [(.int (1114111 : Int32)), (.int (8 : Int32)), (.ref b1), (.ref b1)])) rfl rfl (hb hby at_50)
  have sz10 : h9.size ≤ h10.size := (Keep.of_wr W10).1
  have V10 : Arv Z h10 b1 k1 .int (10 : Int32) [(.int (0 : Int32)), (.int (9 : Int32)), (.int (13 : Int32)), (.int (32 : Int32)), (.int (55295 : Int32)), (.int (57344 : Int32)), (.int (65533 : Int32)), (.int (65536 : Int32)), (.int (1114111 : Int32)), (.int (0 : Int32))] (.int (0 : Int32)) := Arv.set Ar10 q10 Sz10 Nn10 Hs10 Gs10 rfl W10 8 rfl (Nat.le_of_ble_eq_true rfl)
  have N10 := Fr.snoc X10 N9 (by omega)
  refine Go.pre st10 ?_
  show Go p e below s _ _ _ (T10.setTop (mkF m 51 #[.val (.int p0), .val (.int p1), .val (.int p2), .unset, .unset, .unset] [(.ref b1)]))
  refine Go.pre (st' := T10.setTop (mkF m 56 #[.val (.int p0), .val (.int p1), .val (.int p2), .unset, .unset, .unset] [(.int (57343 : Int32)), (.int (9 : Int32)), (.ref b1), (.ref b1)])) (fun target kt => ?_) ?_
  · show Steps p.tables e below (T10.setTop (mkF m 51 #[.val (.int p0), .val (.int p1), .val (.int p2), .unset, .unset, .unset] [(.ref b1)])) _
    refine XS.dup X10.here hx rfl (hb hby at_51) rfl rfl ?_
    show Steps p.tables e below (T10.setTop (mkF m 52 #[.val (.int p0), .val (.int p1), .val (.int p2), .unset, .unset, .unset] [(.ref b1), (.ref b1)])) _
    refine XS.bipush X10.here hx rfl (hb hby at_52) ?_
    show Steps p.tables e below (T10.setTop (mkF m 54 #[.val (.int p0), .val (.int p1), .val (.int p2), .unset, .unset, .unset] [(.int (9 : Int32)), (.ref b1), (.ref b1)])) _
    refine X10.ldcInt hx hown (mvT hZ (hw _ (List.mem_of_getElem? (i := 6) rfl))) (g := (mkF m 54 #[.val (.int p0), .val (.int p1), .val (.int p2), .unset, .unset, .unset] [(.int (9 : Int32)), (.ref b1), (.ref b1)])) rfl (hb hby at_54) _ ?_
    exact kt
  obtain ⟨cl11, Ar11, q11, Sz11, Nn11, Hs11, Gs11⟩ := V10
  have in11 := inb_of (j := (9 : Int32)) Sz11 ⟨by decide, by decide⟩
  obtain ⟨T11, h11, X11, e11, W11, st11⟩ := stI X10 hx hZ e10 Ar11 (j := (9 : Int32)) in11 (g := (mkF m 56 #[.val (.int p0), .val (.int p1), .val (.int p2), .unset, .unset, .unset] [(.int (57343 : Int32)), (.int (9 : Int32)), (.ref b1), (.ref b1)])) rfl rfl (hb hby at_56)
  have sz11 : h10.size ≤ h11.size := (Keep.of_wr W11).1
  have V11 : Arv Z h11 b1 k1 .int (10 : Int32) [(.int (0 : Int32)), (.int (9 : Int32)), (.int (13 : Int32)), (.int (32 : Int32)), (.int (55295 : Int32)), (.int (57344 : Int32)), (.int (65533 : Int32)), (.int (65536 : Int32)), (.int (1114111 : Int32)), (.int (57343 : Int32))] (.int (0 : Int32)) := Arv.set Ar11 q11 Sz11 Nn11 Hs11 Gs11 rfl W11 9 rfl (Nat.le_of_ble_eq_true rfl)
  have N11 := Fr.snoc X11 N10 (by omega)
  refine Go.pre st11 ?_
  show Go p e below s _ _ _ (T11.setTop (mkF m 57 #[.val (.int p0), .val (.int p1), .val (.int p2), .unset, .unset, .unset] [(.ref b1)]))
  refine Go.pre (st' := T11.setTop (mkF m 68 #[.val (.int p0), .val (.int p1), .val (.int p2), .val (.ref b1), .val (.int (p1 &&& (15 : Int32))), .unset] [(.int (10 : Int32)), (.int (p1 &&& (15 : Int32)))])) (fun target kt => ?_) ?_
  · show Steps p.tables e below (T11.setTop (mkF m 57 #[.val (.int p0), .val (.int p1), .val (.int p2), .unset, .unset, .unset] [(.ref b1)])) _
    refine XS.astoreN X11.here hx rfl (hb hby at_57) rfl rfl (l' := #[.val (.int p0), .val (.int p1), .val (.int p2), .val (.ref b1), .unset, .unset]) rfl ?_
    show Steps p.tables e below (T11.setTop (mkF m 58 #[.val (.int p0), .val (.int p1), .val (.int p2), .val (.ref b1), .unset, .unset] [])) _
    refine XS.iloadN X11.here hx rfl (hb hby at_58) rfl ?_
    show Steps p.tables e below (T11.setTop (mkF m 59 #[.val (.int p0), .val (.int p1), .val (.int p2), .val (.ref b1), .unset, .unset] [(.int p1)])) _
    refine XS.bipush X11.here hx rfl (hb hby at_59) ?_
    show Steps p.tables e below (T11.setTop (mkF m 61 #[.val (.int p0), .val (.int p1), .val (.int p2), .val (.ref b1), .unset, .unset] [(.int (15 : Int32)), (.int p1)])) _
    refine XS.iand X11.here hx rfl (hb hby at_61) rfl ?_
    show Steps p.tables e below (T11.setTop (mkF m 62 #[.val (.int p0), .val (.int p1), .val (.int p2), .val (.ref b1), .unset, .unset] [(.int (p1 &&& (15 : Int32)))])) _
    refine XS.istore X11.here hx rfl (hb hby at_62) rfl (l' := #[.val (.int p0), .val (.int p1), .val (.int p2), .val (.ref b1), .val (.int (p1 &&& (15 : Int32))), .unset]) rfl ?_
    show Steps p.tables e below (T11.setTop (mkF m 64 #[.val (.int p0), .val (.int p1), .val (.int p2), .val (.ref b1), .val (.int (p1 &&& (15 : Int32))), .unset] [])) _
    refine XS.iload X11.here hx rfl (hb hby at_64) rfl ?_
    show Steps p.tables e below (T11.setTop (mkF m 66 #[.val (.int p0), .val (.int p1), .val (.int p2), .val (.ref b1), .val (.int (p1 &&& (15 : Int32))), .unset] [(.int (p1 &&& (15 : Int32)))])) _
    refine XS.bipush X11.here hx rfl (hb hby at_66) ?_
    exact kt
  by_cases h68_12 : (p1 &&& (15 : Int32)) < (10 : Int32)
  · refine Go.pre (st' := T11.setTop (mkF m 71 #[.val (.int p0), .val (.int p1), .val (.int p2), .val (.ref b1), .val (.int (p1 &&& (15 : Int32))), .unset] [])) (fun target kt => ?_) ?_
    · show Steps p.tables e below (T11.setTop (mkF m 68 #[.val (.int p0), .val (.int p1), .val (.int p2), .val (.ref b1), .val (.int (p1 &&& (15 : Int32))), .unset] [(.int (10 : Int32)), (.int (p1 &&& (15 : Int32)))])) _
      refine XS.icmpNo X11.here hx rfl (hb hby at_68) rfl (tlt h68_12).2.1 ?_
      exact kt
    refine Go.pre (st' := T11.setTop (mkF m 74 #[.val (.int p0), .val (.int p1), .val (.int p2), .val (.ref b1), .val (.int (p1 &&& (15 : Int32))), .unset] [(.int (p1 &&& (15 : Int32))), (.ref b1)])) (fun target kt => ?_) ?_
    · show Steps p.tables e below (T11.setTop (mkF m 71 #[.val (.int p0), .val (.int p1), .val (.int p2), .val (.ref b1), .val (.int (p1 &&& (15 : Int32))), .unset] [])) _
      refine XS.aloadN X11.here hx rfl (hb hby at_71) rfl rfl ?_
      show Steps p.tables e below (T11.setTop (mkF m 72 #[.val (.int p0), .val (.int p1), .val (.int p2), .val (.ref b1), .val (.int (p1 &&& (15 : Int32))), .unset] [(.ref b1)])) _
      refine XS.iload X11.here hx rfl (hb hby at_72) rfl ?_
      exact kt
    obtain ⟨cl13, Ar13, q13, Sz13, Nn13, Hs13, Gs13⟩ := V11
    have inx := inb_of (j := (p1 &&& (15 : Int32))) Sz13 ⟨own_nn _, h68_12⟩
    obtain ⟨x74, hx74⟩ := fit_I (Gs13 _ (Nat.lt_of_not_le fun q => inx (Or.inr q))) (Or.inl rfl)
    have in13 := inb_of (j := (p1 &&& (15 : Int32))) Sz13 ⟨own_nn _, h68_12⟩
    have at13 : cl13.slots[((p1 &&& (15 : Int32))).toNatClampNeg]? = some (.int x74) := Has.at Hs13 in13 hx74
    refine Go.pre (X11.iaload hx (j := (p1 &&& (15 : Int32))) (v := (.int x74)) (by rw [e11]; exact Ar13.1) (State.isArrayOf_alike hZ.alike Ar13.2.1) Ar13.2.2 in13 at13 (g := (mkF m 74 #[.val (.int p0), .val (.int p1), .val (.int p2), .val (.ref b1), .val (.int (p1 &&& (15 : Int32))), .unset] [(.int (p1 &&& (15 : Int32))), (.ref b1)])) rfl rfl (hb hby at_74)) ?_
    show Go p e below s _ _ _ (T11.setTop (mkF m 75 #[.val (.int p0), .val (.int p1), .val (.int p2), .val (.ref b1), .val (.int (p1 &&& (15 : Int32))), .unset] [(.int x74)]))
    refine Go.pre (st' := T11.setTop (mkF m 106 #[.val (.int p0), .val (.int p1), .val (.int p2), .val (.ref b1), .val (.int (p1 &&& (15 : Int32))), .val (.int (x74 + ((p2 &&& (7 : Int32)) - (4 : Int32))))] [])) (fun target kt => ?_) ?_
    · show Steps p.tables e below (T11.setTop (mkF m 75 #[.val (.int p0), .val (.int p1), .val (.int p2), .val (.ref b1), .val (.int (p1 &&& (15 : Int32))), .unset] [(.int x74)])) _
      refine XS.iloadN X11.here hx rfl (hb hby at_75) rfl ?_
      show Steps p.tables e below (T11.setTop (mkF m 76 #[.val (.int p0), .val (.int p1), .val (.int p2), .val (.ref b1), .val (.int (p1 &&& (15 : Int32))), .unset] [(.int p2), (.int x74)])) _
      refine XS.bipush X11.here hx rfl (hb hby at_76) ?_
      show Steps p.tables e below (T11.setTop (mkF m 78 #[.val (.int p0), .val (.int p1), .val (.int p2), .val (.ref b1), .val (.int (p1 &&& (15 : Int32))), .unset] [(.int (7 : Int32)), (.int p2), (.int x74)])) _
      refine XS.iand X11.here hx rfl (hb hby at_78) rfl ?_
      show Steps p.tables e below (T11.setTop (mkF m 79 #[.val (.int p0), .val (.int p1), .val (.int p2), .val (.ref b1), .val (.int (p1 &&& (15 : Int32))), .unset] [(.int (p2 &&& (7 : Int32))), (.int x74)])) _
      refine XS.iconst X11.here hx rfl (hb hby at_79) ?_
      show Steps p.tables e below (T11.setTop (mkF m 80 #[.val (.int p0), .val (.int p1), .val (.int p2), .val (.ref b1), .val (.int (p1 &&& (15 : Int32))), .unset] [(.int (4 : Int32)), (.int (p2 &&& (7 : Int32))), (.int x74)])) _
      refine XS.isub X11.here hx rfl (hb hby at_80) rfl ?_
      show Steps p.tables e below (T11.setTop (mkF m 81 #[.val (.int p0), .val (.int p1), .val (.int p2), .val (.ref b1), .val (.int (p1 &&& (15 : Int32))), .unset] [(.int ((p2 &&& (7 : Int32)) - (4 : Int32))), (.int x74)])) _
      refine XS.iadd X11.here hx rfl (hb hby at_81) rfl ?_
      show Steps p.tables e below (T11.setTop (mkF m 82 #[.val (.int p0), .val (.int p1), .val (.int p2), .val (.ref b1), .val (.int (p1 &&& (15 : Int32))), .unset] [(.int (x74 + ((p2 &&& (7 : Int32)) - (4 : Int32))))])) _
      refine XS.istore X11.here hx rfl (hb hby at_82) rfl (l' := #[.val (.int p0), .val (.int p1), .val (.int p2), .val (.ref b1), .val (.int (p1 &&& (15 : Int32))), .val (.int (x74 + ((p2 &&& (7 : Int32)) - (4 : Int32))))]) rfl ?_
      show Steps p.tables e below (T11.setTop (mkF m 84 #[.val (.int p0), .val (.int p1), .val (.int p2), .val (.ref b1), .val (.int (p1 &&& (15 : Int32))), .val (.int (x74 + ((p2 &&& (7 : Int32)) - (4 : Int32))))] [])) _
      refine XS.goto X11.here hx rfl (pc0 := 84) (pc' := 106) rfl (hb hby at_84) (by decide) (by decide) ?_
      exact kt
    have C : Ctx p s m meth c Z code 6 x.cls (some .boolean) := ⟨hx, hZ, hby, hml, hown, hrt, hlk⟩
    exact (b0_106 C hw X11 e11 N11 p0 p1 p2 b1 (p1 &&& (15 : Int32)) (x74 + ((p2 &&& (7 : Int32)) - (4 : Int32)))).mono (fun v h L q => ⟨q.1.trans (by rw [law_106]), q.2.1⟩)
  · refine Go.pre (st' := T11.setTop (mkF m 87 #[.val (.int p0), .val (.int p1), .val (.int p2), .val (.ref b1), .val (.int (p1 &&& (15 : Int32))), .unset] [])) (fun target kt => ?_) ?_
    · show Steps p.tables e below (T11.setTop (mkF m 68 #[.val (.int p0), .val (.int p1), .val (.int p2), .val (.ref b1), .val (.int (p1 &&& (15 : Int32))), .unset] [(.int (10 : Int32)), (.int (p1 &&& (15 : Int32)))])) _
      refine XS.icmpYes X11.here hx rfl (pc0 := 68) (pc' := 87) rfl (hb hby at_68) rfl (flt h68_12).2.1 (by decide) (by decide) ?_
      exact kt
    refine Go.pre (st' := T11.setTop (mkF m 91 #[.val (.int p0), .val (.int p1), .val (.int p2), .val (.ref b1), .val (.int (p1 &&& (15 : Int32))), .unset] [(.int (13 : Int32)), (.int (p1 &&& (15 : Int32)))])) (fun target kt => ?_) ?_
    · show Steps p.tables e below (T11.setTop (mkF m 87 #[.val (.int p0), .val (.int p1), .val (.int p2), .val (.ref b1), .val (.int (p1 &&& (15 : Int32))), .unset] [])) _
      refine XS.iload X11.here hx rfl (hb hby at_87) rfl ?_
      show Steps p.tables e below (T11.setTop (mkF m 89 #[.val (.int p0), .val (.int p1), .val (.int p2), .val (.ref b1), .val (.int (p1 &&& (15 : Int32))), .unset] [(.int (p1 &&& (15 : Int32)))])) _
      refine XS.bipush X11.here hx rfl (hb hby at_89) ?_
      exact kt
    by_cases h91_14 : (p1 &&& (15 : Int32)) < (13 : Int32)
    · refine Go.pre (st' := T11.setTop (mkF m 94 #[.val (.int p0), .val (.int p1), .val (.int p2), .val (.ref b1), .val (.int (p1 &&& (15 : Int32))), .unset] [])) (fun target kt => ?_) ?_
      · show Steps p.tables e below (T11.setTop (mkF m 91 #[.val (.int p0), .val (.int p1), .val (.int p2), .val (.ref b1), .val (.int (p1 &&& (15 : Int32))), .unset] [(.int (13 : Int32)), (.int (p1 &&& (15 : Int32)))])) _
        refine XS.icmpNo X11.here hx rfl (hb hby at_91) rfl (tlt h91_14).2.1 ?_
        exact kt
      refine Go.pre (st' := T11.setTop (mkF m 106 #[.val (.int p0), .val (.int p1), .val (.int p2), .val (.ref b1), .val (.int (p1 &&& (15 : Int32))), .val (.int p0)] [])) (fun target kt => ?_) ?_
      · show Steps p.tables e below (T11.setTop (mkF m 94 #[.val (.int p0), .val (.int p1), .val (.int p2), .val (.ref b1), .val (.int (p1 &&& (15 : Int32))), .unset] [])) _
        refine XS.iloadN X11.here hx rfl (hb hby at_94) rfl ?_
        show Steps p.tables e below (T11.setTop (mkF m 95 #[.val (.int p0), .val (.int p1), .val (.int p2), .val (.ref b1), .val (.int (p1 &&& (15 : Int32))), .unset] [(.int p0)])) _
        refine XS.istore X11.here hx rfl (hb hby at_95) rfl (l' := #[.val (.int p0), .val (.int p1), .val (.int p2), .val (.ref b1), .val (.int (p1 &&& (15 : Int32))), .val (.int p0)]) rfl ?_
        show Steps p.tables e below (T11.setTop (mkF m 97 #[.val (.int p0), .val (.int p1), .val (.int p2), .val (.ref b1), .val (.int (p1 &&& (15 : Int32))), .val (.int p0)] [])) _
        refine XS.goto X11.here hx rfl (pc0 := 97) (pc' := 106) rfl (hb hby at_97) (by decide) (by decide) ?_
        exact kt
      have C : Ctx p s m meth c Z code 6 x.cls (some .boolean) := ⟨hx, hZ, hby, hml, hown, hrt, hlk⟩
      exact (b0_106 C hw X11 e11 N11 p0 p1 p2 b1 (p1 &&& (15 : Int32)) p0).mono (fun v h L q => ⟨q.1.trans (by rw [law_106]), q.2.1⟩)
    · refine Go.pre (st' := T11.setTop (mkF m 100 #[.val (.int p0), .val (.int p1), .val (.int p2), .val (.ref b1), .val (.int (p1 &&& (15 : Int32))), .unset] [])) (fun target kt => ?_) ?_
      · show Steps p.tables e below (T11.setTop (mkF m 91 #[.val (.int p0), .val (.int p1), .val (.int p2), .val (.ref b1), .val (.int (p1 &&& (15 : Int32))), .unset] [(.int (13 : Int32)), (.int (p1 &&& (15 : Int32)))])) _
        refine XS.icmpYes X11.here hx rfl (pc0 := 91) (pc' := 100) rfl (hb hby at_91) rfl (flt h91_14).2.1 (by decide) (by decide) ?_
        exact kt
      refine Go.pre (st' := T11.setTop (mkF m 106 #[.val (.int p0), .val (.int p1), .val (.int p2), .val (.ref b1), .val (.int (p1 &&& (15 : Int32))), .val (.int (p0 &&& (2097151 : Int32)))] [])) (fun target kt => ?_) ?_
      · show Steps p.tables e below (T11.setTop (mkF m 100 #[.val (.int p0), .val (.int p1), .val (.int p2), .val (.ref b1), .val (.int (p1 &&& (15 : Int32))), .unset] [])) _
        refine XS.iloadN X11.here hx rfl (hb hby at_100) rfl ?_
        show Steps p.tables e below (T11.setTop (mkF m 101 #[.val (.int p0), .val (.int p1), .val (.int p2), .val (.ref b1), .val (.int (p1 &&& (15 : Int32))), .unset] [(.int p0)])) _
        refine X11.ldcInt hx hown (mvT hZ (hw _ (List.mem_of_getElem? (i := 19) rfl))) (g := (mkF m 101 #[.val (.int p0), .val (.int p1), .val (.int p2), .val (.ref b1), .val (.int (p1 &&& (15 : Int32))), .unset] [(.int p0)])) rfl (hb hby at_101) _ ?_
        show Steps p.tables e below (T11.setTop (mkF m 103 #[.val (.int p0), .val (.int p1), .val (.int p2), .val (.ref b1), .val (.int (p1 &&& (15 : Int32))), .unset] [(.int (2097151 : Int32)), (.int p0)])) _
        refine XS.iand X11.here hx rfl (hb hby at_103) rfl ?_
        show Steps p.tables e below (T11.setTop (mkF m 104 #[.val (.int p0), .val (.int p1), .val (.int p2), .val (.ref b1), .val (.int (p1 &&& (15 : Int32))), .unset] [(.int (p0 &&& (2097151 : Int32)))])) _
        refine XS.istore X11.here hx rfl (hb hby at_104) rfl (l' := #[.val (.int p0), .val (.int p1), .val (.int p2), .val (.ref b1), .val (.int (p1 &&& (15 : Int32))), .val (.int (p0 &&& (2097151 : Int32)))]) rfl ?_
        exact kt
      have C : Ctx p s m meth c Z code 6 x.cls (some .boolean) := ⟨hx, hZ, hby, hml, hown, hrt, hlk⟩
      exact (b0_106 C hw X11 e11 N11 p0 p1 p2 b1 (p1 &&& (15 : Int32)) (p0 &&& (2097151 : Int32))).mono (fun v h L q => ⟨q.1.trans (by rw [law_106]), q.2.1⟩)
set_option maxRecDepth 65536 in
set_option maxHeartbeats 40000000 in
theorem comes_1 {Post : Tables → Env → Array Value → State → Outcome → State → Prop} (hpost : ∀ tb e args s v u, (limb_1_1.after args s (.returned v) u = true ∧ limb_1_2.after args s (.returned v) u = true ∧ True) → FrameEnd s (.returned v) u (Jvm.fieldLocs frame_1_writes args s ++ Jvm.arrayLocs frame_1_arrays args s ++ Jvm.staticLocs frame_1_statics s) 16 128 → Post tb e args s (.returned v) u) :
    ArmFor flags0 classFile x code maxLocals ret World_1 tables_1 room_1 Calls_1 rest_1 Pre_1 Post := by
  intro l hfl _ _ p e ha hc hk s m args below hf hA hF happ hP
  obtain ⟨hcalls, hrest, hpre⟩ := hP
  obtain ⟨-, -, -, hnamed, -, -, -, hat⟩ := (Spec.applies_iff hf).mp happ
  obtain ⟨hg, hn⟩ := and_e (Cond.before_iff.mp (show (Jvm.Cond.and given_1 narrow_1).before args s = true from hpre))
  obtain ⟨g0, hg1⟩ := and_e hg
  obtain ⟨g1, hg2⟩ := and_e hg1
  obtain ⟨g2, hg3⟩ := and_e hg2
  obtain ⟨w0, w1, w2, rfl⟩ : ∃ w0 w1 w2 : Value, args = #[w0, w1, w2] := by
    have hs : args.size = 3 := by simpa [Cond.value, given_1] using g0
    obtain ⟨L⟩ := args
    match L, hs with
    | [w0, w1, w2], _ => exact ⟨w0, w1, w2, rfl⟩
  have hw := fun d (hd : d ∈ tables_1) => atoms_spec (ws := Jvm.Cond.code x code maxLocals ret :: tables_1) hat d (List.mem_cons_of_mem _ hd)
  obtain ⟨i0, ei0⟩ := is_v g1
  obtain rfl : w0 = (.int i0) := Option.some.inj ei0
  obtain ⟨i1, ei1⟩ := is_v g2
  obtain rfl : w1 = (.int i1) := Option.some.inj ei1
  obtain ⟨i2, ei2⟩ := is_v hg3
  obtain rfl : w2 = (.int i2) := Option.some.inj ei2
  obtain ⟨n, o, h1, h2, h3, _, L, rfl, ⟨rfl, N⟩, hq⟩ := rm0 l s _ hw tables_1 i0 i1 i2 s.heap s.heap.size (Nat.le_refl _) p e ha hc hk s m _ below hf ((Spec.applies_iff_loose hf).mp happ).1 ⟨rfl, State.Warmed39.refl s, rfl⟩ trivial
  refine ⟨n, _, h1, h2, h3, hpost _ _ _ _ _ _ ⟨Cond.after_iff.mpr rfl, Cond.after_iff.mpr (eq_i res_at (Term.int_eval (1)) rfl), trivial⟩ ⟨hq.1, hq.2.1, (hq.2.2.sift fun y hy => Or.inr (N y hy)).mono (by decide) (by decide)⟩⟩
theorem main_1_1 : Claimed_1_1 := comes_1 fun _ _ _ _ _ _ h hF => ⟨h.1, hF⟩
theorem main_1_2 : Claimed_1_2 := comes_1 fun _ _ _ _ _ _ h hF => ⟨h.2.1, hF⟩
end Jvm.Pilot.@@N@@
namespace Jvm.Pilot.@@N@@
open Jvm Jvm.ClassFile Sem Op Lib Jvm.Free Jvm.Stand Jvm.Pilot.@@N@@.Jvm.D
namespace start1
open Jvm.ClassFile
def u (s : String) : CpInfo := .utf8 (stringToUtf16 s)
def gap : Nat → List CpInfo → List CpInfo
  | 0, r => r
  | n + 1, r => .unusable :: gap n r
def poolList (es : List (Nat × CpInfo)) (last : Nat) : List CpInfo := es.foldr (fun e r => gap e.1 (e.2 :: r)) (gap last [])
def pool (es : List (Nat × CpInfo)) (last : Nat) : Array CpInfo := ⟨poolList es last⟩
def fileOf (pool : Array CpInfo) (this : Nat) (attrs : Array Attribute := #[]) (ms : Array MethodInfo := #[]) (fl : Nat := 33) (sup : Nat := 0) (ifs : Array Nat := #[]) (fds : Array FieldInfo := #[]) : ClassFile where
  minorVersion := 0
  majorVersion := 65
  constantPool := pool
  accessFlags := fl
  thisClass := this
  superClass := sup
  interfaces := ifs
  fields := fds
  methods := ms
  attributes := attrs
def plain (name : String) (sup : Option ClassId) : Class where
  name := name
  kind := .ordinary
  loader := none
  accessFlags := 33
  super := sup
  interfaces := #[]
  cf := none
  fields := #[]
  methods := #[]
  instanceTypes := #[]
  staticTypes := #[]
  resolved := #[]
  callSites := []
  init := .initialized
  statics := none
  mirror := none

def pool0 : Array CpInfo := pool [(5, u "<init>"), (0, u "()V"), (1, .class_ 10), (1, u "java/lang/Object")] 113

def k0m0 : Method := { name := "<init>", desc := "()V", sig := { parameters := [], returnType := none }, accessFlags := 1, code := none }
def k0 : Class := { plain "java/lang/Object" none with
  accessFlags := 33
  interfaces := #[]
  cf := some (fileOf pool0 8 #[] #[{ accessFlags := 1, nameIndex := 5, descriptorIndex := 6, attributes := #[] }] 33 0 #[] #[])
  fields := #[]
  methods := #[k0m0]
  instanceTypes := #[]
  staticTypes := #[]
  resolved := Array.replicate 124 none
  statics := none }

def pool1 : Array CpInfo := pool [(2, .class_ 4), (1, u "java/lang/Object"), (0, u "<init>"), (0, u "()V"), (0, .integer 1114111), (0, .integer 55296), (0, .integer 57343), (0, .integer 65534), (0, .integer 65535), (0, .integer 55295), (0, .integer 57344), (0, .integer 65533), (0, .integer 65536), (0, .integer 2097151), (0, .methodref 18 19), (0, .class_ 20), (0, .nameAndType 21 22), (0, u site_108.cls), (0, u "isChar"), (0, u "(I)Z"), (0, .methodref 24 25), (0, .class_ 26), (0, .nameAndType 27 22), (0, u x.cls), (0, u "forbidden"), (3, u "law"), (0, u "(III)Z")] 4

def k1m0 : Method := { name := "<init>", desc := "()V", sig := { parameters := [], returnType := none }, accessFlags := 2, code := none }
def k1c1 : Code := { maxStack := 2, maxLocals := 1, code := method_2_code, exceptionTable := #[], attributes := #[] }
def k1m1 : Method := { name := "forbidden", desc := "(I)Z", sig := { parameters := [.int], returnType := some .boolean }, accessFlags := 10, code := some k1c1 }
def k1c2 : Code := { maxStack := 4, maxLocals := 6, code := code, exceptionTable := #[], attributes := #[] }
def k1m2 : Method := { name := "law", desc := "(III)Z", sig := { parameters := [.int, .int, .int], returnType := some .boolean }, accessFlags := 9, code := some k1c2 }
def k1 : Class := { plain x.cls (some 0) with
  accessFlags := 49
  interfaces := #[]
  cf := some (fileOf pool1 24 #[] #[{ accessFlags := 2, nameIndex := 5, descriptorIndex := 6, attributes := #[] }, { accessFlags := 10, nameIndex := 27, descriptorIndex := 22, attributes := #[] }, { accessFlags := 9, nameIndex := 31, descriptorIndex := 32, attributes := #[] }] 49 2 #[] #[])
  fields := #[]
  methods := #[k1m0, k1m1, k1m2]
  instanceTypes := #[]
  staticTypes := #[]
  resolved := Array.replicate 37 none
  statics := none }

def pool2 : Array CpInfo := pool [(2, .class_ 4), (1, u "java/lang/Object"), (0, u "<init>"), (0, u "()V"), (0, .integer 55295), (0, .integer 57344), (0, .integer 65533), (0, .integer 65536), (0, .integer 1114111), (11, .class_ 25), (1, u site_108.cls), (1, u "(I)Z"), (10, u "isChar")] 5

def k2m0 : Method := { name := "<init>", desc := "()V", sig := { parameters := [], returnType := none }, accessFlags := 2, code := none }
def k2c1 : Code := { maxStack := 2, maxLocals := 1, code := prog_111_method_2_code, exceptionTable := #[], attributes := #[] }
def k2m1 : Method := { name := "isChar", desc := "(I)Z", sig := { parameters := [.int], returnType := some .boolean }, accessFlags := 9, code := some k2c1 }
def k2 : Class := { plain site_108.cls (some 0) with
  accessFlags := 49
  interfaces := #[]
  cf := some (fileOf pool2 23 #[] #[{ accessFlags := 2, nameIndex := 5, descriptorIndex := 6, attributes := #[] }, { accessFlags := 9, nameIndex := 38, descriptorIndex := 27, attributes := #[] }] 49 2 #[] #[])
  fields := #[]
  methods := #[k2m0, k2m1]
  instanceTypes := #[]
  staticTypes := #[]
  resolved := Array.replicate 44 none
  statics := none }

def pool3 : Array CpInfo := pool [(1, u "java/lang/Cloneable"), (0, .class_ 1), (0, u "java/lang/Object"), (0, .class_ 3)] 3

def k3 : Class := { plain "java/lang/Cloneable" (some 0) with
  accessFlags := 1537
  interfaces := #[]
  cf := some (fileOf pool3 2 #[] #[] 1537 4 #[] #[])
  fields := #[]
  methods := #[]
  instanceTypes := #[]
  staticTypes := #[]
  resolved := Array.replicate 8 none
  statics := none }

def pool4 : Array CpInfo := pool [(1, u "java/io/Serializable"), (0, .class_ 1), (0, u "java/lang/Object"), (0, .class_ 3)] 3

def k4 : Class := { plain "java/io/Serializable" (some 0) with
  accessFlags := 1537
  interfaces := #[]
  cf := some (fileOf pool4 2 #[] #[] 1537 4 #[] #[])
  fields := #[]
  methods := #[]
  instanceTypes := #[]
  staticTypes := #[]
  resolved := Array.replicate 8 none
  statics := none }

def k5 : Class := { plain "byte" none with kind := .primitive 'B', accessFlags := 0x411 }
def k6 : Class := { plain "[B" (some 0) with kind := .array 5 .byte, interfaces := #[3, 4], accessFlags := 1041 }

def k7 : Class := { plain "int" none with kind := .primitive 'I', accessFlags := 0x411 }
def k8 : Class := { plain "[I" (some 0) with kind := .array 7 .int, interfaces := #[3, 4], accessFlags := 1041 }

def heap : Heap := #[]
def classes : Array Class := #[k0, k1, k2, k3, k4, k5, k6, k7, k8]
def interned : List (Array UInt16 × Addr) := []
def slotsUsed : Nat := 0
def theMethod : MethodId := ⟨1, 2⟩
def args0 : Array Value := #[.int 65, .int 6, .int 3]
def aboutOver (below : List Frame) : State where
  vm := { classes := classes, interned := interned.toArray }
  heap := heap
  slotsUsed := slotsUsed
  threads := #[{ frames := .invoking theMethod args0 :: below }]
def below0 : List Frame := [.native { method := ⟨0, 0⟩, args := #[] }]
def about1 : State := aboutOver below0
def p0 : Program := .bare "" "" ""
def e0 : Env := launch0.env 0 0 0
theorem w_frames : about1.frames = Frame.invoking theMethod args0 :: below0 := rfl
set_option maxRecDepth 65536 in
theorem w_args : argsFit about1.vm theMethod args0 = true := by decide +kernel
set_option maxRecDepth 65536 in
theorem w_heap : heapFits about1 = true := by decide +kernel
set_option maxRecDepth 65536 in
theorem w_runnable : about1.curStatus? = some .runnable := by decide +kernel
set_option maxRecDepth 65536 in
theorem w_alone : about1.alone = true := by decide +kernel
set_option maxRecDepth 65536 in
theorem w_named : about1.methodNamed? x = some theMethod := by decide +kernel
set_option maxRecDepth 65536 in
theorem w_hears : about1.hears theMethod below0 = true := by decide +kernel
set_option maxRecDepth 65536 in
theorem w_ripe : about1.ripe theMethod args0 below0 = true := by decide +kernel
theorem w_running : about1.status = .running := rfl
set_option maxRecDepth 65536 in
theorem w_room : about1.hasRoom e0.platform room_1 = true :=
  launch0.hasRoom_least _ room_1 (by decide +kernel) (by decide +kernel) (by decide +kernel) (by decide +kernel) (by decide +kernel) (by decide +kernel)
theorem allAtoms_all (ts : List Jvm.Cond) (a : Array Jvm.Value) (st : Jvm.State) : (allAtoms ts).before a st = ts.all (fun c => c.before a st) := by
  induction ts with
  | nil => rfl
  | cons c t ih =>
    show (Jvm.Cond.and c (allAtoms t)).before a st = _
    rw [Jvm.Cond.before_and, ih, List.all_cons]
def words1 : List Jvm.Cond := Jvm.Cond.code x code maxLocals ret :: tables_1
theorem code_word {y : MethodName} {bytes : ByteArray} {mx : Nat} {rt : Option FieldType} {a : Array Value} {s : State} {m : MethodId} {meth : Method} {c : Code} (h1 : s.methodNamed? y = some m) (h2 : s.vm.method? m = some meth) (h3 : meth.code = some c) (h4 : c.code = bytes)
    (h5 : (c.maxLocals == mx && c.exceptionTable.isEmpty && decide (c.maxStack ≤ mostOperands) && decide (meth.sig.returnType = rt) && !meth.locks && decide (parseMethodDescriptor y.desc = some meth.sig)) = true) : (Jvm.Cond.code y bytes mx rt).before a s = true := by
  simp only [Bool.and_eq_true, beq_iff_eq, Bool.not_eq_true', decide_eq_true_eq] at h5
  obtain ⟨⟨⟨⟨⟨g1, g2⟩, g3⟩, g4⟩, g5⟩, g6⟩ := h5
  simp [Cond.before, Cond.holds, Cond.value, h1, h2, h3, h4, g1, g2, g3, g4, g5, g6]
def isCode : Jvm.Cond → Bool
  | .code _ _ _ _ => true
  | _ => false
theorem all_split {L : List Jvm.Cond} {P : Jvm.Cond → Bool} (h1 : L.all (fun c => isCode c || P c) = true) (h2 : ∀ c ∈ L.filter isCode, P c = true) : L.all P = true := by
  refine List.all_eq_true.mpr fun c hc => ?_
  have h := List.all_eq_true.mp h1 c hc
  rcases Bool.eq_false_or_eq_true (isCode c) with hi | hi
  · exact h2 c (List.mem_filter.mpr ⟨hc, hi⟩)
  · simpa [hi] using h
set_option maxRecDepth 65536 in
theorem w_c0 : (Jvm.Cond.code x code maxLocals ret).before args0 about1 = true := code_word (m := ⟨1, 2⟩) (meth := k1m2) (c := k1c2) (by decide +kernel) rfl rfl rfl (by decide +kernel)
set_option maxRecDepth 65536 in
theorem w_c1 : (Jvm.Cond.code ({ cls := site_108.cls, name := "isChar", desc := "(I)Z" } : Jvm.MethodName) prog_111_method_2_code (1 : Nat) (Option.some Jvm.ClassFile.FieldType.boolean)).before args0 about1 = true := code_word (m := ⟨2, 1⟩) (meth := k2m1) (c := k2c1) (by decide +kernel) rfl rfl rfl (by decide +kernel)
set_option maxRecDepth 65536 in
theorem w_c2 : (Jvm.Cond.code ({ cls := x.cls, name := "forbidden", desc := "(I)Z" } : Jvm.MethodName) method_2_code (1 : Nat) (Option.some Jvm.ClassFile.FieldType.boolean)).before args0 about1 = true := code_word (m := ⟨1, 1⟩) (meth := k1m1) (c := k1c1) (by decide +kernel) rfl rfl rfl (by decide +kernel)
def codes1 : List Jvm.Cond := [Jvm.Cond.code x code maxLocals ret, Jvm.Cond.code ({ cls := site_108.cls, name := "isChar", desc := "(I)Z" } : Jvm.MethodName) prog_111_method_2_code (1 : Nat) (Option.some Jvm.ClassFile.FieldType.boolean), Jvm.Cond.code ({ cls := x.cls, name := "forbidden", desc := "(I)Z" } : Jvm.MethodName) method_2_code (1 : Nat) (Option.some Jvm.ClassFile.FieldType.boolean)]
set_option maxRecDepth 65536 in
theorem codes_eq : words1.filter isCode = codes1 := rfl
theorem w_codes : ∀ c ∈ words1.filter isCode, c.before args0 about1 = true := by
  rw [codes_eq]
  intro c hc
  simp only [codes1, List.mem_cons, List.not_mem_nil, or_false] at hc
  rcases hc with rfl | rfl | rfl
  · exact w_c0
  · exact w_c1
  · exact w_c2
set_option maxRecDepth 65536 in
theorem w_t1 : (words1.take 24).all (fun c => isCode c || c.before args0 about1) = true := by decide +kernel
set_option maxRecDepth 65536 in
theorem w_t2 : (words1.drop 24).all (fun c => isCode c || c.before args0 about1) = true := by decide +kernel
theorem w_tables : (allAtoms (Jvm.Cond.code x code maxLocals ret :: tables_1)).before args0 about1 = true := by
  rw [allAtoms_all]
  show words1.all (fun c => c.before args0 about1) = true
  refine all_split ?_ w_codes
  rw [← List.take_append_drop 24 words1, List.all_append, w_t1, w_t2]
  rfl
set_option maxRecDepth 65536 in
theorem w_case : (Jvm.Cond.and given_1 narrow_1).before args0 about1 = true := by decide +kernel
theorem w_applies : (headSpec (Jvm.Cond.code x code maxLocals ret :: tables_1) room_1).applies x e0.platform about1 = true :=
  (Spec.applies_iff w_frames).mpr ⟨w_running, w_runnable, w_alone, w_named, w_hears, w_ripe, w_room, w_tables⟩
theorem atStart : AtStart classFile x code maxLocals ret World_1 tables_1 room_1 Calls_1 rest_1 Pre_1 launch0 p0 e0 about1 theMethod args0 below0 :=
  ⟨lists_1, trivial, launch0.admits_env _ _ _, launch0.least_env, fairChoices_fair.cas, fairChoices_fair.clock, w_frames, w_args, w_heap, w_applies, trivial, trivial, w_case⟩
end start1
theorem witness_1 : WitnessClaimed_1 := ⟨start1.p0, start1.e0, start1.about1, start1.theMethod, start1.args0, start1.below0, start1.atStart⟩
end Jvm.Pilot.@@N@@
