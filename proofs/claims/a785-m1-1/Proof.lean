import JvmDerived
import JvmDerived.Pilot.@@N@@Statement
import JvmDerived.Pilot.@@N@@Code
set_option linter.unusedVariables false
set_option linter.unusedSimpArgs false
namespace Jvm.Pilot.@@N@@
open Jvm Jvm.ClassFile Sem Op Lib Jvm.Free Jvm.Stand Jvm.LawKit Jvm.RoadKit Bundle Jvm.Pilot.@@N@@.Jvm.D
/-! 0. the run from a state on, said once: it ends, and how -/
def Go (p : Program) (e : Env) (below : List Frame) (s : State) (K N : Nat) (Q : Option Value → Heap → List Loc → Prop) (st : State) : Prop :=
  ∃ s₂ o, Steps p.tables e below st s₂ ∧ s₂.status = .running ∧ Ended s₂ below o ∧ ∃ v L, o = .returned v ∧ Q v s₂.heap L ∧ FrameEnd s o s₂ L K N
/-- what is known of the walk all along -/
def Ctx (p : Program) (s : State) (m : MethodId) (meth : Method) (c : Code) (Z : State) (bytes : ByteArray) (maxl : Nat) (own : String) (ret : Option FieldType) : Prop :=
  p.tables.exec = Jvm.exec ∧ Z.Warmed39 s.vm ∧ c.code = bytes ∧ c.maxLocals = maxl ∧ s.vm.findClass own = some m.cls ∧ meth.sig.returnType = ret ∧ meth.locks = false
/-- a value comes back, the heap is as it was -/
def QV (w : Value) (h0 : Heap) (n0 : Nat) (v : Option Value) (h : Heap) (L : List Loc) : Prop := v = some w ∧ Fr n0 L ∧ h = h0
section Own
variable {p : Program} {l : Launch} {e : Env} {R : Room} {s : State} {m : MethodId} {args : Array Value} {below : List Frame} {meth : Method} {c : Code} {T : State} {locs : List Loc} {cells slots K N : Nat} {Q : Option Value → Heap → List Loc → Prop} {st st' : State}
theorem Go.pre (h : ∀ t, Steps p.tables e below st' t → Steps p.tables e below st t) (k : Go p e below s K N Q st') : Go p e below s K N Q st := by
  obtain ⟨s₂, o, h1, h2⟩ := k; exact ⟨s₂, o, h _ h1, h2⟩
theorem Go.trans (h : Steps p.tables e below st st') (k : Go p e below s K N Q st') : Go p e below s K N Q st := by
  obtain ⟨s₂, o, h1, h2⟩ := k; exact ⟨s₂, o, h.trans h1, h2⟩
theorem Go.mono {Q' : Option Value → Heap → List Loc → Prop} (k : Go p e below s K N Q st) (h : ∀ v h L, Q v h L → Q' v h L) : Go p e below s K N Q' st := by
  obtain ⟨s₂, o, h1, h2, h3, v, L, h4, h5, h6⟩ := k; exact ⟨s₂, o, h1, h2, h3, v, L, h4, h _ _ _ h5, h6⟩
theorem Go.retN (X : Stand p l e R s m args below meth c T locs cells slots) (hx : p.tables.exec = Jvm.exec) (hlk : meth.locks = false) {pc : Nat} {Ls : Array Slot} {z z' : Int32} {t : FieldType} {rest : List Value} (hret : meth.sig.returnType = some t) (ht : t = .boolean ∨ t = .byte ∨ t = .char ∨ t = .short)
    (hd : decode c.code pc = .ok (.ireturn, 1)) (hz : nar t z = z') (hk : cells ≤ K) (hn : slots ≤ N) (hQ : Q (some (.int z')) T.heap locs) : Go p e below s K N Q (T.setTop (mkF m pc Ls (.int z :: rest))) := by
  subst hz
  obtain ⟨fs, hr, hrun, hended, hW, hsame⟩ := X.leave (v := some (.int (nar t z))) (fun h => by rw [hret] at h; cases h) hlk
  exact ⟨_, _, Jvm.RoadKit.retN X hx hret ht hd hr, hrun, hended, _, _, rfl, hQ, ⟨_, rfl⟩, hW, hsame.mono hk hn⟩
theorem Go.retV (X : Stand p l e R s m args below meth c T locs cells slots) (hx : p.tables.exec = Jvm.exec) (hlk : meth.locks = false) {pc : Nat} {Ls : Array Slot} {w : Value} {t : FieldType} {i : Instr} {rest : List Value} (hret : meth.sig.returnType = some t) (hnr : narrow t w = w)
    (hi : (i = .ireturn ∧ (t = .int ∨ t = .boolean ∨ t = .byte ∨ t = .char ∨ t = .short) ∧ ∃ z, w = .int z) ∨ (i = .lreturn ∧ t = .long ∧ ∃ z, w = .long z) ∨ (i = .dreturn ∧ t = .double ∧ ∃ z, w = .double z) ∨ (i = .freturn ∧ t = .float ∧ ∃ z, w = .float z) ∨ (i = .areturn ∧ t.isReference = true ∧ w.isRef = true))
    (hd : decode c.code pc = .ok (i, 1)) (hk : cells ≤ K) (hn : slots ≤ N) (hQ : Q (some w) T.heap locs) : Go p e below s K N Q (T.setTop (mkF m pc Ls (w :: rest))) := by
  obtain ⟨fs, hr, hrun, hended, hW, hsame⟩ := X.leave (v := some w) (fun h => by rw [hret] at h; cases h) hlk
  exact ⟨_, _, retOut X hx hret hnr hi hd hr, hrun, hended, _, _, rfl, hQ, ⟨_, rfl⟩, hW, hsame.mono hk hn⟩
theorem Go.ret0 (X : Stand p l e R s m args below meth c T locs cells slots) (hx : p.tables.exec = Jvm.exec) (hlk : meth.locks = false) {pc : Nat} {Ls : Array Slot} (hret : meth.sig.returnType = none)
    (hd : decode c.code pc = .ok (.return_, 1)) (hk : cells ≤ K) (hn : slots ≤ N) (hQ : Q none T.heap locs) : Go p e below s K N Q (T.setTop (mkF m pc Ls [])) := by
  obtain ⟨fs, hr, hrun, hended, hW, hsame⟩ := X.leave (v := none) (fun _ => rfl) hlk
  exact ⟨_, _, X.returnOut hx hret hd hr, hrun, hended, _, _, rfl, hQ, ⟨_, rfl⟩, hW, hsame.mono hk hn⟩
end Own

/-! body 1: Subscription.distance -/
theorem d1_0 : decode prog_45_method_4_code 0 = .ok (.lload_n 2, 1) := by decide +kernel
theorem d1_1 : decode prog_45_method_4_code 1 = .ok (.lload_n 0, 1) := by decide +kernel
theorem d1_2 : decode prog_45_method_4_code 2 = .ok (.lsub, 1) := by decide +kernel
theorem d1_3 : decode prog_45_method_4_code 3 = .ok (.lstore 4, 2) := by decide +kernel
theorem d1_5 : decode prog_45_method_4_code 5 = .ok (.lload 4, 2) := by decide +kernel
theorem d1_7 : decode prog_45_method_4_code 7 = .ok (.lconst 0, 1) := by decide +kernel
theorem d1_8 : decode prog_45_method_4_code 8 = .ok (.lcmp, 1) := by decide +kernel
theorem d1_9 : decode prog_45_method_4_code 9 = .ok (.ifCond .ge 12, 3) := by decide +kernel
theorem d1_12 : decode prog_45_method_4_code 12 = .ok (.lload 4, 2) := by decide +kernel
theorem d1_14 : decode prog_45_method_4_code 14 = .ok (.ldc2_w 53, 3) := by decide +kernel
theorem d1_17 : decode prog_45_method_4_code 17 = .ok (.ladd, 1) := by decide +kernel
theorem d1_18 : decode prog_45_method_4_code 18 = .ok (.goto 5, 3) := by decide +kernel
theorem d1_21 : decode prog_45_method_4_code 21 = .ok (.lload 4, 2) := by decide +kernel
theorem d1_23 : decode prog_45_method_4_code 23 = .ok (.lreturn, 1) := by decide +kernel
theorem pn_1 : plainName "com/example/pulsekeep/pulsekeep/core/Subscription" = true := by first | (simp [plainName, overriddenIn]; done) | decide +kernel
theorem ef_1 (m : MethodId) (x0 : Int64) (x1 : Int64) : entryFrame m #[(.long x0), (.long x1)] 6 = (mkF m 0 #[.val (.long x0), .second, .val (.long x1), .second, .unset, .unset] []) := by first | (simp [entryFrame, mkF, argsToLocals, Value.category]; done) | rfl
def f1_23 (j0 : Int64) (j2 : Int64) (j4 : Int64) (t0 : Int64) : Int64 := t0
def f1_0 (j0 : Int64) (j2 : Int64) : Int64 := (if (j2 - j0) < (0 : Int64) then f1_23 j0 j2 (j2 - j0) ((j2 - j0) + (4294967295 : Int64)) else f1_23 j0 j2 (j2 - j0) (j2 - j0))
set_option maxRecDepth 65536 in
set_option maxHeartbeats 40000000 in
theorem b1_23 {p : Program} {l : Launch} {e : Env} {s : State} {m : MethodId} {args : Array Value} {below : List Frame} {meth : Method} {c : Code} {Z : State} {a0 : Array Value} {T : State} {locs : List Loc} {h0 : Heap} {n0 : Nat} (C : Ctx p s m meth c Z prog_45_method_4_code 6 "com/example/pulsekeep/pulsekeep/core/Subscription" (some .long)) (hw : ∀ d ∈ tables_1, d.before a0 Z = true)
    (X : Stand p l e ({ frames := 0, cells := 0, slots := 0, locals := 0 } : Room) s m args below meth c T locs 0 0) (eT : T.heap = h0) (NL : Fr n0 locs) (j0 : Int64) (j2 : Int64) (j4 : Int64) (t0 : Int64) :
    Go p e below s 0 0 (QV (.long (f1_23 j0 j2 j4 t0)) h0 n0) (T.setTop (mkF m 23 #[.val (.long j0), .second, .val (.long j2), .second, .val (.long j4), .second] [(.long t0)])) := by
  obtain ⟨hx, hZ, hby, hml, hown, hrt, hlk⟩ := id C
  unfold f1_23
  exact Go.retV X hx hlk hrt rfl (Or.inr (Or.inl ⟨rfl, rfl, _, rfl⟩)) (hb hby d1_23) (Nat.le_refl _) (Nat.le_refl _) ⟨rfl, NL, eT⟩
set_option maxRecDepth 65536 in
set_option maxHeartbeats 40000000 in
theorem b1_0 {p : Program} {l : Launch} {e : Env} {s : State} {m : MethodId} {args : Array Value} {below : List Frame} {meth : Method} {c : Code} {Z : State} {a0 : Array Value} {T : State} {locs : List Loc} {h0 : Heap} {n0 : Nat} (C : Ctx p s m meth c Z prog_45_method_4_code 6 "com/example/pulsekeep/pulsekeep/core/Subscription" (some .long)) (hw : ∀ d ∈ tables_1, d.before a0 Z = true)
    (X : Stand p l e ({ frames := 0, cells := 0, slots := 0, locals := 0 } : Room) s m args below meth c T locs 0 0) (eT : T.heap = h0) (NL : Fr n0 locs) (j0 : Int64) (j2 : Int64) :
    Go p e below s 0 0 (QV (.long (f1_0 j0 j2)) h0 n0) (T.setTop (mkF m 0 #[.val (.long j0), .second, .val (.long j2), .second, .unset, .unset] [])) := by
  obtain ⟨hx, hZ, hby, hml, hown, hrt, hlk⟩ := id C
  unfold f1_0
  refine Go.pre (st' := T.setTop (mkF m 9 #[.val (.long j0), .second, .val (.long j2), .second, .val (.long (j2 - j0)), .second] [(.int (lcmpW (j2 - j0) (0 : Int64)))])) (fun target kt => ?_) ?_
  · show Steps p.tables e below (T.setTop (mkF m 0 #[.val (.long j0), .second, .val (.long j2), .second, .unset, .unset] [])) _
    refine XS.lloadN X.here hx rfl (hb hby d1_0) rfl ?_
    show Steps p.tables e below (T.setTop (mkF m 1 #[.val (.long j0), .second, .val (.long j2), .second, .unset, .unset] [(.long j2)])) _
    refine XS.lloadN X.here hx rfl (hb hby d1_1) rfl ?_
    show Steps p.tables e below (T.setTop (mkF m 2 #[.val (.long j0), .second, .val (.long j2), .second, .unset, .unset] [(.long j0), (.long j2)])) _
    refine XS.lsub X.here hx rfl (hb hby d1_2) rfl ?_
    show Steps p.tables e below (T.setTop (mkF m 3 #[.val (.long j0), .second, .val (.long j2), .second, .unset, .unset] [(.long (j2 - j0))])) _
    refine XS.lstore X.here hx rfl (hb hby d1_3) rfl (l' := #[.val (.long j0), .second, .val (.long j2), .second, .val (.long (j2 - j0)), .second]) rfl ?_
    show Steps p.tables e below (T.setTop (mkF m 5 #[.val (.long j0), .second, .val (.long j2), .second, .val (.long (j2 - j0)), .second] [])) _
    refine XS.lload X.here hx rfl (hb hby d1_5) rfl ?_
    show Steps p.tables e below (T.setTop (mkF m 7 #[.val (.long j0), .second, .val (.long j2), .second, .val (.long (j2 - j0)), .second] [(.long (j2 - j0))])) _
    refine XS.lconst X.here hx rfl (hb hby d1_7) ?_
    show Steps p.tables e below (T.setTop (mkF m 8 #[.val (.long j0), .second, .val (.long j2), .second, .val (.long (j2 - j0)), .second] [(.long (0 : Int64)), (.long (j2 - j0))])) _
    refine XS.lcmp X.here hx rfl (hb hby d1_8) rfl ?_
    exact kt
  by_cases h9 : (j2 - j0) < (0 : Int64)
  · rw [if_pos h9]
    refine Go.pre (st' := T.setTop (mkF m 12 #[.val (.long j0), .second, .val (.long j2), .second, .val (.long (j2 - j0)), .second] [])) (fun target kt => ?_) ?_
    · show Steps p.tables e below (T.setTop (mkF m 9 #[.val (.long j0), .second, .val (.long j2), .second, .val (.long (j2 - j0)), .second] [(.int (lcmpW (j2 - j0) (0 : Int64)))])) _
      refine XS.ifNo X.here hx rfl (hb hby d1_9) rfl ((if0 _ _).trans (tlt ((lw_lt _ _).mpr h9)).2.1) ?_
      exact kt
    refine Go.pre (st' := T.setTop (mkF m 23 #[.val (.long j0), .second, .val (.long j2), .second, .val (.long (j2 - j0)), .second] [(.long ((j2 - j0) + (4294967295 : Int64)))])) (fun target kt => ?_) ?_
    · show Steps p.tables e below (T.setTop (mkF m 12 #[.val (.long j0), .second, .val (.long j2), .second, .val (.long (j2 - j0)), .second] [])) _
      refine XS.lload X.here hx rfl (hb hby d1_12) rfl ?_
      show Steps p.tables e below (T.setTop (mkF m 14 #[.val (.long j0), .second, .val (.long j2), .second, .val (.long (j2 - j0)), .second] [(.long (j2 - j0))])) _
      refine X.ldc2Long hx hown (mvT hZ (hw _ (List.mem_of_getElem? (i := 6) rfl))) (g := (mkF m 14 #[.val (.long j0), .second, .val (.long j2), .second, .val (.long (j2 - j0)), .second] [(.long (j2 - j0))])) rfl (hb hby d1_14) _ ?_
      show Steps p.tables e below (T.setTop (mkF m 17 #[.val (.long j0), .second, .val (.long j2), .second, .val (.long (j2 - j0)), .second] [(.long (4294967295 : Int64)), (.long (j2 - j0))])) _
      refine XS.ladd X.here hx rfl (hb hby d1_17) rfl ?_
      show Steps p.tables e below (T.setTop (mkF m 18 #[.val (.long j0), .second, .val (.long j2), .second, .val (.long (j2 - j0)), .second] [(.long ((j2 - j0) + (4294967295 : Int64)))])) _
      refine XS.goto X.here hx rfl (pc0 := 18) (pc' := 23) rfl (hb hby d1_18) (by decide) (by decide) ?_
      exact kt
    exact b1_23 C hw X eT NL j0 j2 (j2 - j0) ((j2 - j0) + (4294967295 : Int64))
  · rw [if_neg h9]
    refine Go.pre (st' := T.setTop (mkF m 21 #[.val (.long j0), .second, .val (.long j2), .second, .val (.long (j2 - j0)), .second] [])) (fun target kt => ?_) ?_
    · show Steps p.tables e below (T.setTop (mkF m 9 #[.val (.long j0), .second, .val (.long j2), .second, .val (.long (j2 - j0)), .second] [(.int (lcmpW (j2 - j0) (0 : Int64)))])) _
      refine XS.ifYes X.here hx rfl (pc0 := 9) (pc' := 21) rfl (hb hby d1_9) rfl ((if0 _ _).trans (flt (fun q => h9 ((lw_lt _ _).mp q))).2.1) (by decide) (by decide) ?_
      exact kt
    refine Go.pre (st' := T.setTop (mkF m 23 #[.val (.long j0), .second, .val (.long j2), .second, .val (.long (j2 - j0)), .second] [(.long (j2 - j0))])) (fun target kt => ?_) ?_
    · show Steps p.tables e below (T.setTop (mkF m 21 #[.val (.long j0), .second, .val (.long j2), .second, .val (.long (j2 - j0)), .second] [])) _
      refine XS.lload X.here hx rfl (hb hby d1_21) rfl ?_
      exact kt
    exact b1_23 C hw X eT NL j0 j2 (j2 - j0) (j2 - j0)
set_option maxRecDepth 65536 in
set_option maxHeartbeats 40000000 in
theorem rm1 (l : Launch) (Z : State) (a0 : Array Value) (hw : ∀ d ∈ tables_1, d.before a0 Z = true) (ws : List Jvm.Cond) (x0 : Int64) (x1 : Int64) (h0 : Heap) (n0 : Nat) :
    MetFree l (⟨"com/example/pulsekeep/pulsekeep/core/Subscription", "distance", "(JJ)J"⟩ : MethodName) (head1 (Jvm.Cond.code (⟨"com/example/pulsekeep/pulsekeep/core/Subscription", "distance", "(JJ)J"⟩ : MethodName) prog_45_method_4_code 6 (some .long) :: ws) ({ frames := 0, cells := 0, slots := 0, locals := 0 } : Room)) (fun a U => a = #[(.long x0), (.long x1)] ∧ Z.Warmed39 U.vm ∧ U.heap = h0) (fun _ _ _ _ _ => True) (fun _ U o U' => ∃ v L, o = .returned v ∧ QV (.long (f1_0 x0 x1)) h0 n0 v U'.heap L ∧ FrameEnd U o U' L ({ frames := 0, cells := 0, slots := 0, locals := 0 } : Room).cells ({ frames := 0, cells := 0, slots := 0, locals := 0 } : Room).slots) := by
  refine MetFree.of_bodySF (plainFor_of_name pn_1) hisR ?_
  intro p e s m args below meth c s₁ Bd hml0 hP hK
  obtain ⟨rfl, hZ, hh⟩ := hP
  have C : Ctx p s m meth c Z prog_45_method_4_code 6 "com/example/pulsekeep/pulsekeep/core/Subscription" (some .long) := ⟨Bd.exec, hZ, Bd.bytes, hml0, findClass_of_methodNamed Bd.named, Bd.returns, Bd.notSynchronized⟩
  have X0 : Stand p l e ({ frames := 0, cells := 0, slots := 0, locals := 0 } : Room) s m #[(.long x0), (.long x1)] below meth c s₁ [] 0 0 := Stand.of_body Bd
  have e0 : s₁.heap = h0 := by rw [← hh, Bd.state]; rfl
  rw [ef_1 m x0 x1]
  exact b1_0 C hw X0 e0 (Fr.nil n0) x0 x1
/-! body 2: Subscription.following -/
theorem d2_0 : decode prog_45_method_2_code 0 = .ok (.lload_n 0, 1) := by decide +kernel
theorem d2_1 : decode prog_45_method_2_code 1 = .ok (.ldc2_w 53, 3) := by decide +kernel
theorem d2_4 : decode prog_45_method_2_code 4 = .ok (.lcmp, 1) := by decide +kernel
theorem d2_5 : decode prog_45_method_2_code 5 = .ok (.ifCond .lt 7, 3) := by decide +kernel
theorem d2_8 : decode prog_45_method_2_code 8 = .ok (.lconst 1, 1) := by decide +kernel
theorem d2_9 : decode prog_45_method_2_code 9 = .ok (.goto 6, 3) := by decide +kernel
theorem d2_12 : decode prog_45_method_2_code 12 = .ok (.lload_n 0, 1) := by decide +kernel
theorem d2_13 : decode prog_45_method_2_code 13 = .ok (.lconst 1, 1) := by decide +kernel
theorem d2_14 : decode prog_45_method_2_code 14 = .ok (.ladd, 1) := by decide +kernel
theorem d2_15 : decode prog_45_method_2_code 15 = .ok (.lreturn, 1) := by decide +kernel
theorem pn_2 : plainName "com/example/pulsekeep/pulsekeep/core/Subscription" = true := by first | (simp [plainName, overriddenIn]; done) | decide +kernel
theorem ef_2 (m : MethodId) (x0 : Int64) : entryFrame m #[(.long x0)] 2 = (mkF m 0 #[.val (.long x0), .second] []) := by first | (simp [entryFrame, mkF, argsToLocals, Value.category]; done) | rfl
def f2_15 (j0 : Int64) (t0 : Int64) : Int64 := t0
def f2_0 (j0 : Int64) : Int64 := (if j0 < (4294967295 : Int64) then f2_15 j0 (j0 + (1 : Int64)) else f2_15 j0 (1 : Int64))
set_option maxRecDepth 65536 in
set_option maxHeartbeats 40000000 in
theorem b2_15 {p : Program} {l : Launch} {e : Env} {s : State} {m : MethodId} {args : Array Value} {below : List Frame} {meth : Method} {c : Code} {Z : State} {a0 : Array Value} {T : State} {locs : List Loc} {h0 : Heap} {n0 : Nat} (C : Ctx p s m meth c Z prog_45_method_2_code 2 "com/example/pulsekeep/pulsekeep/core/Subscription" (some .long)) (hw : ∀ d ∈ tables_1, d.before a0 Z = true)
    (X : Stand p l e ({ frames := 0, cells := 0, slots := 0, locals := 0 } : Room) s m args below meth c T locs 0 0) (eT : T.heap = h0) (NL : Fr n0 locs) (j0 : Int64) (t0 : Int64) :
    Go p e below s 0 0 (QV (.long (f2_15 j0 t0)) h0 n0) (T.setTop (mkF m 15 #[.val (.long j0), .second] [(.long t0)])) := by
  obtain ⟨hx, hZ, hby, hml, hown, hrt, hlk⟩ := id C
  unfold f2_15
  exact Go.retV X hx hlk hrt rfl (Or.inr (Or.inl ⟨rfl, rfl, _, rfl⟩)) (hb hby d2_15) (Nat.le_refl _) (Nat.le_refl _) ⟨rfl, NL, eT⟩
set_option maxRecDepth 65536 in
set_option maxHeartbeats 40000000 in
theorem b2_0 {p : Program} {l : Launch} {e : Env} {s : State} {m : MethodId} {args : Array Value} {below : List Frame} {meth : Method} {c : Code} {Z : State} {a0 : Array Value} {T : State} {locs : List Loc} {h0 : Heap} {n0 : Nat} (C : Ctx p s m meth c Z prog_45_method_2_code 2 "com/example/pulsekeep/pulsekeep/core/Subscription" (some .long)) (hw : ∀ d ∈ tables_1, d.before a0 Z = true)
    (X : Stand p l e ({ frames := 0, cells := 0, slots := 0, locals := 0 } : Room) s m args below meth c T locs 0 0) (eT : T.heap = h0) (NL : Fr n0 locs) (j0 : Int64) :
    Go p e below s 0 0 (QV (.long (f2_0 j0)) h0 n0) (T.setTop (mkF m 0 #[.val (.long j0), .second] [])) := by
  obtain ⟨hx, hZ, hby, hml, hown, hrt, hlk⟩ := id C
  unfold f2_0
  refine Go.pre (st' := T.setTop (mkF m 5 #[.val (.long j0), .second] [(.int (lcmpW j0 (4294967295 : Int64)))])) (fun target kt => ?_) ?_
  · show Steps p.tables e below (T.setTop (mkF m 0 #[.val (.long j0), .second] [])) _
    refine XS.lloadN X.here hx rfl (hb hby d2_0) rfl ?_
    show Steps p.tables e below (T.setTop (mkF m 1 #[.val (.long j0), .second] [(.long j0)])) _
    refine X.ldc2Long hx hown (mvT hZ (hw _ (List.mem_of_getElem? (i := 6) rfl))) (g := (mkF m 1 #[.val (.long j0), .second] [(.long j0)])) rfl (hb hby d2_1) _ ?_
    show Steps p.tables e below (T.setTop (mkF m 4 #[.val (.long j0), .second] [(.long (4294967295 : Int64)), (.long j0)])) _
    refine XS.lcmp X.here hx rfl (hb hby d2_4) rfl ?_
    exact kt
  by_cases h5 : j0 < (4294967295 : Int64)
  · rw [if_pos h5]
    refine Go.pre (st' := T.setTop (mkF m 12 #[.val (.long j0), .second] [])) (fun target kt => ?_) ?_
    · show Steps p.tables e below (T.setTop (mkF m 5 #[.val (.long j0), .second] [(.int (lcmpW j0 (4294967295 : Int64)))])) _
      refine XS.ifYes X.here hx rfl (pc0 := 5) (pc' := 12) rfl (hb hby d2_5) rfl ((if0 _ _).trans (tlt ((lw_lt _ _).mpr h5)).1) (by decide) (by decide) ?_
      exact kt
    refine Go.pre (st' := T.setTop (mkF m 15 #[.val (.long j0), .second] [(.long (j0 + (1 : Int64)))])) (fun target kt => ?_) ?_
    · show Steps p.tables e below (T.setTop (mkF m 12 #[.val (.long j0), .second] [])) _
      refine XS.lloadN X.here hx rfl (hb hby d2_12) rfl ?_
      show Steps p.tables e below (T.setTop (mkF m 13 #[.val (.long j0), .second] [(.long j0)])) _
      refine XS.lconst X.here hx rfl (hb hby d2_13) ?_
      show Steps p.tables e below (T.setTop (mkF m 14 #[.val (.long j0), .second] [(.long (1 : Int64)), (.long j0)])) _
      refine XS.ladd X.here hx rfl (hb hby d2_14) rfl ?_
      exact kt
    exact b2_15 C hw X eT NL j0 (j0 + (1 : Int64))
  · rw [if_neg h5]
    refine Go.pre (st' := T.setTop (mkF m 8 #[.val (.long j0), .second] [])) (fun target kt => ?_) ?_
    · show Steps p.tables e below (T.setTop (mkF m 5 #[.val (.long j0), .second] [(.int (lcmpW j0 (4294967295 : Int64)))])) _
      refine XS.ifNo X.here hx rfl (hb hby d2_5) rfl ((if0 _ _).trans (flt (fun q => h5 ((lw_lt _ _).mp q))).1) ?_
      exact kt
    refine Go.pre (st' := T.setTop (mkF m 15 #[.val (.long j0), .second] [(.long (1 : Int64))])) (fun target kt => ?_) ?_
    · show Steps p.tables e below (T.setTop (mkF m 8 #[.val (.long j0), .second] [])) _
      refine XS.lconst X.here hx rfl (hb hby d2_8) ?_
      show Steps p.tables e below (T.setTop (mkF m 9 #[.val (.long j0), .second] [(.long (1 : Int64))])) _
      refine XS.goto X.here hx rfl (pc0 := 9) (pc' := 15) rfl (hb hby d2_9) (by decide) (by decide) ?_
      exact kt
    exact b2_15 C hw X eT NL j0 (1 : Int64)
set_option maxRecDepth 65536 in
set_option maxHeartbeats 40000000 in
theorem rm2 (l : Launch) (Z : State) (a0 : Array Value) (hw : ∀ d ∈ tables_1, d.before a0 Z = true) (ws : List Jvm.Cond) (x0 : Int64) (h0 : Heap) (n0 : Nat) :
    MetFree l (⟨"com/example/pulsekeep/pulsekeep/core/Subscription", "following", "(J)J"⟩ : MethodName) (head1 (Jvm.Cond.code (⟨"com/example/pulsekeep/pulsekeep/core/Subscription", "following", "(J)J"⟩ : MethodName) prog_45_method_2_code 2 (some .long) :: ws) ({ frames := 0, cells := 0, slots := 0, locals := 0 } : Room)) (fun a U => a = #[(.long x0)] ∧ Z.Warmed39 U.vm ∧ U.heap = h0) (fun _ _ _ _ _ => True) (fun _ U o U' => ∃ v L, o = .returned v ∧ QV (.long (f2_0 x0)) h0 n0 v U'.heap L ∧ FrameEnd U o U' L ({ frames := 0, cells := 0, slots := 0, locals := 0 } : Room).cells ({ frames := 0, cells := 0, slots := 0, locals := 0 } : Room).slots) := by
  refine MetFree.of_bodySF (plainFor_of_name pn_2) hisR ?_
  intro p e s m args below meth c s₁ Bd hml0 hP hK
  obtain ⟨rfl, hZ, hh⟩ := hP
  have C : Ctx p s m meth c Z prog_45_method_2_code 2 "com/example/pulsekeep/pulsekeep/core/Subscription" (some .long) := ⟨Bd.exec, hZ, Bd.bytes, hml0, findClass_of_methodNamed Bd.named, Bd.returns, Bd.notSynchronized⟩
  have X0 : Stand p l e ({ frames := 0, cells := 0, slots := 0, locals := 0 } : Room) s m #[(.long x0)] below meth c s₁ [] 0 0 := Stand.of_body Bd
  have e0 : s₁.heap = h0 := by rw [← hh, Bd.state]; rfl
  rw [ef_2 m x0]
  exact b2_0 C hw X0 e0 (Fr.nil n0) x0
/-! body 0: SubscriptionDistancePinLaw.law -/
theorem pn_0 : plainName "com/example/pulsekeep/pulsekeep/core/SubscriptionDistancePinLaw" = true := by first | (simp [plainName, overriddenIn]; done) | decide +kernel
theorem pd0_119 : parseMethodDescriptor "(JJ)J" = some ⟨[.long, .long], some .long⟩ := by decide +kernel
theorem pd0_110 : parseMethodDescriptor "(J)J" = some ⟨[.long], some .long⟩ := by decide +kernel
theorem ef_0 (m : MethodId) (x0 : Int64) (x1 : Int64) : entryFrame m #[(.long x0), (.long x1)] maxLocals = (mkF m 0 #[.val (.long x0), .second, .val (.long x1), .second, .unset, .unset, .unset, .unset, .unset, .unset, .unset, .unset, .unset, .unset, .unset, .unset, .unset, .unset, .unset, .unset, .unset, .unset, .unset] []) := by first | (simp [entryFrame, mkF, argsToLocals, Value.category, maxLocals]; done) | rfl
def f0_187 (j0 : Int64) (j2 : Int64) (j6 : Int64) (j8 : Int64) (j10 : Int64) (j12 : Int64) (j14 : Int64) (i16 : Int32) (j17 : Int64) (j19 : Int64) (j21 : Int64) (t0 : Int32) : Int32 := (t0 &&& 1)
def f0_186 (j0 : Int64) (j2 : Int64) (j6 : Int64) (j8 : Int64) (j10 : Int64) (j12 : Int64) (j14 : Int64) (i16 : Int32) (j17 : Int64) (j19 : Int64) (j21 : Int64) : Int32 := f0_187 j0 j2 j6 j8 j10 j12 j14 i16 j17 j19 j21 (0 : Int32)
def f0_142 (j0 : Int64) (j2 : Int64) (j6 : Int64) (j8 : Int64) (j10 : Int64) (j12 : Int64) (j14 : Int64) (i16 : Int32) (j17 : Int64) (j19 : Int64) (t0 : Int64) : Int32 := (if j10 = j12 then (if j10 < (0 : Int64) then f0_186 j0 j2 j6 j8 j10 j12 j14 i16 j17 j19 t0 else (if ((4294967295 : Int64) - (1 : Int64)) < j10 then f0_186 j0 j2 j6 j8 j10 j12 j14 i16 j17 j19 t0 else (if i16 = (0 : Int32) then f0_186 j0 j2 j6 j8 j10 j12 j14 i16 j17 j19 t0 else (if j19 = t0 then f0_187 j0 j2 j6 j8 j10 j12 j14 i16 j17 j19 t0 (1 : Int32) else f0_186 j0 j2 j6 j8 j10 j12 j14 i16 j17 j19 t0)))) else f0_186 j0 j2 j6 j8 j10 j12 j14 i16 j17 j19 t0)
def f0_124 (j0 : Int64) (j2 : Int64) (j6 : Int64) (j8 : Int64) (j10 : Int64) (j12 : Int64) (j14 : Int64) (i16 : Int32) (j17 : Int64) (j19 : Int64) : Int32 := (if j10 = ((4294967295 : Int64) - (1 : Int64)) then f0_142 j0 j2 j6 j8 j10 j12 j14 i16 j17 j19 (0 : Int64) else f0_142 j0 j2 j6 j8 j10 j12 j14 i16 j17 j19 (j10 + (1 : Int64)))
def f0_115 (j0 : Int64) (j2 : Int64) (j6 : Int64) (j8 : Int64) (j10 : Int64) (j12 : Int64) (j14 : Int64) (i16 : Int32) (j17 : Int64) : Int32 := f0_124 j0 j2 j6 j8 j10 j12 j14 i16 j17 (f1_0 j6 j17)
def f0_106 (j0 : Int64) (j2 : Int64) (j6 : Int64) (j8 : Int64) (j10 : Int64) (j12 : Int64) (j14 : Int64) (t0 : Int32) : Int32 := f0_115 j0 j2 j6 j8 j10 j12 j14 t0 (f2_0 j8)
def f0_86 (j0 : Int64) (j2 : Int64) (j6 : Int64) (j8 : Int64) (j10 : Int64) (j12 : Int64) (j14 : Int64) : Int32 := f0_106 j0 j2 j6 j8 j10 j12 j14 (0 : Int32)
def f0_60 (j0 : Int64) (j2 : Int64) (j6 : Int64) (j8 : Int64) (j10 : Int64) (j12 : Int64) (j14 : Int64) : Int32 := (if j6 = j8 then (if j10 = (0 : Int64) then (if j14 = (0 : Int64) then f0_106 j0 j2 j6 j8 j10 j12 j14 (1 : Int32) else f0_86 j0 j2 j6 j8 j10 j12 j14) else f0_86 j0 j2 j6 j8 j10 j12 j14) else (if (j10 + j14) = (4294967295 : Int64) then f0_106 j0 j2 j6 j8 j10 j12 j14 (1 : Int32) else f0_106 j0 j2 j6 j8 j10 j12 j14 (0 : Int32)))
def f0_51 (j0 : Int64) (j2 : Int64) (j6 : Int64) (j8 : Int64) (j10 : Int64) (j12 : Int64) : Int32 := f0_60 j0 j2 j6 j8 j10 j12 (f1_0 j8 j6)
def f0_38 (j0 : Int64) (j2 : Int64) (j6 : Int64) (j8 : Int64) (j10 : Int64) : Int32 := f0_51 j0 j2 j6 j8 j10 (((j8 - j6) + (4294967295 : Int64)) - ((j8 - j6) + (4294967295 : Int64)) / (4294967295 : Int64) * (4294967295 : Int64))
def f0_29 (j0 : Int64) (j2 : Int64) (j6 : Int64) (j8 : Int64) : Int32 := f0_38 j0 j2 j6 j8 (f1_0 j6 j8)
def f0_17 (j0 : Int64) (j2 : Int64) (j6 : Int64) : Int32 := f0_29 j0 j2 j6 (((j2 &&& (9223372036854775807 : Int64)) - (j2 &&& (9223372036854775807 : Int64)) / (4294967295 : Int64) * (4294967295 : Int64)) + (1 : Int64))
def f0_0 (j0 : Int64) (j2 : Int64) : Int32 := f0_17 j0 j2 (((j0 &&& (9223372036854775807 : Int64)) - (j0 &&& (9223372036854775807 : Int64)) / (4294967295 : Int64) * (4294967295 : Int64)) + (1 : Int64))
set_option maxRecDepth 65536 in
set_option maxHeartbeats 40000000 in
theorem b0_187 {p : Program} {l : Launch} {e : Env} {s : State} {m : MethodId} {args : Array Value} {below : List Frame} {meth : Method} {c : Code} {Z : State} {a0 : Array Value} {T : State} {locs : List Loc} {h0 : Heap} {n0 : Nat} (C : Ctx p s m meth c Z code 23 "com/example/pulsekeep/pulsekeep/core/SubscriptionDistancePinLaw" (some .boolean)) (hw : ∀ d ∈ tables_1, d.before a0 Z = true)
    (X : Stand p l e room_1 s m args below meth c T locs 0 0) (eT : T.heap = h0) (NL : Fr n0 locs) (j0 : Int64) (j2 : Int64) (j6 : Int64) (j8 : Int64) (j10 : Int64) (j12 : Int64) (j14 : Int64) (i16 : Int32) (j17 : Int64) (j19 : Int64) (j21 : Int64) (t0 : Int32) :
    Go p e below s 0 0 (QV (.int (f0_187 j0 j2 j6 j8 j10 j12 j14 i16 j17 j19 j21 t0)) h0 n0) (T.setTop (mkF m 187 #[.val (.long j0), .second, .val (.long j2), .second, .val (.long (4294967295 : Int64)), .second, .val (.long j6), .second, .val (.long j8), .second, .val (.long j10), .second, .val (.long j12), .second, .val (.long j14), .second, .val (.int i16), .val (.long j17), .second, .val (.long j19), .second, .val (.long j21), .second] [(.int t0)])) := by
  obtain ⟨hx, hZ, hby, hml, hown, hrt, hlk⟩ := id C
  unfold f0_187
  exact Go.retN X hx hlk hrt (by simp) (hb hby at_187) rfl (Nat.le_refl _) (Nat.le_refl _) ⟨rfl, NL, eT⟩
set_option maxRecDepth 65536 in
set_option maxHeartbeats 40000000 in
theorem b0_186 {p : Program} {l : Launch} {e : Env} {s : State} {m : MethodId} {args : Array Value} {below : List Frame} {meth : Method} {c : Code} {Z : State} {a0 : Array Value} {T : State} {locs : List Loc} {h0 : Heap} {n0 : Nat} (C : Ctx p s m meth c Z code 23 "com/example/pulsekeep/pulsekeep/core/SubscriptionDistancePinLaw" (some .boolean)) (hw : ∀ d ∈ tables_1, d.before a0 Z = true)
    (X : Stand p l e room_1 s m args below meth c T locs 0 0) (eT : T.heap = h0) (NL : Fr n0 locs) (j0 : Int64) (j2 : Int64) (j6 : Int64) (j8 : Int64) (j10 : Int64) (j12 : Int64) (j14 : Int64) (i16 : Int32) (j17 : Int64) (j19 : Int64) (j21 : Int64) :
    Go p e below s 0 0 (QV (.int (f0_186 j0 j2 j6 j8 j10 j12 j14 i16 j17 j19 j21)) h0 n0) (T.setTop (mkF m 186 #[.val (.long j0), .second, .val (.long j2), .second, .val (.long (4294967295 : Int64)), .second, .val (.long j6), .second, .val (.long j8), .second, .val (.long j10), .second, .val (.long j12), .second, .val (.long j14), .second, .val (.int i16), .val (.long j17), .second, .val (.long j19), .second, .val (.long j21), .second] [])) := by
  obtain ⟨hx, hZ, hby, hml, hown, hrt, hlk⟩ := id C
  unfold f0_186
  refine Go.pre (st' := T.setTop (mkF m 187 #[.val (.long j0), .second, .val (.long j2), .second, .val (.long (4294967295 : Int64)), .second, .val (.long j6), .second, .val (.long j8), .second, .val (.long j10), .second, .val (.long j12), .second, .val (.long j14), .second, .val (.int i16), .val (.long j17), .second, .val (.long j19), .second, .val (.long j21), .second] [(.int (0 : Int32))])) (fun target kt => ?_) ?_
  · show Steps p.tables e below (T.setTop (mkF m 186 #[.val (.long j0), .second, .val (.long j2), .second, .val (.long (4294967295 : Int64)), .second, .val (.long j6), .second, .val (.long j8), .second, .val (.long j10), .second, .val (.long j12), .second, .val (.long j14), .second, .val (.int i16), .val (.long j17), .second, .val (.long j19), .second, .val (.long j21), .second] [])) _
    refine XS.iconst X.here hx rfl (hb hby at_186) ?_
    exact kt
  exact b0_187 C hw X eT NL j0 j2 j6 j8 j10 j12 j14 i16 j17 j19 j21 (0 : Int32)
set_option maxRecDepth 65536 in
set_option maxHeartbeats 40000000 in
theorem b0_142 {p : Program} {l : Launch} {e : Env} {s : State} {m : MethodId} {args : Array Value} {below : List Frame} {meth : Method} {c : Code} {Z : State} {a0 : Array Value} {T : State} {locs : List Loc} {h0 : Heap} {n0 : Nat} (C : Ctx p s m meth c Z code 23 "com/example/pulsekeep/pulsekeep/core/SubscriptionDistancePinLaw" (some .boolean)) (hw : ∀ d ∈ tables_1, d.before a0 Z = true)
    (X : Stand p l e room_1 s m args below meth c T locs 0 0) (eT : T.heap = h0) (NL : Fr n0 locs) (j0 : Int64) (j2 : Int64) (j6 : Int64) (j8 : Int64) (j10 : Int64) (j12 : Int64) (j14 : Int64) (i16 : Int32) (j17 : Int64) (j19 : Int64) (t0 : Int64) :
    Go p e below s 0 0 (QV (.int (f0_142 j0 j2 j6 j8 j10 j12 j14 i16 j17 j19 t0)) h0 n0) (T.setTop (mkF m 142 #[.val (.long j0), .second, .val (.long j2), .second, .val (.long (4294967295 : Int64)), .second, .val (.long j6), .second, .val (.long j8), .second, .val (.long j10), .second, .val (.long j12), .second, .val (.long j14), .second, .val (.int i16), .val (.long j17), .second, .val (.long j19), .second, .unset, .unset] [(.long t0)])) := by
  obtain ⟨hx, hZ, hby, hml, hown, hrt, hlk⟩ := id C
  unfold f0_142
  refine Go.pre (st' := T.setTop (mkF m 149 #[.val (.long j0), .second, .val (.long j2), .second, .val (.long (4294967295 : Int64)), .second, .val (.long j6), .second, .val (.long j8), .second, .val (.long j10), .second, .val (.long j12), .second, .val (.long j14), .second, .val (.int i16), .val (.long j17), .second, .val (.long j19), .second, .val (.long t0), .second] [(.int (lcmpW j10 j12))])) (fun target kt => ?_) ?_
  · show Steps p.tables e below (T.setTop (mkF m 142 #[.val (.long j0), .second, .val (.long j2), .second, .val (.long (4294967295 : Int64)), .second, .val (.long j6), .second, .val (.long j8), .second, .val (.long j10), .second, .val (.long j12), .second, .val (.long j14), .second, .val (.int i16), .val (.long j17), .second, .val (.long j19), .second, .unset, .unset] [(.long t0)])) _
    refine XS.lstore X.here hx rfl (hb hby at_142) rfl (l' := #[.val (.long j0), .second, .val (.long j2), .second, .val (.long (4294967295 : Int64)), .second, .val (.long j6), .second, .val (.long j8), .second, .val (.long j10), .second, .val (.long j12), .second, .val (.long j14), .second, .val (.int i16), .val (.long j17), .second, .val (.long j19), .second, .val (.long t0), .second]) rfl ?_
    show Steps p.tables e below (T.setTop (mkF m 144 #[.val (.long j0), .second, .val (.long j2), .second, .val (.long (4294967295 : Int64)), .second, .val (.long j6), .second, .val (.long j8), .second, .val (.long j10), .second, .val (.long j12), .second, .val (.long j14), .second, .val (.int i16), .val (.long j17), .second, .val (.long j19), .second, .val (.long t0), .second] [])) _
    refine XS.lload X.here hx rfl (hb hby at_144) rfl ?_
    show Steps p.tables e below (T.setTop (mkF m 146 #[.val (.long j0), .second, .val (.long j2), .second, .val (.long (4294967295 : Int64)), .second, .val (.long j6), .second, .val (.long j8), .second, .val (.long j10), .second, .val (.long j12), .second, .val (.long j14), .second, .val (.int i16), .val (.long j17), .second, .val (.long j19), .second, .val (.long t0), .second] [(.long j10)])) _
    refine XS.lload X.here hx rfl (hb hby at_146) rfl ?_
    show Steps p.tables e below (T.setTop (mkF m 148 #[.val (.long j0), .second, .val (.long j2), .second, .val (.long (4294967295 : Int64)), .second, .val (.long j6), .second, .val (.long j8), .second, .val (.long j10), .second, .val (.long j12), .second, .val (.long j14), .second, .val (.int i16), .val (.long j17), .second, .val (.long j19), .second, .val (.long t0), .second] [(.long j12), (.long j10)])) _
    refine XS.lcmp X.here hx rfl (hb hby at_148) rfl ?_
    exact kt
  by_cases h149 : j10 = j12
  · rw [if_pos h149]
    refine Go.pre (st' := T.setTop (mkF m 152 #[.val (.long j0), .second, .val (.long j2), .second, .val (.long (4294967295 : Int64)), .second, .val (.long j6), .second, .val (.long j8), .second, .val (.long j10), .second, .val (.long j12), .second, .val (.long j14), .second, .val (.int i16), .val (.long j17), .second, .val (.long j19), .second, .val (.long t0), .second] [])) (fun target kt => ?_) ?_
    · show Steps p.tables e below (T.setTop (mkF m 149 #[.val (.long j0), .second, .val (.long j2), .second, .val (.long (4294967295 : Int64)), .second, .val (.long j6), .second, .val (.long j8), .second, .val (.long j10), .second, .val (.long j12), .second, .val (.long j14), .second, .val (.int i16), .val (.long j17), .second, .val (.long j19), .second, .val (.long t0), .second] [(.int (lcmpW j10 j12))])) _
      refine XS.ifNo X.here hx rfl (hb hby at_149) rfl ((if0 _ _).trans (teq ((lw_eq _ _).mpr h149)).2) ?_
      exact kt
    refine Go.pre (st' := T.setTop (mkF m 156 #[.val (.long j0), .second, .val (.long j2), .second, .val (.long (4294967295 : Int64)), .second, .val (.long j6), .second, .val (.long j8), .second, .val (.long j10), .second, .val (.long j12), .second, .val (.long j14), .second, .val (.int i16), .val (.long j17), .second, .val (.long j19), .second, .val (.long t0), .second] [(.int (lcmpW j10 (0 : Int64)))])) (fun target kt => ?_) ?_
    · show Steps p.tables e below (T.setTop (mkF m 152 #[.val (.long j0), .second, .val (.long j2), .second, .val (.long (4294967295 : Int64)), .second, .val (.long j6), .second, .val (.long j8), .second, .val (.long j10), .second, .val (.long j12), .second, .val (.long j14), .second, .val (.int i16), .val (.long j17), .second, .val (.long j19), .second, .val (.long t0), .second] [])) _
      refine XS.lload X.here hx rfl (hb hby at_152) rfl ?_
      show Steps p.tables e below (T.setTop (mkF m 154 #[.val (.long j0), .second, .val (.long j2), .second, .val (.long (4294967295 : Int64)), .second, .val (.long j6), .second, .val (.long j8), .second, .val (.long j10), .second, .val (.long j12), .second, .val (.long j14), .second, .val (.int i16), .val (.long j17), .second, .val (.long j19), .second, .val (.long t0), .second] [(.long j10)])) _
      refine XS.lconst X.here hx rfl (hb hby at_154) ?_
      show Steps p.tables e below (T.setTop (mkF m 155 #[.val (.long j0), .second, .val (.long j2), .second, .val (.long (4294967295 : Int64)), .second, .val (.long j6), .second, .val (.long j8), .second, .val (.long j10), .second, .val (.long j12), .second, .val (.long j14), .second, .val (.int i16), .val (.long j17), .second, .val (.long j19), .second, .val (.long t0), .second] [(.long (0 : Int64)), (.long j10)])) _
      refine XS.lcmp X.here hx rfl (hb hby at_155) rfl ?_
      exact kt
    by_cases h156 : j10 < (0 : Int64)
    · rw [if_pos h156]
      refine Go.pre (st' := T.setTop (mkF m 186 #[.val (.long j0), .second, .val (.long j2), .second, .val (.long (4294967295 : Int64)), .second, .val (.long j6), .second, .val (.long j8), .second, .val (.long j10), .second, .val (.long j12), .second, .val (.long j14), .second, .val (.int i16), .val (.long j17), .second, .val (.long j19), .second, .val (.long t0), .second] [])) (fun target kt => ?_) ?_
      · show Steps p.tables e below (T.setTop (mkF m 156 #[.val (.long j0), .second, .val (.long j2), .second, .val (.long (4294967295 : Int64)), .second, .val (.long j6), .second, .val (.long j8), .second, .val (.long j10), .second, .val (.long j12), .second, .val (.long j14), .second, .val (.int i16), .val (.long j17), .second, .val (.long j19), .second, .val (.long t0), .second] [(.int (lcmpW j10 (0 : Int64)))])) _
        refine XS.ifYes X.here hx rfl (pc0 := 156) (pc' := 186) rfl (hb hby at_156) rfl ((if0 _ _).trans (tlt ((lw_lt _ _).mpr h156)).1) (by decide) (by decide) ?_
        exact kt
      exact b0_186 C hw X eT NL j0 j2 j6 j8 j10 j12 j14 i16 j17 j19 t0
    · rw [if_neg h156]
      refine Go.pre (st' := T.setTop (mkF m 159 #[.val (.long j0), .second, .val (.long j2), .second, .val (.long (4294967295 : Int64)), .second, .val (.long j6), .second, .val (.long j8), .second, .val (.long j10), .second, .val (.long j12), .second, .val (.long j14), .second, .val (.int i16), .val (.long j17), .second, .val (.long j19), .second, .val (.long t0), .second] [])) (fun target kt => ?_) ?_
      · show Steps p.tables e below (T.setTop (mkF m 156 #[.val (.long j0), .second, .val (.long j2), .second, .val (.long (4294967295 : Int64)), .second, .val (.long j6), .second, .val (.long j8), .second, .val (.long j10), .second, .val (.long j12), .second, .val (.long j14), .second, .val (.int i16), .val (.long j17), .second, .val (.long j19), .second, .val (.long t0), .second] [(.int (lcmpW j10 (0 : Int64)))])) _
        refine XS.ifNo X.here hx rfl (hb hby at_156) rfl ((if0 _ _).trans (flt (fun q => h156 ((lw_lt _ _).mp q))).1) ?_
        exact kt
      refine Go.pre (st' := T.setTop (mkF m 166 #[.val (.long j0), .second, .val (.long j2), .second, .val (.long (4294967295 : Int64)), .second, .val (.long j6), .second, .val (.long j8), .second, .val (.long j10), .second, .val (.long j12), .second, .val (.long j14), .second, .val (.int i16), .val (.long j17), .second, .val (.long j19), .second, .val (.long t0), .second] [(.int (lcmpW j10 ((4294967295 : Int64) - (1 : Int64))))])) (fun target kt => ?_) ?_
      · show Steps p.tables e below (T.setTop (mkF m 159 #[.val (.long j0), .second, .val (.long j2), .second, .val (.long (4294967295 : Int64)), .second, .val (.long j6), .second, .val (.long j8), .second, .val (.long j10), .second, .val (.long j12), .second, .val (.long j14), .second, .val (.int i16), .val (.long j17), .second, .val (.long j19), .second, .val (.long t0), .second] [])) _
        refine XS.lload X.here hx rfl (hb hby at_159) rfl ?_
        show Steps p.tables e below (T.setTop (mkF m 161 #[.val (.long j0), .second, .val (.long j2), .second, .val (.long (4294967295 : Int64)), .second, .val (.long j6), .second, .val (.long j8), .second, .val (.long j10), .second, .val (.long j12), .second, .val (.long j14), .second, .val (.int i16), .val (.long j17), .second, .val (.long j19), .second, .val (.long t0), .second] [(.long j10)])) _
        refine XS.lload X.here hx rfl (hb hby at_161) rfl ?_
        show Steps p.tables e below (T.setTop (mkF m 163 #[.val (.long j0), .second, .val (.long j2), .second, .val (.long (4294967295 : Int64)), .second, .val (.long j6), .second, .val (.long j8), .second, .val (.long j10), .second, .val (.long j12), .second, .val (.long j14), .second, .val (.int i16), .val (.long j17), .second, .val (.long j19), .second, .val (.long t0), .second] [(.long (4294967295 : Int64)), (.long j10)])) _
        refine XS.lconst X.here hx rfl (hb hby at_163) ?_
        show Steps p.tables e below (T.setTop (mkF m 164 #[.val (.long j0), .second, .val (.long j2), .second, .val (.long (4294967295 : Int64)), .second, .val (.long j6), .second, .val (.long j8), .second, .val (.long j10), .second, .val (.long j12), .second, .val (.long j14), .second, .val (.int i16), .val (.long j17), .second, .val (.long j19), .second, .val (.long t0), .second] [(.long (1 : Int64)), (.long (4294967295 : Int64)), (.long j10)])) _
        refine XS.lsub X.here hx rfl (hb hby at_164) rfl ?_
        show Steps p.tables e below (T.setTop (mkF m 165 #[.val (.long j0), .second, .val (.long j2), .second, .val (.long (4294967295 : Int64)), .second, .val (.long j6), .second, .val (.long j8), .second, .val (.long j10), .second, .val (.long j12), .second, .val (.long j14), .second, .val (.int i16), .val (.long j17), .second, .val (.long j19), .second, .val (.long t0), .second] [(.long ((4294967295 : Int64) - (1 : Int64))), (.long j10)])) _
        refine XS.lcmp X.here hx rfl (hb hby at_165) rfl ?_
        exact kt
      by_cases h166 : ((4294967295 : Int64) - (1 : Int64)) < j10
      · rw [if_pos h166]
        refine Go.pre (st' := T.setTop (mkF m 186 #[.val (.long j0), .second, .val (.long j2), .second, .val (.long (4294967295 : Int64)), .second, .val (.long j6), .second, .val (.long j8), .second, .val (.long j10), .second, .val (.long j12), .second, .val (.long j14), .second, .val (.int i16), .val (.long j17), .second, .val (.long j19), .second, .val (.long t0), .second] [])) (fun target kt => ?_) ?_
        · show Steps p.tables e below (T.setTop (mkF m 166 #[.val (.long j0), .second, .val (.long j2), .second, .val (.long (4294967295 : Int64)), .second, .val (.long j6), .second, .val (.long j8), .second, .val (.long j10), .second, .val (.long j12), .second, .val (.long j14), .second, .val (.int i16), .val (.long j17), .second, .val (.long j19), .second, .val (.long t0), .second] [(.int (lcmpW j10 ((4294967295 : Int64) - (1 : Int64))))])) _
          refine XS.ifYes X.here hx rfl (pc0 := 166) (pc' := 186) rfl (hb hby at_166) rfl ((if0 _ _).trans (tlt ((lw_gt _ _).mpr h166)).2.2.1) (by decide) (by decide) ?_
          exact kt
        exact b0_186 C hw X eT NL j0 j2 j6 j8 j10 j12 j14 i16 j17 j19 t0
      · rw [if_neg h166]
        refine Go.pre (st' := T.setTop (mkF m 169 #[.val (.long j0), .second, .val (.long j2), .second, .val (.long (4294967295 : Int64)), .second, .val (.long j6), .second, .val (.long j8), .second, .val (.long j10), .second, .val (.long j12), .second, .val (.long j14), .second, .val (.int i16), .val (.long j17), .second, .val (.long j19), .second, .val (.long t0), .second] [])) (fun target kt => ?_) ?_
        · show Steps p.tables e below (T.setTop (mkF m 166 #[.val (.long j0), .second, .val (.long j2), .second, .val (.long (4294967295 : Int64)), .second, .val (.long j6), .second, .val (.long j8), .second, .val (.long j10), .second, .val (.long j12), .second, .val (.long j14), .second, .val (.int i16), .val (.long j17), .second, .val (.long j19), .second, .val (.long t0), .second] [(.int (lcmpW j10 ((4294967295 : Int64) - (1 : Int64))))])) _
          refine XS.ifNo X.here hx rfl (hb hby at_166) rfl ((if0 _ _).trans (flt (fun q => h166 ((lw_gt _ _).mp q))).2.2.1) ?_
          exact kt
        refine Go.pre (st' := T.setTop (mkF m 171 #[.val (.long j0), .second, .val (.long j2), .second, .val (.long (4294967295 : Int64)), .second, .val (.long j6), .second, .val (.long j8), .second, .val (.long j10), .second, .val (.long j12), .second, .val (.long j14), .second, .val (.int i16), .val (.long j17), .second, .val (.long j19), .second, .val (.long t0), .second] [(.int i16)])) (fun target kt => ?_) ?_
        · show Steps p.tables e below (T.setTop (mkF m 169 #[.val (.long j0), .second, .val (.long j2), .second, .val (.long (4294967295 : Int64)), .second, .val (.long j6), .second, .val (.long j8), .second, .val (.long j10), .second, .val (.long j12), .second, .val (.long j14), .second, .val (.int i16), .val (.long j17), .second, .val (.long j19), .second, .val (.long t0), .second] [])) _
          refine XS.iload X.here hx rfl (hb hby at_169) rfl ?_
          exact kt
        by_cases h171 : i16 = (0 : Int32)
        · rw [if_pos h171]
          refine Go.pre (st' := T.setTop (mkF m 186 #[.val (.long j0), .second, .val (.long j2), .second, .val (.long (4294967295 : Int64)), .second, .val (.long j6), .second, .val (.long j8), .second, .val (.long j10), .second, .val (.long j12), .second, .val (.long j14), .second, .val (.int i16), .val (.long j17), .second, .val (.long j19), .second, .val (.long t0), .second] [])) (fun target kt => ?_) ?_
          · show Steps p.tables e below (T.setTop (mkF m 171 #[.val (.long j0), .second, .val (.long j2), .second, .val (.long (4294967295 : Int64)), .second, .val (.long j6), .second, .val (.long j8), .second, .val (.long j10), .second, .val (.long j12), .second, .val (.long j14), .second, .val (.int i16), .val (.long j17), .second, .val (.long j19), .second, .val (.long t0), .second] [(.int i16)])) _
            refine XS.ifYes X.here hx rfl (pc0 := 171) (pc' := 186) rfl (hb hby at_171) rfl ((if0 _ _).trans (teq h171).1) (by decide) (by decide) ?_
            exact kt
          exact b0_186 C hw X eT NL j0 j2 j6 j8 j10 j12 j14 i16 j17 j19 t0
        · rw [if_neg h171]
          refine Go.pre (st' := T.setTop (mkF m 174 #[.val (.long j0), .second, .val (.long j2), .second, .val (.long (4294967295 : Int64)), .second, .val (.long j6), .second, .val (.long j8), .second, .val (.long j10), .second, .val (.long j12), .second, .val (.long j14), .second, .val (.int i16), .val (.long j17), .second, .val (.long j19), .second, .val (.long t0), .second] [])) (fun target kt => ?_) ?_
          · show Steps p.tables e below (T.setTop (mkF m 171 #[.val (.long j0), .second, .val (.long j2), .second, .val (.long (4294967295 : Int64)), .second, .val (.long j6), .second, .val (.long j8), .second, .val (.long j10), .second, .val (.long j12), .second, .val (.long j14), .second, .val (.int i16), .val (.long j17), .second, .val (.long j19), .second, .val (.long t0), .second] [(.int i16)])) _
            refine XS.ifNo X.here hx rfl (hb hby at_171) rfl ((if0 _ _).trans (feq h171).1) ?_
            exact kt
          refine Go.pre (st' := T.setTop (mkF m 179 #[.val (.long j0), .second, .val (.long j2), .second, .val (.long (4294967295 : Int64)), .second, .val (.long j6), .second, .val (.long j8), .second, .val (.long j10), .second, .val (.long j12), .second, .val (.long j14), .second, .val (.int i16), .val (.long j17), .second, .val (.long j19), .second, .val (.long t0), .second] [(.int (lcmpW j19 t0))])) (fun target kt => ?_) ?_
          · show Steps p.tables e below (T.setTop (mkF m 174 #[.val (.long j0), .second, .val (.long j2), .second, .val (.long (4294967295 : Int64)), .second, .val (.long j6), .second, .val (.long j8), .second, .val (.long j10), .second, .val (.long j12), .second, .val (.long j14), .second, .val (.int i16), .val (.long j17), .second, .val (.long j19), .second, .val (.long t0), .second] [])) _
            refine XS.lload X.here hx rfl (hb hby at_174) rfl ?_
            show Steps p.tables e below (T.setTop (mkF m 176 #[.val (.long j0), .second, .val (.long j2), .second, .val (.long (4294967295 : Int64)), .second, .val (.long j6), .second, .val (.long j8), .second, .val (.long j10), .second, .val (.long j12), .second, .val (.long j14), .second, .val (.int i16), .val (.long j17), .second, .val (.long j19), .second, .val (.long t0), .second] [(.long j19)])) _
            refine XS.lload X.here hx rfl (hb hby at_176) rfl ?_
            show Steps p.tables e below (T.setTop (mkF m 178 #[.val (.long j0), .second, .val (.long j2), .second, .val (.long (4294967295 : Int64)), .second, .val (.long j6), .second, .val (.long j8), .second, .val (.long j10), .second, .val (.long j12), .second, .val (.long j14), .second, .val (.int i16), .val (.long j17), .second, .val (.long j19), .second, .val (.long t0), .second] [(.long t0), (.long j19)])) _
            refine XS.lcmp X.here hx rfl (hb hby at_178) rfl ?_
            exact kt
          by_cases h179 : j19 = t0
          · rw [if_pos h179]
            refine Go.pre (st' := T.setTop (mkF m 182 #[.val (.long j0), .second, .val (.long j2), .second, .val (.long (4294967295 : Int64)), .second, .val (.long j6), .second, .val (.long j8), .second, .val (.long j10), .second, .val (.long j12), .second, .val (.long j14), .second, .val (.int i16), .val (.long j17), .second, .val (.long j19), .second, .val (.long t0), .second] [])) (fun target kt => ?_) ?_
            · show Steps p.tables e below (T.setTop (mkF m 179 #[.val (.long j0), .second, .val (.long j2), .second, .val (.long (4294967295 : Int64)), .second, .val (.long j6), .second, .val (.long j8), .second, .val (.long j10), .second, .val (.long j12), .second, .val (.long j14), .second, .val (.int i16), .val (.long j17), .second, .val (.long j19), .second, .val (.long t0), .second] [(.int (lcmpW j19 t0))])) _
              refine XS.ifNo X.here hx rfl (hb hby at_179) rfl ((if0 _ _).trans (teq ((lw_eq _ _).mpr h179)).2) ?_
              exact kt
            refine Go.pre (st' := T.setTop (mkF m 187 #[.val (.long j0), .second, .val (.long j2), .second, .val (.long (4294967295 : Int64)), .second, .val (.long j6), .second, .val (.long j8), .second, .val (.long j10), .second, .val (.long j12), .second, .val (.long j14), .second, .val (.int i16), .val (.long j17), .second, .val (.long j19), .second, .val (.long t0), .second] [(.int (1 : Int32))])) (fun target kt => ?_) ?_
            · show Steps p.tables e below (T.setTop (mkF m 182 #[.val (.long j0), .second, .val (.long j2), .second, .val (.long (4294967295 : Int64)), .second, .val (.long j6), .second, .val (.long j8), .second, .val (.long j10), .second, .val (.long j12), .second, .val (.long j14), .second, .val (.int i16), .val (.long j17), .second, .val (.long j19), .second, .val (.long t0), .second] [])) _
              refine XS.iconst X.here hx rfl (hb hby at_182) ?_
              show Steps p.tables e below (T.setTop (mkF m 183 #[.val (.long j0), .second, .val (.long j2), .second, .val (.long (4294967295 : Int64)), .second, .val (.long j6), .second, .val (.long j8), .second, .val (.long j10), .second, .val (.long j12), .second, .val (.long j14), .second, .val (.int i16), .val (.long j17), .second, .val (.long j19), .second, .val (.long t0), .second] [(.int (1 : Int32))])) _
              refine XS.goto X.here hx rfl (pc0 := 183) (pc' := 187) rfl (hb hby at_183) (by decide) (by decide) ?_
              exact kt
            exact b0_187 C hw X eT NL j0 j2 j6 j8 j10 j12 j14 i16 j17 j19 t0 (1 : Int32)
          · rw [if_neg h179]
            refine Go.pre (st' := T.setTop (mkF m 186 #[.val (.long j0), .second, .val (.long j2), .second, .val (.long (4294967295 : Int64)), .second, .val (.long j6), .second, .val (.long j8), .second, .val (.long j10), .second, .val (.long j12), .second, .val (.long j14), .second, .val (.int i16), .val (.long j17), .second, .val (.long j19), .second, .val (.long t0), .second] [])) (fun target kt => ?_) ?_
            · show Steps p.tables e below (T.setTop (mkF m 179 #[.val (.long j0), .second, .val (.long j2), .second, .val (.long (4294967295 : Int64)), .second, .val (.long j6), .second, .val (.long j8), .second, .val (.long j10), .second, .val (.long j12), .second, .val (.long j14), .second, .val (.int i16), .val (.long j17), .second, .val (.long j19), .second, .val (.long t0), .second] [(.int (lcmpW j19 t0))])) _
              refine XS.ifYes X.here hx rfl (pc0 := 179) (pc' := 186) rfl (hb hby at_179) rfl ((if0 _ _).trans (feq (fun q => h179 ((lw_eq _ _).mp q))).2) (by decide) (by decide) ?_
              exact kt
            exact b0_186 C hw X eT NL j0 j2 j6 j8 j10 j12 j14 i16 j17 j19 t0
  · rw [if_neg h149]
    refine Go.pre (st' := T.setTop (mkF m 186 #[.val (.long j0), .second, .val (.long j2), .second, .val (.long (4294967295 : Int64)), .second, .val (.long j6), .second, .val (.long j8), .second, .val (.long j10), .second, .val (.long j12), .second, .val (.long j14), .second, .val (.int i16), .val (.long j17), .second, .val (.long j19), .second, .val (.long t0), .second] [])) (fun target kt => ?_) ?_
    · show Steps p.tables e below (T.setTop (mkF m 149 #[.val (.long j0), .second, .val (.long j2), .second, .val (.long (4294967295 : Int64)), .second, .val (.long j6), .second, .val (.long j8), .second, .val (.long j10), .second, .val (.long j12), .second, .val (.long j14), .second, .val (.int i16), .val (.long j17), .second, .val (.long j19), .second, .val (.long t0), .second] [(.int (lcmpW j10 j12))])) _
      refine XS.ifYes X.here hx rfl (pc0 := 149) (pc' := 186) rfl (hb hby at_149) rfl ((if0 _ _).trans (feq (fun q => h149 ((lw_eq _ _).mp q))).2) (by decide) (by decide) ?_
      exact kt
    exact b0_186 C hw X eT NL j0 j2 j6 j8 j10 j12 j14 i16 j17 j19 t0
set_option maxRecDepth 65536 in
set_option maxHeartbeats 40000000 in
theorem b0_124 {p : Program} {l : Launch} {e : Env} {s : State} {m : MethodId} {args : Array Value} {below : List Frame} {meth : Method} {c : Code} {Z : State} {a0 : Array Value} {T : State} {locs : List Loc} {h0 : Heap} {n0 : Nat} (C : Ctx p s m meth c Z code 23 "com/example/pulsekeep/pulsekeep/core/SubscriptionDistancePinLaw" (some .boolean)) (hw : ∀ d ∈ tables_1, d.before a0 Z = true)
    (X : Stand p l e room_1 s m args below meth c T locs 0 0) (eT : T.heap = h0) (NL : Fr n0 locs) (j0 : Int64) (j2 : Int64) (j6 : Int64) (j8 : Int64) (j10 : Int64) (j12 : Int64) (j14 : Int64) (i16 : Int32) (j17 : Int64) (j19 : Int64) :
    Go p e below s 0 0 (QV (.int (f0_124 j0 j2 j6 j8 j10 j12 j14 i16 j17 j19)) h0 n0) (T.setTop (mkF m 124 #[.val (.long j0), .second, .val (.long j2), .second, .val (.long (4294967295 : Int64)), .second, .val (.long j6), .second, .val (.long j8), .second, .val (.long j10), .second, .val (.long j12), .second, .val (.long j14), .second, .val (.int i16), .val (.long j17), .second, .val (.long j19), .second, .unset, .unset] [])) := by
  obtain ⟨hx, hZ, hby, hml, hown, hrt, hlk⟩ := id C
  unfold f0_124
  refine Go.pre (st' := T.setTop (mkF m 131 #[.val (.long j0), .second, .val (.long j2), .second, .val (.long (4294967295 : Int64)), .second, .val (.long j6), .second, .val (.long j8), .second, .val (.long j10), .second, .val (.long j12), .second, .val (.long j14), .second, .val (.int i16), .val (.long j17), .second, .val (.long j19), .second, .unset, .unset] [(.int (lcmpW j10 ((4294967295 : Int64) - (1 : Int64))))])) (fun target kt => ?_) ?_
  · show Steps p.tables e below (T.setTop (mkF m 124 #[.val (.long j0), .second, .val (.long j2), .second, .val (.long (4294967295 : Int64)), .second, .val (.long j6), .second, .val (.long j8), .second, .val (.long j10), .second, .val (.long j12), .second, .val (.long j14), .second, .val (.int i16), .val (.long j17), .second, .val (.long j19), .second, .unset, .unset] [])) _
    refine XS.lload X.here hx rfl (hb hby at_124) rfl ?_
    show Steps p.tables e below (T.setTop (mkF m 126 #[.val (.long j0), .second, .val (.long j2), .second, .val (.long (4294967295 : Int64)), .second, .val (.long j6), .second, .val (.long j8), .second, .val (.long j10), .second, .val (.long j12), .second, .val (.long j14), .second, .val (.int i16), .val (.long j17), .second, .val (.long j19), .second, .unset, .unset] [(.long j10)])) _
    refine XS.lload X.here hx rfl (hb hby at_126) rfl ?_
    show Steps p.tables e below (T.setTop (mkF m 128 #[.val (.long j0), .second, .val (.long j2), .second, .val (.long (4294967295 : Int64)), .second, .val (.long j6), .second, .val (.long j8), .second, .val (.long j10), .second, .val (.long j12), .second, .val (.long j14), .second, .val (.int i16), .val (.long j17), .second, .val (.long j19), .second, .unset, .unset] [(.long (4294967295 : Int64)), (.long j10)])) _
    refine XS.lconst X.here hx rfl (hb hby at_128) ?_
    show Steps p.tables e below (T.setTop (mkF m 129 #[.val (.long j0), .second, .val (.long j2), .second, .val (.long (4294967295 : Int64)), .second, .val (.long j6), .second, .val (.long j8), .second, .val (.long j10), .second, .val (.long j12), .second, .val (.long j14), .second, .val (.int i16), .val (.long j17), .second, .val (.long j19), .second, .unset, .unset] [(.long (1 : Int64)), (.long (4294967295 : Int64)), (.long j10)])) _
    refine XS.lsub X.here hx rfl (hb hby at_129) rfl ?_
    show Steps p.tables e below (T.setTop (mkF m 130 #[.val (.long j0), .second, .val (.long j2), .second, .val (.long (4294967295 : Int64)), .second, .val (.long j6), .second, .val (.long j8), .second, .val (.long j10), .second, .val (.long j12), .second, .val (.long j14), .second, .val (.int i16), .val (.long j17), .second, .val (.long j19), .second, .unset, .unset] [(.long ((4294967295 : Int64) - (1 : Int64))), (.long j10)])) _
    refine XS.lcmp X.here hx rfl (hb hby at_130) rfl ?_
    exact kt
  by_cases h131 : j10 = ((4294967295 : Int64) - (1 : Int64))
  · rw [if_pos h131]
    refine Go.pre (st' := T.setTop (mkF m 134 #[.val (.long j0), .second, .val (.long j2), .second, .val (.long (4294967295 : Int64)), .second, .val (.long j6), .second, .val (.long j8), .second, .val (.long j10), .second, .val (.long j12), .second, .val (.long j14), .second, .val (.int i16), .val (.long j17), .second, .val (.long j19), .second, .unset, .unset] [])) (fun target kt => ?_) ?_
    · show Steps p.tables e below (T.setTop (mkF m 131 #[.val (.long j0), .second, .val (.long j2), .second, .val (.long (4294967295 : Int64)), .second, .val (.long j6), .second, .val (.long j8), .second, .val (.long j10), .second, .val (.long j12), .second, .val (.long j14), .second, .val (.int i16), .val (.long j17), .second, .val (.long j19), .second, .unset, .unset] [(.int (lcmpW j10 ((4294967295 : Int64) - (1 : Int64))))])) _
      refine XS.ifNo X.here hx rfl (hb hby at_131) rfl ((if0 _ _).trans (teq ((lw_eq _ _).mpr h131)).2) ?_
      exact kt
    refine Go.pre (st' := T.setTop (mkF m 142 #[.val (.long j0), .second, .val (.long j2), .second, .val (.long (4294967295 : Int64)), .second, .val (.long j6), .second, .val (.long j8), .second, .val (.long j10), .second, .val (.long j12), .second, .val (.long j14), .second, .val (.int i16), .val (.long j17), .second, .val (.long j19), .second, .unset, .unset] [(.long (0 : Int64))])) (fun target kt => ?_) ?_
    · show Steps p.tables e below (T.setTop (mkF m 134 #[.val (.long j0), .second, .val (.long j2), .second, .val (.long (4294967295 : Int64)), .second, .val (.long j6), .second, .val (.long j8), .second, .val (.long j10), .second, .val (.long j12), .second, .val (.long j14), .second, .val (.int i16), .val (.long j17), .second, .val (.long j19), .second, .unset, .unset] [])) _
      refine XS.lconst X.here hx rfl (hb hby at_134) ?_
      show Steps p.tables e below (T.setTop (mkF m 135 #[.val (.long j0), .second, .val (.long j2), .second, .val (.long (4294967295 : Int64)), .second, .val (.long j6), .second, .val (.long j8), .second, .val (.long j10), .second, .val (.long j12), .second, .val (.long j14), .second, .val (.int i16), .val (.long j17), .second, .val (.long j19), .second, .unset, .unset] [(.long (0 : Int64))])) _
      refine XS.goto X.here hx rfl (pc0 := 135) (pc' := 142) rfl (hb hby at_135) (by decide) (by decide) ?_
      exact kt
    exact b0_142 C hw X eT NL j0 j2 j6 j8 j10 j12 j14 i16 j17 j19 (0 : Int64)
  · rw [if_neg h131]
    refine Go.pre (st' := T.setTop (mkF m 138 #[.val (.long j0), .second, .val (.long j2), .second, .val (.long (4294967295 : Int64)), .second, .val (.long j6), .second, .val (.long j8), .second, .val (.long j10), .second, .val (.long j12), .second, .val (.long j14), .second, .val (.int i16), .val (.long j17), .second, .val (.long j19), .second, .unset, .unset] [])) (fun target kt => ?_) ?_
    · show Steps p.tables e below (T.setTop (mkF m 131 #[.val (.long j0), .second, .val (.long j2), .second, .val (.long (4294967295 : Int64)), .second, .val (.long j6), .second, .val (.long j8), .second, .val (.long j10), .second, .val (.long j12), .second, .val (.long j14), .second, .val (.int i16), .val (.long j17), .second, .val (.long j19), .second, .unset, .unset] [(.int (lcmpW j10 ((4294967295 : Int64) - (1 : Int64))))])) _
      refine XS.ifYes X.here hx rfl (pc0 := 131) (pc' := 138) rfl (hb hby at_131) rfl ((if0 _ _).trans (feq (fun q => h131 ((lw_eq _ _).mp q))).2) (by decide) (by decide) ?_
      exact kt
    refine Go.pre (st' := T.setTop (mkF m 142 #[.val (.long j0), .second, .val (.long j2), .second, .val (.long (4294967295 : Int64)), .second, .val (.long j6), .second, .val (.long j8), .second, .val (.long j10), .second, .val (.long j12), .second, .val (.long j14), .second, .val (.int i16), .val (.long j17), .second, .val (.long j19), .second, .unset, .unset] [(.long (j10 + (1 : Int64)))])) (fun target kt => ?_) ?_
    · show Steps p.tables e below (T.setTop (mkF m 138 #[.val (.long j0), .second, .val (.long j2), .second, .val (.long (4294967295 : Int64)), .second, .val (.long j6), .second, .val (.long j8), .second, .val (.long j10), .second, .val (.long j12), .second, .val (.long j14), .second, .val (.int i16), .val (.long j17), .second, .val (.long j19), .second, .unset, .unset] [])) _
      refine XS.lload X.here hx rfl (hb hby at_138) rfl ?_
      show Steps p.tables e below (T.setTop (mkF m 140 #[.val (.long j0), .second, .val (.long j2), .second, .val (.long (4294967295 : Int64)), .second, .val (.long j6), .second, .val (.long j8), .second, .val (.long j10), .second, .val (.long j12), .second, .val (.long j14), .second, .val (.int i16), .val (.long j17), .second, .val (.long j19), .second, .unset, .unset] [(.long j10)])) _
      refine XS.lconst X.here hx rfl (hb hby at_140) ?_
      show Steps p.tables e below (T.setTop (mkF m 141 #[.val (.long j0), .second, .val (.long j2), .second, .val (.long (4294967295 : Int64)), .second, .val (.long j6), .second, .val (.long j8), .second, .val (.long j10), .second, .val (.long j12), .second, .val (.long j14), .second, .val (.int i16), .val (.long j17), .second, .val (.long j19), .second, .unset, .unset] [(.long (1 : Int64)), (.long j10)])) _
      refine XS.ladd X.here hx rfl (hb hby at_141) rfl ?_
      exact kt
    exact b0_142 C hw X eT NL j0 j2 j6 j8 j10 j12 j14 i16 j17 j19 (j10 + (1 : Int64))
set_option maxRecDepth 65536 in
set_option maxHeartbeats 40000000 in
theorem b0_115 {p : Program} {l : Launch} {e : Env} {s : State} {m : MethodId} {args : Array Value} {below : List Frame} {meth : Method} {c : Code} {Z : State} {a0 : Array Value} {T : State} {locs : List Loc} {h0 : Heap} {n0 : Nat} (C : Ctx p s m meth c Z code 23 "com/example/pulsekeep/pulsekeep/core/SubscriptionDistancePinLaw" (some .boolean)) (hw : ∀ d ∈ tables_1, d.before a0 Z = true)
    (X : Stand p l e room_1 s m args below meth c T locs 0 0) (eT : T.heap = h0) (NL : Fr n0 locs) (j0 : Int64) (j2 : Int64) (j6 : Int64) (j8 : Int64) (j10 : Int64) (j12 : Int64) (j14 : Int64) (i16 : Int32) (j17 : Int64) :
    Go p e below s 0 0 (QV (.int (f0_115 j0 j2 j6 j8 j10 j12 j14 i16 j17)) h0 n0) (T.setTop (mkF m 115 #[.val (.long j0), .second, .val (.long j2), .second, .val (.long (4294967295 : Int64)), .second, .val (.long j6), .second, .val (.long j8), .second, .val (.long j10), .second, .val (.long j12), .second, .val (.long j14), .second, .val (.int i16), .val (.long j17), .second, .unset, .unset, .unset, .unset] [])) := by
  obtain ⟨hx, hZ, hby, hml, hown, hrt, hlk⟩ := id C
  unfold f0_115
  refine Go.pre (st' := T.setTop (mkF m 119 #[.val (.long j0), .second, .val (.long j2), .second, .val (.long (4294967295 : Int64)), .second, .val (.long j6), .second, .val (.long j8), .second, .val (.long j10), .second, .val (.long j12), .second, .val (.long j14), .second, .val (.int i16), .val (.long j17), .second, .unset, .unset, .unset, .unset] [(.long j17), (.long j6)])) (fun target kt => ?_) ?_
  · show Steps p.tables e below (T.setTop (mkF m 115 #[.val (.long j0), .second, .val (.long j2), .second, .val (.long (4294967295 : Int64)), .second, .val (.long j6), .second, .val (.long j8), .second, .val (.long j10), .second, .val (.long j12), .second, .val (.long j14), .second, .val (.int i16), .val (.long j17), .second, .unset, .unset, .unset, .unset] [])) _
    refine XS.lload X.here hx rfl (hb hby at_115) rfl ?_
    show Steps p.tables e below (T.setTop (mkF m 117 #[.val (.long j0), .second, .val (.long j2), .second, .val (.long (4294967295 : Int64)), .second, .val (.long j6), .second, .val (.long j8), .second, .val (.long j10), .second, .val (.long j12), .second, .val (.long j14), .second, .val (.int i16), .val (.long j17), .second, .unset, .unset, .unset, .unset] [(.long j6)])) _
    refine XS.lload X.here hx rfl (hb hby at_117) rfl ?_
    exact kt
  obtain ⟨_, _, ⟨T119, L119, k119, n119⟩, -, X119, ⟨Lc119, hQ119, l119, y119, z119⟩, st119⟩ := Jvm.LawKit.callS X hx (y := (⟨"com/example/pulsekeep/pulsekeep/core/Subscription", "distance", "(JJ)J"⟩ : MethodName)) hown (mvT hZ (hw _ (List.mem_of_getElem? (i := 2) rfl))) (mvT hZ (hw _ (List.mem_of_getElem? (i := 3) rfl))) (mvT hZ (hw _ (List.mem_of_getElem? (i := 4) rfl))) (mvT hZ (hw _ (List.mem_of_getElem? (i := 5) rfl))) (by decide) (backOf (W := 0) (rm1 l Z a0 hw [] j6 j17 h0 n0) hZ (hw _ (List.mem_of_getElem? (i := 5) rfl)) (hw _ (List.mem_of_getElem? (i := 4) rfl)) (by decide) (by decide)) (g := (mkF m 119 #[.val (.long j0), .second, .val (.long j2), .second, .val (.long (4294967295 : Int64)), .second, .val (.long j6), .second, .val (.long j8), .second, .val (.long j10), .second, .val (.long j12), .second, .val (.long j14), .second, .val (.int i16), .val (.long j17), .second, .unset, .unset, .unset, .unset] [(.long j17), (.long j6)])) rfl (by rw [hml]; rfl) (argsL := [(.long j6), (.long j17)]) (rest := []) (lenOf pd0_119 rfl) rfl (by show 2 * 0 + _ ≤ _; exact Nat.le_of_eq rfl) (hb hby at_119) (fun _ _ => ⟨rfl, eT, (by decide : 0 + 0 ≤ _), (by decide : 0 + 0 ≤ _)⟩)
  dsimp only [Pt.U, Pt.locs, Pt.cells, Pt.slots] at X119 l119 y119 z119 st119 hQ119
  subst l119 y119 z119
  obtain ⟨rfl, N119q, e119⟩ := hQ119
  have N119 := Fr.app NL N119q
  refine Go.pre st119 ?_
  show Go p e below s 0 0 _ (T119.setTop (mkF m 122 #[.val (.long j0), .second, .val (.long j2), .second, .val (.long (4294967295 : Int64)), .second, .val (.long j6), .second, .val (.long j8), .second, .val (.long j10), .second, .val (.long j12), .second, .val (.long j14), .second, .val (.int i16), .val (.long j17), .second, .unset, .unset, .unset, .unset] [(.long (f1_0 j6 j17))]))
  refine Go.pre (st' := T119.setTop (mkF m 124 #[.val (.long j0), .second, .val (.long j2), .second, .val (.long (4294967295 : Int64)), .second, .val (.long j6), .second, .val (.long j8), .second, .val (.long j10), .second, .val (.long j12), .second, .val (.long j14), .second, .val (.int i16), .val (.long j17), .second, .val (.long (f1_0 j6 j17)), .second, .unset, .unset] [])) (fun target kt => ?_) ?_
  · show Steps p.tables e below (T119.setTop (mkF m 122 #[.val (.long j0), .second, .val (.long j2), .second, .val (.long (4294967295 : Int64)), .second, .val (.long j6), .second, .val (.long j8), .second, .val (.long j10), .second, .val (.long j12), .second, .val (.long j14), .second, .val (.int i16), .val (.long j17), .second, .unset, .unset, .unset, .unset] [(.long (f1_0 j6 j17))])) _
    refine XS.lstore X119.here hx rfl (hb hby at_122) rfl (l' := #[.val (.long j0), .second, .val (.long j2), .second, .val (.long (4294967295 : Int64)), .second, .val (.long j6), .second, .val (.long j8), .second, .val (.long j10), .second, .val (.long j12), .second, .val (.long j14), .second, .val (.int i16), .val (.long j17), .second, .val (.long (f1_0 j6 j17)), .second, .unset, .unset]) rfl ?_
    exact kt
  exact b0_124 C hw X119 e119 N119 j0 j2 j6 j8 j10 j12 j14 i16 j17 (f1_0 j6 j17)
set_option maxRecDepth 65536 in
set_option maxHeartbeats 40000000 in
theorem b0_106 {p : Program} {l : Launch} {e : Env} {s : State} {m : MethodId} {args : Array Value} {below : List Frame} {meth : Method} {c : Code} {Z : State} {a0 : Array Value} {T : State} {locs : List Loc} {h0 : Heap} {n0 : Nat} (C : Ctx p s m meth c Z code 23 "com/example/pulsekeep/pulsekeep/core/SubscriptionDistancePinLaw" (some .boolean)) (hw : ∀ d ∈ tables_1, d.before a0 Z = true)
    (X : Stand p l e room_1 s m args below meth c T locs 0 0) (eT : T.heap = h0) (NL : Fr n0 locs) (j0 : Int64) (j2 : Int64) (j6 : Int64) (j8 : Int64) (j10 : Int64) (j12 : Int64) (j14 : Int64) (t0 : Int32) :
    Go p e below s 0 0 (QV (.int (f0_106 j0 j2 j6 j8 j10 j12 j14 t0)) h0 n0) (T.setTop (mkF m 106 #[.val (.long j0), .second, .val (.long j2), .second, .val (.long (4294967295 : Int64)), .second, .val (.long j6), .second, .val (.long j8), .second, .val (.long j10), .second, .val (.long j12), .second, .val (.long j14), .second, .unset, .unset, .unset, .unset, .unset, .unset, .unset] [(.int t0)])) := by
  obtain ⟨hx, hZ, hby, hml, hown, hrt, hlk⟩ := id C
  unfold f0_106
  refine Go.pre (st' := T.setTop (mkF m 110 #[.val (.long j0), .second, .val (.long j2), .second, .val (.long (4294967295 : Int64)), .second, .val (.long j6), .second, .val (.long j8), .second, .val (.long j10), .second, .val (.long j12), .second, .val (.long j14), .second, .val (.int t0), .unset, .unset, .unset, .unset, .unset, .unset] [(.long j8)])) (fun target kt => ?_) ?_
  · show Steps p.tables e below (T.setTop (mkF m 106 #[.val (.long j0), .second, .val (.long j2), .second, .val (.long (4294967295 : Int64)), .second, .val (.long j6), .second, .val (.long j8), .second, .val (.long j10), .second, .val (.long j12), .second, .val (.long j14), .second, .unset, .unset, .unset, .unset, .unset, .unset, .unset] [(.int t0)])) _
    refine XS.istore X.here hx rfl (hb hby at_106) rfl (l' := #[.val (.long j0), .second, .val (.long j2), .second, .val (.long (4294967295 : Int64)), .second, .val (.long j6), .second, .val (.long j8), .second, .val (.long j10), .second, .val (.long j12), .second, .val (.long j14), .second, .val (.int t0), .unset, .unset, .unset, .unset, .unset, .unset]) rfl ?_
    show Steps p.tables e below (T.setTop (mkF m 108 #[.val (.long j0), .second, .val (.long j2), .second, .val (.long (4294967295 : Int64)), .second, .val (.long j6), .second, .val (.long j8), .second, .val (.long j10), .second, .val (.long j12), .second, .val (.long j14), .second, .val (.int t0), .unset, .unset, .unset, .unset, .unset, .unset] [])) _
    refine XS.lload X.here hx rfl (hb hby at_108) rfl ?_
    exact kt
  obtain ⟨_, _, ⟨T110, L110, k110, n110⟩, -, X110, ⟨Lc110, hQ110, l110, y110, z110⟩, st110⟩ := Jvm.LawKit.callS X hx (y := (⟨"com/example/pulsekeep/pulsekeep/core/Subscription", "following", "(J)J"⟩ : MethodName)) hown (mvT hZ (hw _ (List.mem_of_getElem? (i := 7) rfl))) (mvT hZ (hw _ (List.mem_of_getElem? (i := 8) rfl))) (mvT hZ (hw _ (List.mem_of_getElem? (i := 4) rfl))) (mvT hZ (hw _ (List.mem_of_getElem? (i := 9) rfl))) (by decide) (backOf (W := 0) (rm2 l Z a0 hw [] j8 h0 n0) hZ (hw _ (List.mem_of_getElem? (i := 9) rfl)) (hw _ (List.mem_of_getElem? (i := 4) rfl)) (by decide) (by decide)) (g := (mkF m 110 #[.val (.long j0), .second, .val (.long j2), .second, .val (.long (4294967295 : Int64)), .second, .val (.long j6), .second, .val (.long j8), .second, .val (.long j10), .second, .val (.long j12), .second, .val (.long j14), .second, .val (.int t0), .unset, .unset, .unset, .unset, .unset, .unset] [(.long j8)])) rfl (by rw [hml]; rfl) (argsL := [(.long j8)]) (rest := []) (lenOf pd0_110 rfl) rfl (by show 2 * 0 + _ ≤ _; exact Nat.le_of_eq rfl) (hb hby at_110) (fun _ _ => ⟨rfl, eT, (by decide : 0 + 0 ≤ _), (by decide : 0 + 0 ≤ _)⟩)
  dsimp only [Pt.U, Pt.locs, Pt.cells, Pt.slots] at X110 l110 y110 z110 st110 hQ110
  subst l110 y110 z110
  obtain ⟨rfl, N110q, e110⟩ := hQ110
  have N110 := Fr.app NL N110q
  refine Go.pre st110 ?_
  show Go p e below s 0 0 _ (T110.setTop (mkF m 113 #[.val (.long j0), .second, .val (.long j2), .second, .val (.long (4294967295 : Int64)), .second, .val (.long j6), .second, .val (.long j8), .second, .val (.long j10), .second, .val (.long j12), .second, .val (.long j14), .second, .val (.int t0), .unset, .unset, .unset, .unset, .unset, .unset] [(.long (f2_0 j8))]))
  refine Go.pre (st' := T110.setTop (mkF m 115 #[.val (.long j0), .second, .val (.long j2), .second, .val (.long (4294967295 : Int64)), .second, .val (.long j6), .second, .val (.long j8), .second, .val (.long j10), .second, .val (.long j12), .second, .val (.long j14), .second, .val (.int t0), .val (.long (f2_0 j8)), .second, .unset, .unset, .unset, .unset] [])) (fun target kt => ?_) ?_
  · show Steps p.tables e below (T110.setTop (mkF m 113 #[.val (.long j0), .second, .val (.long j2), .second, .val (.long (4294967295 : Int64)), .second, .val (.long j6), .second, .val (.long j8), .second, .val (.long j10), .second, .val (.long j12), .second, .val (.long j14), .second, .val (.int t0), .unset, .unset, .unset, .unset, .unset, .unset] [(.long (f2_0 j8))])) _
    refine XS.lstore X110.here hx rfl (hb hby at_113) rfl (l' := #[.val (.long j0), .second, .val (.long j2), .second, .val (.long (4294967295 : Int64)), .second, .val (.long j6), .second, .val (.long j8), .second, .val (.long j10), .second, .val (.long j12), .second, .val (.long j14), .second, .val (.int t0), .val (.long (f2_0 j8)), .second, .unset, .unset, .unset, .unset]) rfl ?_
    exact kt
  exact b0_115 C hw X110 e110 N110 j0 j2 j6 j8 j10 j12 j14 t0 (f2_0 j8)
set_option maxRecDepth 65536 in
set_option maxHeartbeats 40000000 in
theorem b0_86 {p : Program} {l : Launch} {e : Env} {s : State} {m : MethodId} {args : Array Value} {below : List Frame} {meth : Method} {c : Code} {Z : State} {a0 : Array Value} {T : State} {locs : List Loc} {h0 : Heap} {n0 : Nat} (C : Ctx p s m meth c Z code 23 "com/example/pulsekeep/pulsekeep/core/SubscriptionDistancePinLaw" (some .boolean)) (hw : ∀ d ∈ tables_1, d.before a0 Z = true)
    (X : Stand p l e room_1 s m args below meth c T locs 0 0) (eT : T.heap = h0) (NL : Fr n0 locs) (j0 : Int64) (j2 : Int64) (j6 : Int64) (j8 : Int64) (j10 : Int64) (j12 : Int64) (j14 : Int64) :
    Go p e below s 0 0 (QV (.int (f0_86 j0 j2 j6 j8 j10 j12 j14)) h0 n0) (T.setTop (mkF m 86 #[.val (.long j0), .second, .val (.long j2), .second, .val (.long (4294967295 : Int64)), .second, .val (.long j6), .second, .val (.long j8), .second, .val (.long j10), .second, .val (.long j12), .second, .val (.long j14), .second, .unset, .unset, .unset, .unset, .unset, .unset, .unset] [])) := by
  obtain ⟨hx, hZ, hby, hml, hown, hrt, hlk⟩ := id C
  unfold f0_86
  refine Go.pre (st' := T.setTop (mkF m 106 #[.val (.long j0), .second, .val (.long j2), .second, .val (.long (4294967295 : Int64)), .second, .val (.long j6), .second, .val (.long j8), .second, .val (.long j10), .second, .val (.long j12), .second, .val (.long j14), .second, .unset, .unset, .unset, .unset, .unset, .unset, .unset] [(.int (0 : Int32))])) (fun target kt => ?_) ?_
  · show Steps p.tables e below (T.setTop (mkF m 86 #[.val (.long j0), .second, .val (.long j2), .second, .val (.long (4294967295 : Int64)), .second, .val (.long j6), .second, .val (.long j8), .second, .val (.long j10), .second, .val (.long j12), .second, .val (.long j14), .second, .unset, .unset, .unset, .unset, .unset, .unset, .unset] [])) _
    refine XS.iconst X.here hx rfl (hb hby at_86) ?_
    show Steps p.tables e below (T.setTop (mkF m 87 #[.val (.long j0), .second, .val (.long j2), .second, .val (.long (4294967295 : Int64)), .second, .val (.long j6), .second, .val (.long j8), .second, .val (.long j10), .second, .val (.long j12), .second, .val (.long j14), .second, .unset, .unset, .unset, .unset, .unset, .unset, .unset] [(.int (0 : Int32))])) _
    refine XS.goto X.here hx rfl (pc0 := 87) (pc' := 106) rfl (hb hby at_87) (by decide) (by decide) ?_
    exact kt
  exact b0_106 C hw X eT NL j0 j2 j6 j8 j10 j12 j14 (0 : Int32)
set_option maxRecDepth 65536 in
set_option maxHeartbeats 40000000 in
theorem b0_60 {p : Program} {l : Launch} {e : Env} {s : State} {m : MethodId} {args : Array Value} {below : List Frame} {meth : Method} {c : Code} {Z : State} {a0 : Array Value} {T : State} {locs : List Loc} {h0 : Heap} {n0 : Nat} (C : Ctx p s m meth c Z code 23 "com/example/pulsekeep/pulsekeep/core/SubscriptionDistancePinLaw" (some .boolean)) (hw : ∀ d ∈ tables_1, d.before a0 Z = true)
    (X : Stand p l e room_1 s m args below meth c T locs 0 0) (eT : T.heap = h0) (NL : Fr n0 locs) (j0 : Int64) (j2 : Int64) (j6 : Int64) (j8 : Int64) (j10 : Int64) (j12 : Int64) (j14 : Int64) :
    Go p e below s 0 0 (QV (.int (f0_60 j0 j2 j6 j8 j10 j12 j14)) h0 n0) (T.setTop (mkF m 60 #[.val (.long j0), .second, .val (.long j2), .second, .val (.long (4294967295 : Int64)), .second, .val (.long j6), .second, .val (.long j8), .second, .val (.long j10), .second, .val (.long j12), .second, .val (.long j14), .second, .unset, .unset, .unset, .unset, .unset, .unset, .unset] [])) := by
  obtain ⟨hx, hZ, hby, hml, hown, hrt, hlk⟩ := id C
  unfold f0_60
  refine Go.pre (st' := T.setTop (mkF m 65 #[.val (.long j0), .second, .val (.long j2), .second, .val (.long (4294967295 : Int64)), .second, .val (.long j6), .second, .val (.long j8), .second, .val (.long j10), .second, .val (.long j12), .second, .val (.long j14), .second, .unset, .unset, .unset, .unset, .unset, .unset, .unset] [(.int (lcmpW j6 j8))])) (fun target kt => ?_) ?_
  · show Steps p.tables e below (T.setTop (mkF m 60 #[.val (.long j0), .second, .val (.long j2), .second, .val (.long (4294967295 : Int64)), .second, .val (.long j6), .second, .val (.long j8), .second, .val (.long j10), .second, .val (.long j12), .second, .val (.long j14), .second, .unset, .unset, .unset, .unset, .unset, .unset, .unset] [])) _
    refine XS.lload X.here hx rfl (hb hby at_60) rfl ?_
    show Steps p.tables e below (T.setTop (mkF m 62 #[.val (.long j0), .second, .val (.long j2), .second, .val (.long (4294967295 : Int64)), .second, .val (.long j6), .second, .val (.long j8), .second, .val (.long j10), .second, .val (.long j12), .second, .val (.long j14), .second, .unset, .unset, .unset, .unset, .unset, .unset, .unset] [(.long j6)])) _
    refine XS.lload X.here hx rfl (hb hby at_62) rfl ?_
    show Steps p.tables e below (T.setTop (mkF m 64 #[.val (.long j0), .second, .val (.long j2), .second, .val (.long (4294967295 : Int64)), .second, .val (.long j6), .second, .val (.long j8), .second, .val (.long j10), .second, .val (.long j12), .second, .val (.long j14), .second, .unset, .unset, .unset, .unset, .unset, .unset, .unset] [(.long j8), (.long j6)])) _
    refine XS.lcmp X.here hx rfl (hb hby at_64) rfl ?_
    exact kt
  by_cases h65 : j6 = j8
  · rw [if_pos h65]
    refine Go.pre (st' := T.setTop (mkF m 68 #[.val (.long j0), .second, .val (.long j2), .second, .val (.long (4294967295 : Int64)), .second, .val (.long j6), .second, .val (.long j8), .second, .val (.long j10), .second, .val (.long j12), .second, .val (.long j14), .second, .unset, .unset, .unset, .unset, .unset, .unset, .unset] [])) (fun target kt => ?_) ?_
    · show Steps p.tables e below (T.setTop (mkF m 65 #[.val (.long j0), .second, .val (.long j2), .second, .val (.long (4294967295 : Int64)), .second, .val (.long j6), .second, .val (.long j8), .second, .val (.long j10), .second, .val (.long j12), .second, .val (.long j14), .second, .unset, .unset, .unset, .unset, .unset, .unset, .unset] [(.int (lcmpW j6 j8))])) _
      refine XS.ifNo X.here hx rfl (hb hby at_65) rfl ((if0 _ _).trans (teq ((lw_eq _ _).mpr h65)).2) ?_
      exact kt
    refine Go.pre (st' := T.setTop (mkF m 72 #[.val (.long j0), .second, .val (.long j2), .second, .val (.long (4294967295 : Int64)), .second, .val (.long j6), .second, .val (.long j8), .second, .val (.long j10), .second, .val (.long j12), .second, .val (.long j14), .second, .unset, .unset, .unset, .unset, .unset, .unset, .unset] [(.int (lcmpW j10 (0 : Int64)))])) (fun target kt => ?_) ?_
    · show Steps p.tables e below (T.setTop (mkF m 68 #[.val (.long j0), .second, .val (.long j2), .second, .val (.long (4294967295 : Int64)), .second, .val (.long j6), .second, .val (.long j8), .second, .val (.long j10), .second, .val (.long j12), .second, .val (.long j14), .second, .unset, .unset, .unset, .unset, .unset, .unset, .unset] [])) _
      refine XS.lload X.here hx rfl (hb hby at_68) rfl ?_
      show Steps p.tables e below (T.setTop (mkF m 70 #[.val (.long j0), .second, .val (.long j2), .second, .val (.long (4294967295 : Int64)), .second, .val (.long j6), .second, .val (.long j8), .second, .val (.long j10), .second, .val (.long j12), .second, .val (.long j14), .second, .unset, .unset, .unset, .unset, .unset, .unset, .unset] [(.long j10)])) _
      refine XS.lconst X.here hx rfl (hb hby at_70) ?_
      show Steps p.tables e below (T.setTop (mkF m 71 #[.val (.long j0), .second, .val (.long j2), .second, .val (.long (4294967295 : Int64)), .second, .val (.long j6), .second, .val (.long j8), .second, .val (.long j10), .second, .val (.long j12), .second, .val (.long j14), .second, .unset, .unset, .unset, .unset, .unset, .unset, .unset] [(.long (0 : Int64)), (.long j10)])) _
      refine XS.lcmp X.here hx rfl (hb hby at_71) rfl ?_
      exact kt
    by_cases h72 : j10 = (0 : Int64)
    · rw [if_pos h72]
      refine Go.pre (st' := T.setTop (mkF m 75 #[.val (.long j0), .second, .val (.long j2), .second, .val (.long (4294967295 : Int64)), .second, .val (.long j6), .second, .val (.long j8), .second, .val (.long j10), .second, .val (.long j12), .second, .val (.long j14), .second, .unset, .unset, .unset, .unset, .unset, .unset, .unset] [])) (fun target kt => ?_) ?_
      · show Steps p.tables e below (T.setTop (mkF m 72 #[.val (.long j0), .second, .val (.long j2), .second, .val (.long (4294967295 : Int64)), .second, .val (.long j6), .second, .val (.long j8), .second, .val (.long j10), .second, .val (.long j12), .second, .val (.long j14), .second, .unset, .unset, .unset, .unset, .unset, .unset, .unset] [(.int (lcmpW j10 (0 : Int64)))])) _
        refine XS.ifNo X.here hx rfl (hb hby at_72) rfl ((if0 _ _).trans (teq ((lw_eq _ _).mpr h72)).2) ?_
        exact kt
      refine Go.pre (st' := T.setTop (mkF m 79 #[.val (.long j0), .second, .val (.long j2), .second, .val (.long (4294967295 : Int64)), .second, .val (.long j6), .second, .val (.long j8), .second, .val (.long j10), .second, .val (.long j12), .second, .val (.long j14), .second, .unset, .unset, .unset, .unset, .unset, .unset, .unset] [(.int (lcmpW j14 (0 : Int64)))])) (fun target kt => ?_) ?_
      · show Steps p.tables e below (T.setTop (mkF m 75 #[.val (.long j0), .second, .val (.long j2), .second, .val (.long (4294967295 : Int64)), .second, .val (.long j6), .second, .val (.long j8), .second, .val (.long j10), .second, .val (.long j12), .second, .val (.long j14), .second, .unset, .unset, .unset, .unset, .unset, .unset, .unset] [])) _
        refine XS.lload X.here hx rfl (hb hby at_75) rfl ?_
        show Steps p.tables e below (T.setTop (mkF m 77 #[.val (.long j0), .second, .val (.long j2), .second, .val (.long (4294967295 : Int64)), .second, .val (.long j6), .second, .val (.long j8), .second, .val (.long j10), .second, .val (.long j12), .second, .val (.long j14), .second, .unset, .unset, .unset, .unset, .unset, .unset, .unset] [(.long j14)])) _
        refine XS.lconst X.here hx rfl (hb hby at_77) ?_
        show Steps p.tables e below (T.setTop (mkF m 78 #[.val (.long j0), .second, .val (.long j2), .second, .val (.long (4294967295 : Int64)), .second, .val (.long j6), .second, .val (.long j8), .second, .val (.long j10), .second, .val (.long j12), .second, .val (.long j14), .second, .unset, .unset, .unset, .unset, .unset, .unset, .unset] [(.long (0 : Int64)), (.long j14)])) _
        refine XS.lcmp X.here hx rfl (hb hby at_78) rfl ?_
        exact kt
      by_cases h79 : j14 = (0 : Int64)
      · rw [if_pos h79]
        refine Go.pre (st' := T.setTop (mkF m 82 #[.val (.long j0), .second, .val (.long j2), .second, .val (.long (4294967295 : Int64)), .second, .val (.long j6), .second, .val (.long j8), .second, .val (.long j10), .second, .val (.long j12), .second, .val (.long j14), .second, .unset, .unset, .unset, .unset, .unset, .unset, .unset] [])) (fun target kt => ?_) ?_
        · show Steps p.tables e below (T.setTop (mkF m 79 #[.val (.long j0), .second, .val (.long j2), .second, .val (.long (4294967295 : Int64)), .second, .val (.long j6), .second, .val (.long j8), .second, .val (.long j10), .second, .val (.long j12), .second, .val (.long j14), .second, .unset, .unset, .unset, .unset, .unset, .unset, .unset] [(.int (lcmpW j14 (0 : Int64)))])) _
          refine XS.ifNo X.here hx rfl (hb hby at_79) rfl ((if0 _ _).trans (teq ((lw_eq _ _).mpr h79)).2) ?_
          exact kt
        refine Go.pre (st' := T.setTop (mkF m 106 #[.val (.long j0), .second, .val (.long j2), .second, .val (.long (4294967295 : Int64)), .second, .val (.long j6), .second, .val (.long j8), .second, .val (.long j10), .second, .val (.long j12), .second, .val (.long j14), .second, .unset, .unset, .unset, .unset, .unset, .unset, .unset] [(.int (1 : Int32))])) (fun target kt => ?_) ?_
        · show Steps p.tables e below (T.setTop (mkF m 82 #[.val (.long j0), .second, .val (.long j2), .second, .val (.long (4294967295 : Int64)), .second, .val (.long j6), .second, .val (.long j8), .second, .val (.long j10), .second, .val (.long j12), .second, .val (.long j14), .second, .unset, .unset, .unset, .unset, .unset, .unset, .unset] [])) _
          refine XS.iconst X.here hx rfl (hb hby at_82) ?_
          show Steps p.tables e below (T.setTop (mkF m 83 #[.val (.long j0), .second, .val (.long j2), .second, .val (.long (4294967295 : Int64)), .second, .val (.long j6), .second, .val (.long j8), .second, .val (.long j10), .second, .val (.long j12), .second, .val (.long j14), .second, .unset, .unset, .unset, .unset, .unset, .unset, .unset] [(.int (1 : Int32))])) _
          refine XS.goto X.here hx rfl (pc0 := 83) (pc' := 106) rfl (hb hby at_83) (by decide) (by decide) ?_
          exact kt
        exact b0_106 C hw X eT NL j0 j2 j6 j8 j10 j12 j14 (1 : Int32)
      · rw [if_neg h79]
        refine Go.pre (st' := T.setTop (mkF m 86 #[.val (.long j0), .second, .val (.long j2), .second, .val (.long (4294967295 : Int64)), .second, .val (.long j6), .second, .val (.long j8), .second, .val (.long j10), .second, .val (.long j12), .second, .val (.long j14), .second, .unset, .unset, .unset, .unset, .unset, .unset, .unset] [])) (fun target kt => ?_) ?_
        · show Steps p.tables e below (T.setTop (mkF m 79 #[.val (.long j0), .second, .val (.long j2), .second, .val (.long (4294967295 : Int64)), .second, .val (.long j6), .second, .val (.long j8), .second, .val (.long j10), .second, .val (.long j12), .second, .val (.long j14), .second, .unset, .unset, .unset, .unset, .unset, .unset, .unset] [(.int (lcmpW j14 (0 : Int64)))])) _
          refine XS.ifYes X.here hx rfl (pc0 := 79) (pc' := 86) rfl (hb hby at_79) rfl ((if0 _ _).trans (feq (fun q => h79 ((lw_eq _ _).mp q))).2) (by decide) (by decide) ?_
          exact kt
        exact b0_86 C hw X eT NL j0 j2 j6 j8 j10 j12 j14
    · rw [if_neg h72]
      refine Go.pre (st' := T.setTop (mkF m 86 #[.val (.long j0), .second, .val (.long j2), .second, .val (.long (4294967295 : Int64)), .second, .val (.long j6), .second, .val (.long j8), .second, .val (.long j10), .second, .val (.long j12), .second, .val (.long j14), .second, .unset, .unset, .unset, .unset, .unset, .unset, .unset] [])) (fun target kt => ?_) ?_
      · show Steps p.tables e below (T.setTop (mkF m 72 #[.val (.long j0), .second, .val (.long j2), .second, .val (.long (4294967295 : Int64)), .second, .val (.long j6), .second, .val (.long j8), .second, .val (.long j10), .second, .val (.long j12), .second, .val (.long j14), .second, .unset, .unset, .unset, .unset, .unset, .unset, .unset] [(.int (lcmpW j10 (0 : Int64)))])) _
        refine XS.ifYes X.here hx rfl (pc0 := 72) (pc' := 86) rfl (hb hby at_72) rfl ((if0 _ _).trans (feq (fun q => h72 ((lw_eq _ _).mp q))).2) (by decide) (by decide) ?_
        exact kt
      exact b0_86 C hw X eT NL j0 j2 j6 j8 j10 j12 j14
  · rw [if_neg h65]
    refine Go.pre (st' := T.setTop (mkF m 90 #[.val (.long j0), .second, .val (.long j2), .second, .val (.long (4294967295 : Int64)), .second, .val (.long j6), .second, .val (.long j8), .second, .val (.long j10), .second, .val (.long j12), .second, .val (.long j14), .second, .unset, .unset, .unset, .unset, .unset, .unset, .unset] [])) (fun target kt => ?_) ?_
    · show Steps p.tables e below (T.setTop (mkF m 65 #[.val (.long j0), .second, .val (.long j2), .second, .val (.long (4294967295 : Int64)), .second, .val (.long j6), .second, .val (.long j8), .second, .val (.long j10), .second, .val (.long j12), .second, .val (.long j14), .second, .unset, .unset, .unset, .unset, .unset, .unset, .unset] [(.int (lcmpW j6 j8))])) _
      refine XS.ifYes X.here hx rfl (pc0 := 65) (pc' := 90) rfl (hb hby at_65) rfl ((if0 _ _).trans (feq (fun q => h65 ((lw_eq _ _).mp q))).2) (by decide) (by decide) ?_
      exact kt
    refine Go.pre (st' := T.setTop (mkF m 98 #[.val (.long j0), .second, .val (.long j2), .second, .val (.long (4294967295 : Int64)), .second, .val (.long j6), .second, .val (.long j8), .second, .val (.long j10), .second, .val (.long j12), .second, .val (.long j14), .second, .unset, .unset, .unset, .unset, .unset, .unset, .unset] [(.int (lcmpW (j10 + j14) (4294967295 : Int64)))])) (fun target kt => ?_) ?_
    · show Steps p.tables e below (T.setTop (mkF m 90 #[.val (.long j0), .second, .val (.long j2), .second, .val (.long (4294967295 : Int64)), .second, .val (.long j6), .second, .val (.long j8), .second, .val (.long j10), .second, .val (.long j12), .second, .val (.long j14), .second, .unset, .unset, .unset, .unset, .unset, .unset, .unset] [])) _
      refine XS.lload X.here hx rfl (hb hby at_90) rfl ?_
      show Steps p.tables e below (T.setTop (mkF m 92 #[.val (.long j0), .second, .val (.long j2), .second, .val (.long (4294967295 : Int64)), .second, .val (.long j6), .second, .val (.long j8), .second, .val (.long j10), .second, .val (.long j12), .second, .val (.long j14), .second, .unset, .unset, .unset, .unset, .unset, .unset, .unset] [(.long j10)])) _
      refine XS.lload X.here hx rfl (hb hby at_92) rfl ?_
      show Steps p.tables e below (T.setTop (mkF m 94 #[.val (.long j0), .second, .val (.long j2), .second, .val (.long (4294967295 : Int64)), .second, .val (.long j6), .second, .val (.long j8), .second, .val (.long j10), .second, .val (.long j12), .second, .val (.long j14), .second, .unset, .unset, .unset, .unset, .unset, .unset, .unset] [(.long j14), (.long j10)])) _
      refine XS.ladd X.here hx rfl (hb hby at_94) rfl ?_
      show Steps p.tables e below (T.setTop (mkF m 95 #[.val (.long j0), .second, .val (.long j2), .second, .val (.long (4294967295 : Int64)), .second, .val (.long j6), .second, .val (.long j8), .second, .val (.long j10), .second, .val (.long j12), .second, .val (.long j14), .second, .unset, .unset, .unset, .unset, .unset, .unset, .unset] [(.long (j10 + j14))])) _
      refine XS.lload X.here hx rfl (hb hby at_95) rfl ?_
      show Steps p.tables e below (T.setTop (mkF m 97 #[.val (.long j0), .second, .val (.long j2), .second, .val (.long (4294967295 : Int64)), .second, .val (.long j6), .second, .val (.long j8), .second, .val (.long j10), .second, .val (.long j12), .second, .val (.long j14), .second, .unset, .unset, .unset, .unset, .unset, .unset, .unset] [(.long (4294967295 : Int64)), (.long (j10 + j14))])) _
      refine XS.lcmp X.here hx rfl (hb hby at_97) rfl ?_
      exact kt
    by_cases h98 : (j10 + j14) = (4294967295 : Int64)
    · rw [if_pos h98]
      refine Go.pre (st' := T.setTop (mkF m 101 #[.val (.long j0), .second, .val (.long j2), .second, .val (.long (4294967295 : Int64)), .second, .val (.long j6), .second, .val (.long j8), .second, .val (.long j10), .second, .val (.long j12), .second, .val (.long j14), .second, .unset, .unset, .unset, .unset, .unset, .unset, .unset] [])) (fun target kt => ?_) ?_
      · show Steps p.tables e below (T.setTop (mkF m 98 #[.val (.long j0), .second, .val (.long j2), .second, .val (.long (4294967295 : Int64)), .second, .val (.long j6), .second, .val (.long j8), .second, .val (.long j10), .second, .val (.long j12), .second, .val (.long j14), .second, .unset, .unset, .unset, .unset, .unset, .unset, .unset] [(.int (lcmpW (j10 + j14) (4294967295 : Int64)))])) _
        refine XS.ifNo X.here hx rfl (hb hby at_98) rfl ((if0 _ _).trans (teq ((lw_eq _ _).mpr h98)).2) ?_
        exact kt
      refine Go.pre (st' := T.setTop (mkF m 106 #[.val (.long j0), .second, .val (.long j2), .second, .val (.long (4294967295 : Int64)), .second, .val (.long j6), .second, .val (.long j8), .second, .val (.long j10), .second, .val (.long j12), .second, .val (.long j14), .second, .unset, .unset, .unset, .unset, .unset, .unset, .unset] [(.int (1 : Int32))])) (fun target kt => ?_) ?_
      · show Steps p.tables e below (T.setTop (mkF m 101 #[.val (.long j0), .second, .val (.long j2), .second, .val (.long (4294967295 : Int64)), .second, .val (.long j6), .second, .val (.long j8), .second, .val (.long j10), .second, .val (.long j12), .second, .val (.long j14), .second, .unset, .unset, .unset, .unset, .unset, .unset, .unset] [])) _
        refine XS.iconst X.here hx rfl (hb hby at_101) ?_
        show Steps p.tables e below (T.setTop (mkF m 102 #[.val (.long j0), .second, .val (.long j2), .second, .val (.long (4294967295 : Int64)), .second, .val (.long j6), .second, .val (.long j8), .second, .val (.long j10), .second, .val (.long j12), .second, .val (.long j14), .second, .unset, .unset, .unset, .unset, .unset, .unset, .unset] [(.int (1 : Int32))])) _
        refine XS.goto X.here hx rfl (pc0 := 102) (pc' := 106) rfl (hb hby at_102) (by decide) (by decide) ?_
        exact kt
      exact b0_106 C hw X eT NL j0 j2 j6 j8 j10 j12 j14 (1 : Int32)
    · rw [if_neg h98]
      refine Go.pre (st' := T.setTop (mkF m 105 #[.val (.long j0), .second, .val (.long j2), .second, .val (.long (4294967295 : Int64)), .second, .val (.long j6), .second, .val (.long j8), .second, .val (.long j10), .second, .val (.long j12), .second, .val (.long j14), .second, .unset, .unset, .unset, .unset, .unset, .unset, .unset] [])) (fun target kt => ?_) ?_
      · show Steps p.tables e below (T.setTop (mkF m 98 #[.val (.long j0), .second, .val (.long j2), .second, .val (.long (4294967295 : Int64)), .second, .val (.long j6), .second, .val (.long j8), .second, .val (.long j10), .second, .val (.long j12), .second, .val (.long j14), .second, .unset, .unset, .unset, .unset, .unset, .unset, .unset] [(.int (lcmpW (j10 + j14) (4294967295 : Int64)))])) _
        refine XS.ifYes X.here hx rfl (pc0 := 98) (pc' := 105) rfl (hb hby at_98) rfl ((if0 _ _).trans (feq (fun q => h98 ((lw_eq _ _).mp q))).2) (by decide) (by decide) ?_
        exact kt
      refine Go.pre (st' := T.setTop (mkF m 106 #[.val (.long j0), .second, .val (.long j2), .second, .val (.long (4294967295 : Int64)), .second, .val (.long j6), .second, .val (.long j8), .second, .val (.long j10), .second, .val (.long j12), .second, .val (.long j14), .second, .unset, .unset, .unset, .unset, .unset, .unset, .unset] [(.int (0 : Int32))])) (fun target kt => ?_) ?_
      · show Steps p.tables e below (T.setTop (mkF m 105 #[.val (.long j0), .second, .val (.long j2), .second, .val (.long (4294967295 : Int64)), .second, .val (.long j6), .second, .val (.long j8), .second, .val (.long j10), .second, .val (.long j12), .second, .val (.long j14), .second, .unset, .unset, .unset, .unset, .unset, .unset, .unset] [])) _
        refine XS.iconst X.here hx rfl (hb hby at_105) ?_
        exact kt
      exact b0_106 C hw X eT NL j0 j2 j6 j8 j10 j12 j14 (0 : Int32)
set_option maxRecDepth 65536 in
set_option maxHeartbeats 40000000 in
theorem b0_51 {p : Program} {l : Launch} {e : Env} {s : State} {m : MethodId} {args : Array Value} {below : List Frame} {meth : Method} {c : Code} {Z : State} {a0 : Array Value} {T : State} {locs : List Loc} {h0 : Heap} {n0 : Nat} (C : Ctx p s m meth c Z code 23 "com/example/pulsekeep/pulsekeep/core/SubscriptionDistancePinLaw" (some .boolean)) (hw : ∀ d ∈ tables_1, d.before a0 Z = true)
    (X : Stand p l e room_1 s m args below meth c T locs 0 0) (eT : T.heap = h0) (NL : Fr n0 locs) (j0 : Int64) (j2 : Int64) (j6 : Int64) (j8 : Int64) (j10 : Int64) (j12 : Int64) :
    Go p e below s 0 0 (QV (.int (f0_51 j0 j2 j6 j8 j10 j12)) h0 n0) (T.setTop (mkF m 51 #[.val (.long j0), .second, .val (.long j2), .second, .val (.long (4294967295 : Int64)), .second, .val (.long j6), .second, .val (.long j8), .second, .val (.long j10), .second, .val (.long j12), .second, .unset, .unset, .unset, .unset, .unset, .unset, .unset, .unset, .unset] [])) := by
  obtain ⟨hx, hZ, hby, hml, hown, hrt, hlk⟩ := id C
  unfold f0_51
  refine Go.pre (st' := T.setTop (mkF m 55 #[.val (.long j0), .second, .val (.long j2), .second, .val (.long (4294967295 : Int64)), .second, .val (.long j6), .second, .val (.long j8), .second, .val (.long j10), .second, .val (.long j12), .second, .unset, .unset, .unset, .unset, .unset, .unset, .unset, .unset, .unset] [(.long j6), (.long j8)])) (fun target kt => ?_) ?_
  · show Steps p.tables e below (T.setTop (mkF m 51 #[.val (.long j0), .second, .val (.long j2), .second, .val (.long (4294967295 : Int64)), .second, .val (.long j6), .second, .val (.long j8), .second, .val (.long j10), .second, .val (.long j12), .second, .unset, .unset, .unset, .unset, .unset, .unset, .unset, .unset, .unset] [])) _
    refine XS.lload X.here hx rfl (hb hby at_51) rfl ?_
    show Steps p.tables e below (T.setTop (mkF m 53 #[.val (.long j0), .second, .val (.long j2), .second, .val (.long (4294967295 : Int64)), .second, .val (.long j6), .second, .val (.long j8), .second, .val (.long j10), .second, .val (.long j12), .second, .unset, .unset, .unset, .unset, .unset, .unset, .unset, .unset, .unset] [(.long j8)])) _
    refine XS.lload X.here hx rfl (hb hby at_53) rfl ?_
    exact kt
  obtain ⟨_, _, ⟨T55, L55, k55, n55⟩, -, X55, ⟨Lc55, hQ55, l55, y55, z55⟩, st55⟩ := Jvm.LawKit.callS X hx (y := (⟨"com/example/pulsekeep/pulsekeep/core/Subscription", "distance", "(JJ)J"⟩ : MethodName)) hown (mvT hZ (hw _ (List.mem_of_getElem? (i := 2) rfl))) (mvT hZ (hw _ (List.mem_of_getElem? (i := 3) rfl))) (mvT hZ (hw _ (List.mem_of_getElem? (i := 4) rfl))) (mvT hZ (hw _ (List.mem_of_getElem? (i := 5) rfl))) (by decide) (backOf (W := 0) (rm1 l Z a0 hw [] j8 j6 h0 n0) hZ (hw _ (List.mem_of_getElem? (i := 5) rfl)) (hw _ (List.mem_of_getElem? (i := 4) rfl)) (by decide) (by decide)) (g := (mkF m 55 #[.val (.long j0), .second, .val (.long j2), .second, .val (.long (4294967295 : Int64)), .second, .val (.long j6), .second, .val (.long j8), .second, .val (.long j10), .second, .val (.long j12), .second, .unset, .unset, .unset, .unset, .unset, .unset, .unset, .unset, .unset] [(.long j6), (.long j8)])) rfl (by rw [hml]; rfl) (argsL := [(.long j8), (.long j6)]) (rest := []) (lenOf pd0_119 rfl) rfl (by show 2 * 0 + _ ≤ _; exact Nat.le_of_eq rfl) (hb hby at_55) (fun _ _ => ⟨rfl, eT, (by decide : 0 + 0 ≤ _), (by decide : 0 + 0 ≤ _)⟩)
  dsimp only [Pt.U, Pt.locs, Pt.cells, Pt.slots] at X55 l55 y55 z55 st55 hQ55
  subst l55 y55 z55
  obtain ⟨rfl, N55q, e55⟩ := hQ55
  have N55 := Fr.app NL N55q
  refine Go.pre st55 ?_
  show Go p e below s 0 0 _ (T55.setTop (mkF m 58 #[.val (.long j0), .second, .val (.long j2), .second, .val (.long (4294967295 : Int64)), .second, .val (.long j6), .second, .val (.long j8), .second, .val (.long j10), .second, .val (.long j12), .second, .unset, .unset, .unset, .unset, .unset, .unset, .unset, .unset, .unset] [(.long (f1_0 j8 j6))]))
  refine Go.pre (st' := T55.setTop (mkF m 60 #[.val (.long j0), .second, .val (.long j2), .second, .val (.long (4294967295 : Int64)), .second, .val (.long j6), .second, .val (.long j8), .second, .val (.long j10), .second, .val (.long j12), .second, .val (.long (f1_0 j8 j6)), .second, .unset, .unset, .unset, .unset, .unset, .unset, .unset] [])) (fun target kt => ?_) ?_
  · show Steps p.tables e below (T55.setTop (mkF m 58 #[.val (.long j0), .second, .val (.long j2), .second, .val (.long (4294967295 : Int64)), .second, .val (.long j6), .second, .val (.long j8), .second, .val (.long j10), .second, .val (.long j12), .second, .unset, .unset, .unset, .unset, .unset, .unset, .unset, .unset, .unset] [(.long (f1_0 j8 j6))])) _
    refine XS.lstore X55.here hx rfl (hb hby at_58) rfl (l' := #[.val (.long j0), .second, .val (.long j2), .second, .val (.long (4294967295 : Int64)), .second, .val (.long j6), .second, .val (.long j8), .second, .val (.long j10), .second, .val (.long j12), .second, .val (.long (f1_0 j8 j6)), .second, .unset, .unset, .unset, .unset, .unset, .unset, .unset]) rfl ?_
    exact kt
  exact b0_60 C hw X55 e55 N55 j0 j2 j6 j8 j10 j12 (f1_0 j8 j6)
set_option maxRecDepth 65536 in
set_option maxHeartbeats 40000000 in
theorem b0_38 {p : Program} {l : Launch} {e : Env} {s : State} {m : MethodId} {args : Array Value} {below : List Frame} {meth : Method} {c : Code} {Z : State} {a0 : Array Value} {T : State} {locs : List Loc} {h0 : Heap} {n0 : Nat} (C : Ctx p s m meth c Z code 23 "com/example/pulsekeep/pulsekeep/core/SubscriptionDistancePinLaw" (some .boolean)) (hw : ∀ d ∈ tables_1, d.before a0 Z = true)
    (X : Stand p l e room_1 s m args below meth c T locs 0 0) (eT : T.heap = h0) (NL : Fr n0 locs) (j0 : Int64) (j2 : Int64) (j6 : Int64) (j8 : Int64) (j10 : Int64) :
    Go p e below s 0 0 (QV (.int (f0_38 j0 j2 j6 j8 j10)) h0 n0) (T.setTop (mkF m 38 #[.val (.long j0), .second, .val (.long j2), .second, .val (.long (4294967295 : Int64)), .second, .val (.long j6), .second, .val (.long j8), .second, .val (.long j10), .second, .unset, .unset, .unset, .unset, .unset, .unset, .unset, .unset, .unset, .unset, .unset] [])) := by
  obtain ⟨hx, hZ, hby, hml, hown, hrt, hlk⟩ := id C
  unfold f0_38
  refine Go.pre (st' := T.setTop (mkF m 51 #[.val (.long j0), .second, .val (.long j2), .second, .val (.long (4294967295 : Int64)), .second, .val (.long j6), .second, .val (.long j8), .second, .val (.long j10), .second, .val (.long (((j8 - j6) + (4294967295 : Int64)) - ((j8 - j6) + (4294967295 : Int64)) / (4294967295 : Int64) * (4294967295 : Int64))), .second, .unset, .unset, .unset, .unset, .unset, .unset, .unset, .unset, .unset] [])) (fun target kt => ?_) ?_
  · show Steps p.tables e below (T.setTop (mkF m 38 #[.val (.long j0), .second, .val (.long j2), .second, .val (.long (4294967295 : Int64)), .second, .val (.long j6), .second, .val (.long j8), .second, .val (.long j10), .second, .unset, .unset, .unset, .unset, .unset, .unset, .unset, .unset, .unset, .unset, .unset] [])) _
    refine XS.lload X.here hx rfl (hb hby at_38) rfl ?_
    show Steps p.tables e below (T.setTop (mkF m 40 #[.val (.long j0), .second, .val (.long j2), .second, .val (.long (4294967295 : Int64)), .second, .val (.long j6), .second, .val (.long j8), .second, .val (.long j10), .second, .unset, .unset, .unset, .unset, .unset, .unset, .unset, .unset, .unset, .unset, .unset] [(.long j8)])) _
    refine XS.lload X.here hx rfl (hb hby at_40) rfl ?_
    show Steps p.tables e below (T.setTop (mkF m 42 #[.val (.long j0), .second, .val (.long j2), .second, .val (.long (4294967295 : Int64)), .second, .val (.long j6), .second, .val (.long j8), .second, .val (.long j10), .second, .unset, .unset, .unset, .unset, .unset, .unset, .unset, .unset, .unset, .unset, .unset] [(.long j6), (.long j8)])) _
    refine XS.lsub X.here hx rfl (hb hby at_42) rfl ?_
    show Steps p.tables e below (T.setTop (mkF m 43 #[.val (.long j0), .second, .val (.long j2), .second, .val (.long (4294967295 : Int64)), .second, .val (.long j6), .second, .val (.long j8), .second, .val (.long j10), .second, .unset, .unset, .unset, .unset, .unset, .unset, .unset, .unset, .unset, .unset, .unset] [(.long (j8 - j6))])) _
    refine XS.lload X.here hx rfl (hb hby at_43) rfl ?_
    show Steps p.tables e below (T.setTop (mkF m 45 #[.val (.long j0), .second, .val (.long j2), .second, .val (.long (4294967295 : Int64)), .second, .val (.long j6), .second, .val (.long j8), .second, .val (.long j10), .second, .unset, .unset, .unset, .unset, .unset, .unset, .unset, .unset, .unset, .unset, .unset] [(.long (4294967295 : Int64)), (.long (j8 - j6))])) _
    refine XS.ladd X.here hx rfl (hb hby at_45) rfl ?_
    show Steps p.tables e below (T.setTop (mkF m 46 #[.val (.long j0), .second, .val (.long j2), .second, .val (.long (4294967295 : Int64)), .second, .val (.long j6), .second, .val (.long j8), .second, .val (.long j10), .second, .unset, .unset, .unset, .unset, .unset, .unset, .unset, .unset, .unset, .unset, .unset] [(.long ((j8 - j6) + (4294967295 : Int64)))])) _
    refine XS.lload X.here hx rfl (hb hby at_46) rfl ?_
    show Steps p.tables e below (T.setTop (mkF m 48 #[.val (.long j0), .second, .val (.long j2), .second, .val (.long (4294967295 : Int64)), .second, .val (.long j6), .second, .val (.long j8), .second, .val (.long j10), .second, .unset, .unset, .unset, .unset, .unset, .unset, .unset, .unset, .unset, .unset, .unset] [(.long (4294967295 : Int64)), (.long ((j8 - j6) + (4294967295 : Int64)))])) _
    refine XS.lrem X.here hx rfl (hb hby at_48) rfl (by decide) ?_
    show Steps p.tables e below (T.setTop (mkF m 49 #[.val (.long j0), .second, .val (.long j2), .second, .val (.long (4294967295 : Int64)), .second, .val (.long j6), .second, .val (.long j8), .second, .val (.long j10), .second, .unset, .unset, .unset, .unset, .unset, .unset, .unset, .unset, .unset, .unset, .unset] [(.long (((j8 - j6) + (4294967295 : Int64)) - ((j8 - j6) + (4294967295 : Int64)) / (4294967295 : Int64) * (4294967295 : Int64)))])) _
    refine XS.lstore X.here hx rfl (hb hby at_49) rfl (l' := #[.val (.long j0), .second, .val (.long j2), .second, .val (.long (4294967295 : Int64)), .second, .val (.long j6), .second, .val (.long j8), .second, .val (.long j10), .second, .val (.long (((j8 - j6) + (4294967295 : Int64)) - ((j8 - j6) + (4294967295 : Int64)) / (4294967295 : Int64) * (4294967295 : Int64))), .second, .unset, .unset, .unset, .unset, .unset, .unset, .unset, .unset, .unset]) rfl ?_
    exact kt
  exact b0_51 C hw X eT NL j0 j2 j6 j8 j10 (((j8 - j6) + (4294967295 : Int64)) - ((j8 - j6) + (4294967295 : Int64)) / (4294967295 : Int64) * (4294967295 : Int64))
set_option maxRecDepth 65536 in
set_option maxHeartbeats 40000000 in
theorem b0_29 {p : Program} {l : Launch} {e : Env} {s : State} {m : MethodId} {args : Array Value} {below : List Frame} {meth : Method} {c : Code} {Z : State} {a0 : Array Value} {T : State} {locs : List Loc} {h0 : Heap} {n0 : Nat} (C : Ctx p s m meth c Z code 23 "com/example/pulsekeep/pulsekeep/core/SubscriptionDistancePinLaw" (some .boolean)) (hw : ∀ d ∈ tables_1, d.before a0 Z = true)
    (X : Stand p l e room_1 s m args below meth c T locs 0 0) (eT : T.heap = h0) (NL : Fr n0 locs) (j0 : Int64) (j2 : Int64) (j6 : Int64) (j8 : Int64) :
    Go p e below s 0 0 (QV (.int (f0_29 j0 j2 j6 j8)) h0 n0) (T.setTop (mkF m 29 #[.val (.long j0), .second, .val (.long j2), .second, .val (.long (4294967295 : Int64)), .second, .val (.long j6), .second, .val (.long j8), .second, .unset, .unset, .unset, .unset, .unset, .unset, .unset, .unset, .unset, .unset, .unset, .unset, .unset] [])) := by
  obtain ⟨hx, hZ, hby, hml, hown, hrt, hlk⟩ := id C
  unfold f0_29
  refine Go.pre (st' := T.setTop (mkF m 33 #[.val (.long j0), .second, .val (.long j2), .second, .val (.long (4294967295 : Int64)), .second, .val (.long j6), .second, .val (.long j8), .second, .unset, .unset, .unset, .unset, .unset, .unset, .unset, .unset, .unset, .unset, .unset, .unset, .unset] [(.long j8), (.long j6)])) (fun target kt => ?_) ?_
  · show Steps p.tables e below (T.setTop (mkF m 29 #[.val (.long j0), .second, .val (.long j2), .second, .val (.long (4294967295 : Int64)), .second, .val (.long j6), .second, .val (.long j8), .second, .unset, .unset, .unset, .unset, .unset, .unset, .unset, .unset, .unset, .unset, .unset, .unset, .unset] [])) _
    refine XS.lload X.here hx rfl (hb hby at_29) rfl ?_
    show Steps p.tables e below (T.setTop (mkF m 31 #[.val (.long j0), .second, .val (.long j2), .second, .val (.long (4294967295 : Int64)), .second, .val (.long j6), .second, .val (.long j8), .second, .unset, .unset, .unset, .unset, .unset, .unset, .unset, .unset, .unset, .unset, .unset, .unset, .unset] [(.long j6)])) _
    refine XS.lload X.here hx rfl (hb hby at_31) rfl ?_
    exact kt
  obtain ⟨_, _, ⟨T33, L33, k33, n33⟩, -, X33, ⟨Lc33, hQ33, l33, y33, z33⟩, st33⟩ := Jvm.LawKit.callS X hx (y := (⟨"com/example/pulsekeep/pulsekeep/core/Subscription", "distance", "(JJ)J"⟩ : MethodName)) hown (mvT hZ (hw _ (List.mem_of_getElem? (i := 2) rfl))) (mvT hZ (hw _ (List.mem_of_getElem? (i := 3) rfl))) (mvT hZ (hw _ (List.mem_of_getElem? (i := 4) rfl))) (mvT hZ (hw _ (List.mem_of_getElem? (i := 5) rfl))) (by decide) (backOf (W := 0) (rm1 l Z a0 hw [] j6 j8 h0 n0) hZ (hw _ (List.mem_of_getElem? (i := 5) rfl)) (hw _ (List.mem_of_getElem? (i := 4) rfl)) (by decide) (by decide)) (g := (mkF m 33 #[.val (.long j0), .second, .val (.long j2), .second, .val (.long (4294967295 : Int64)), .second, .val (.long j6), .second, .val (.long j8), .second, .unset, .unset, .unset, .unset, .unset, .unset, .unset, .unset, .unset, .unset, .unset, .unset, .unset] [(.long j8), (.long j6)])) rfl (by rw [hml]; rfl) (argsL := [(.long j6), (.long j8)]) (rest := []) (lenOf pd0_119 rfl) rfl (by show 2 * 0 + _ ≤ _; exact Nat.le_of_eq rfl) (hb hby at_33) (fun _ _ => ⟨rfl, eT, (by decide : 0 + 0 ≤ _), (by decide : 0 + 0 ≤ _)⟩)
  dsimp only [Pt.U, Pt.locs, Pt.cells, Pt.slots] at X33 l33 y33 z33 st33 hQ33
  subst l33 y33 z33
  obtain ⟨rfl, N33q, e33⟩ := hQ33
  have N33 := Fr.app NL N33q
  refine Go.pre st33 ?_
  show Go p e below s 0 0 _ (T33.setTop (mkF m 36 #[.val (.long j0), .second, .val (.long j2), .second, .val (.long (4294967295 : Int64)), .second, .val (.long j6), .second, .val (.long j8), .second, .unset, .unset, .unset, .unset, .unset, .unset, .unset, .unset, .unset, .unset, .unset, .unset, .unset] [(.long (f1_0 j6 j8))]))
  refine Go.pre (st' := T33.setTop (mkF m 38 #[.val (.long j0), .second, .val (.long j2), .second, .val (.long (4294967295 : Int64)), .second, .val (.long j6), .second, .val (.long j8), .second, .val (.long (f1_0 j6 j8)), .second, .unset, .unset, .unset, .unset, .unset, .unset, .unset, .unset, .unset, .unset, .unset] [])) (fun target kt => ?_) ?_
  · show Steps p.tables e below (T33.setTop (mkF m 36 #[.val (.long j0), .second, .val (.long j2), .second, .val (.long (4294967295 : Int64)), .second, .val (.long j6), .second, .val (.long j8), .second, .unset, .unset, .unset, .unset, .unset, .unset, .unset, .unset, .unset, .unset, .unset, .unset, .unset] [(.long (f1_0 j6 j8))])) _
    refine XS.lstore X33.here hx rfl (hb hby at_36) rfl (l' := #[.val (.long j0), .second, .val (.long j2), .second, .val (.long (4294967295 : Int64)), .second, .val (.long j6), .second, .val (.long j8), .second, .val (.long (f1_0 j6 j8)), .second, .unset, .unset, .unset, .unset, .unset, .unset, .unset, .unset, .unset, .unset, .unset]) rfl ?_
    exact kt
  exact b0_38 C hw X33 e33 N33 j0 j2 j6 j8 (f1_0 j6 j8)
set_option maxRecDepth 65536 in
set_option maxHeartbeats 40000000 in
theorem b0_17 {p : Program} {l : Launch} {e : Env} {s : State} {m : MethodId} {args : Array Value} {below : List Frame} {meth : Method} {c : Code} {Z : State} {a0 : Array Value} {T : State} {locs : List Loc} {h0 : Heap} {n0 : Nat} (C : Ctx p s m meth c Z code 23 "com/example/pulsekeep/pulsekeep/core/SubscriptionDistancePinLaw" (some .boolean)) (hw : ∀ d ∈ tables_1, d.before a0 Z = true)
    (X : Stand p l e room_1 s m args below meth c T locs 0 0) (eT : T.heap = h0) (NL : Fr n0 locs) (j0 : Int64) (j2 : Int64) (j6 : Int64) :
    Go p e below s 0 0 (QV (.int (f0_17 j0 j2 j6)) h0 n0) (T.setTop (mkF m 17 #[.val (.long j0), .second, .val (.long j2), .second, .val (.long (4294967295 : Int64)), .second, .val (.long j6), .second, .unset, .unset, .unset, .unset, .unset, .unset, .unset, .unset, .unset, .unset, .unset, .unset, .unset, .unset, .unset] [])) := by
  obtain ⟨hx, hZ, hby, hml, hown, hrt, hlk⟩ := id C
  unfold f0_17
  refine Go.pre (st' := T.setTop (mkF m 29 #[.val (.long j0), .second, .val (.long j2), .second, .val (.long (4294967295 : Int64)), .second, .val (.long j6), .second, .val (.long (((j2 &&& (9223372036854775807 : Int64)) - (j2 &&& (9223372036854775807 : Int64)) / (4294967295 : Int64) * (4294967295 : Int64)) + (1 : Int64))), .second, .unset, .unset, .unset, .unset, .unset, .unset, .unset, .unset, .unset, .unset, .unset, .unset, .unset] [])) (fun target kt => ?_) ?_
  · show Steps p.tables e below (T.setTop (mkF m 17 #[.val (.long j0), .second, .val (.long j2), .second, .val (.long (4294967295 : Int64)), .second, .val (.long j6), .second, .unset, .unset, .unset, .unset, .unset, .unset, .unset, .unset, .unset, .unset, .unset, .unset, .unset, .unset, .unset] [])) _
    refine XS.lloadN X.here hx rfl (hb hby at_17) rfl ?_
    show Steps p.tables e below (T.setTop (mkF m 18 #[.val (.long j0), .second, .val (.long j2), .second, .val (.long (4294967295 : Int64)), .second, .val (.long j6), .second, .unset, .unset, .unset, .unset, .unset, .unset, .unset, .unset, .unset, .unset, .unset, .unset, .unset, .unset, .unset] [(.long j2)])) _
    refine X.ldc2Long hx hown (mvT hZ (hw _ (List.mem_of_getElem? (i := 1) rfl))) (g := (mkF m 18 #[.val (.long j0), .second, .val (.long j2), .second, .val (.long (4294967295 : Int64)), .second, .val (.long j6), .second, .unset, .unset, .unset, .unset, .unset, .unset, .unset, .unset, .unset, .unset, .unset, .unset, .unset, .unset, .unset] [(.long j2)])) rfl (hb hby at_18) _ ?_
    show Steps p.tables e below (T.setTop (mkF m 21 #[.val (.long j0), .second, .val (.long j2), .second, .val (.long (4294967295 : Int64)), .second, .val (.long j6), .second, .unset, .unset, .unset, .unset, .unset, .unset, .unset, .unset, .unset, .unset, .unset, .unset, .unset, .unset, .unset] [(.long (9223372036854775807 : Int64)), (.long j2)])) _
    refine XS.land X.here hx rfl (hb hby at_21) rfl ?_
    show Steps p.tables e below (T.setTop (mkF m 22 #[.val (.long j0), .second, .val (.long j2), .second, .val (.long (4294967295 : Int64)), .second, .val (.long j6), .second, .unset, .unset, .unset, .unset, .unset, .unset, .unset, .unset, .unset, .unset, .unset, .unset, .unset, .unset, .unset] [(.long (j2 &&& (9223372036854775807 : Int64)))])) _
    refine XS.lload X.here hx rfl (hb hby at_22) rfl ?_
    show Steps p.tables e below (T.setTop (mkF m 24 #[.val (.long j0), .second, .val (.long j2), .second, .val (.long (4294967295 : Int64)), .second, .val (.long j6), .second, .unset, .unset, .unset, .unset, .unset, .unset, .unset, .unset, .unset, .unset, .unset, .unset, .unset, .unset, .unset] [(.long (4294967295 : Int64)), (.long (j2 &&& (9223372036854775807 : Int64)))])) _
    refine XS.lrem X.here hx rfl (hb hby at_24) rfl (by decide) ?_
    show Steps p.tables e below (T.setTop (mkF m 25 #[.val (.long j0), .second, .val (.long j2), .second, .val (.long (4294967295 : Int64)), .second, .val (.long j6), .second, .unset, .unset, .unset, .unset, .unset, .unset, .unset, .unset, .unset, .unset, .unset, .unset, .unset, .unset, .unset] [(.long ((j2 &&& (9223372036854775807 : Int64)) - (j2 &&& (9223372036854775807 : Int64)) / (4294967295 : Int64) * (4294967295 : Int64)))])) _
    refine XS.lconst X.here hx rfl (hb hby at_25) ?_
    show Steps p.tables e below (T.setTop (mkF m 26 #[.val (.long j0), .second, .val (.long j2), .second, .val (.long (4294967295 : Int64)), .second, .val (.long j6), .second, .unset, .unset, .unset, .unset, .unset, .unset, .unset, .unset, .unset, .unset, .unset, .unset, .unset, .unset, .unset] [(.long (1 : Int64)), (.long ((j2 &&& (9223372036854775807 : Int64)) - (j2 &&& (9223372036854775807 : Int64)) / (4294967295 : Int64) * (4294967295 : Int64)))])) _
    refine XS.ladd X.here hx rfl (hb hby at_26) rfl ?_
    show Steps p.tables e below (T.setTop (mkF m 27 #[.val (.long j0), .second, .val (.long j2), .second, .val (.long (4294967295 : Int64)), .second, .val (.long j6), .second, .unset, .unset, .unset, .unset, .unset, .unset, .unset, .unset, .unset, .unset, .unset, .unset, .unset, .unset, .unset] [(.long (((j2 &&& (9223372036854775807 : Int64)) - (j2 &&& (9223372036854775807 : Int64)) / (4294967295 : Int64) * (4294967295 : Int64)) + (1 : Int64)))])) _
    refine XS.lstore X.here hx rfl (hb hby at_27) rfl (l' := #[.val (.long j0), .second, .val (.long j2), .second, .val (.long (4294967295 : Int64)), .second, .val (.long j6), .second, .val (.long (((j2 &&& (9223372036854775807 : Int64)) - (j2 &&& (9223372036854775807 : Int64)) / (4294967295 : Int64) * (4294967295 : Int64)) + (1 : Int64))), .second, .unset, .unset, .unset, .unset, .unset, .unset, .unset, .unset, .unset, .unset, .unset, .unset, .unset]) rfl ?_
    exact kt
  exact b0_29 C hw X eT NL j0 j2 j6 (((j2 &&& (9223372036854775807 : Int64)) - (j2 &&& (9223372036854775807 : Int64)) / (4294967295 : Int64) * (4294967295 : Int64)) + (1 : Int64))
set_option maxRecDepth 65536 in
set_option maxHeartbeats 40000000 in
theorem b0_0 {p : Program} {l : Launch} {e : Env} {s : State} {m : MethodId} {args : Array Value} {below : List Frame} {meth : Method} {c : Code} {Z : State} {a0 : Array Value} {T : State} {locs : List Loc} {h0 : Heap} {n0 : Nat} (C : Ctx p s m meth c Z code 23 "com/example/pulsekeep/pulsekeep/core/SubscriptionDistancePinLaw" (some .boolean)) (hw : ∀ d ∈ tables_1, d.before a0 Z = true)
    (X : Stand p l e room_1 s m args below meth c T locs 0 0) (eT : T.heap = h0) (NL : Fr n0 locs) (j0 : Int64) (j2 : Int64) :
    Go p e below s 0 0 (QV (.int (f0_0 j0 j2)) h0 n0) (T.setTop (mkF m 0 #[.val (.long j0), .second, .val (.long j2), .second, .unset, .unset, .unset, .unset, .unset, .unset, .unset, .unset, .unset, .unset, .unset, .unset, .unset, .unset, .unset, .unset, .unset, .unset, .unset] [])) := by
  obtain ⟨hx, hZ, hby, hml, hown, hrt, hlk⟩ := id C
  unfold f0_0
  refine Go.pre (st' := T.setTop (mkF m 17 #[.val (.long j0), .second, .val (.long j2), .second, .val (.long (4294967295 : Int64)), .second, .val (.long (((j0 &&& (9223372036854775807 : Int64)) - (j0 &&& (9223372036854775807 : Int64)) / (4294967295 : Int64) * (4294967295 : Int64)) + (1 : Int64))), .second, .unset, .unset, .unset, .unset, .unset, .unset, .unset, .unset, .unset, .unset, .unset, .unset, .unset, .unset, .unset] [])) (fun target kt => ?_) ?_
  · show Steps p.tables e below (T.setTop (mkF m 0 #[.val (.long j0), .second, .val (.long j2), .second, .unset, .unset, .unset, .unset, .unset, .unset, .unset, .unset, .unset, .unset, .unset, .unset, .unset, .unset, .unset, .unset, .unset, .unset, .unset] [])) _
    refine X.ldc2Long hx hown (mvT hZ (hw _ (List.mem_of_getElem? (i := 0) rfl))) (g := (mkF m 0 #[.val (.long j0), .second, .val (.long j2), .second, .unset, .unset, .unset, .unset, .unset, .unset, .unset, .unset, .unset, .unset, .unset, .unset, .unset, .unset, .unset, .unset, .unset, .unset, .unset] [])) rfl (hb hby at_0) _ ?_
    show Steps p.tables e below (T.setTop (mkF m 3 #[.val (.long j0), .second, .val (.long j2), .second, .unset, .unset, .unset, .unset, .unset, .unset, .unset, .unset, .unset, .unset, .unset, .unset, .unset, .unset, .unset, .unset, .unset, .unset, .unset] [(.long (4294967295 : Int64))])) _
    refine XS.lstore X.here hx rfl (hb hby at_3) rfl (l' := #[.val (.long j0), .second, .val (.long j2), .second, .val (.long (4294967295 : Int64)), .second, .unset, .unset, .unset, .unset, .unset, .unset, .unset, .unset, .unset, .unset, .unset, .unset, .unset, .unset, .unset, .unset, .unset]) rfl ?_
    show Steps p.tables e below (T.setTop (mkF m 5 #[.val (.long j0), .second, .val (.long j2), .second, .val (.long (4294967295 : Int64)), .second, .unset, .unset, .unset, .unset, .unset, .unset, .unset, .unset, .unset, .unset, .unset, .unset, .unset, .unset, .unset, .unset, .unset] [])) _
    refine XS.lloadN X.here hx rfl (hb hby at_5) rfl ?_
    show Steps p.tables e below (T.setTop (mkF m 6 #[.val (.long j0), .second, .val (.long j2), .second, .val (.long (4294967295 : Int64)), .second, .unset, .unset, .unset, .unset, .unset, .unset, .unset, .unset, .unset, .unset, .unset, .unset, .unset, .unset, .unset, .unset, .unset] [(.long j0)])) _
    refine X.ldc2Long hx hown (mvT hZ (hw _ (List.mem_of_getElem? (i := 1) rfl))) (g := (mkF m 6 #[.val (.long j0), .second, .val (.long j2), .second, .val (.long (4294967295 : Int64)), .second, .unset, .unset, .unset, .unset, .unset, .unset, .unset, .unset, .unset, .unset, .unset, .unset, .unset, .unset, .unset, .unset, .unset] [(.long j0)])) rfl (hb hby at_6) _ ?_
    show Steps p.tables e below (T.setTop (mkF m 9 #[.val (.long j0), .second, .val (.long j2), .second, .val (.long (4294967295 : Int64)), .second, .unset, .unset, .unset, .unset, .unset, .unset, .unset, .unset, .unset, .unset, .unset, .unset, .unset, .unset, .unset, .unset, .unset] [(.long (9223372036854775807 : Int64)), (.long j0)])) _
    refine XS.land X.here hx rfl (hb hby at_9) rfl ?_
    show Steps p.tables e below (T.setTop (mkF m 10 #[.val (.long j0), .second, .val (.long j2), .second, .val (.long (4294967295 : Int64)), .second, .unset, .unset, .unset, .unset, .unset, .unset, .unset, .unset, .unset, .unset, .unset, .unset, .unset, .unset, .unset, .unset, .unset] [(.long (j0 &&& (9223372036854775807 : Int64)))])) _
    refine XS.lload X.here hx rfl (hb hby at_10) rfl ?_
    show Steps p.tables e below (T.setTop (mkF m 12 #[.val (.long j0), .second, .val (.long j2), .second, .val (.long (4294967295 : Int64)), .second, .unset, .unset, .unset, .unset, .unset, .unset, .unset, .unset, .unset, .unset, .unset, .unset, .unset, .unset, .unset, .unset, .unset] [(.long (4294967295 : Int64)), (.long (j0 &&& (9223372036854775807 : Int64)))])) _
    refine XS.lrem X.here hx rfl (hb hby at_12) rfl (by decide) ?_
    show Steps p.tables e below (T.setTop (mkF m 13 #[.val (.long j0), .second, .val (.long j2), .second, .val (.long (4294967295 : Int64)), .second, .unset, .unset, .unset, .unset, .unset, .unset, .unset, .unset, .unset, .unset, .unset, .unset, .unset, .unset, .unset, .unset, .unset] [(.long ((j0 &&& (9223372036854775807 : Int64)) - (j0 &&& (9223372036854775807 : Int64)) / (4294967295 : Int64) * (4294967295 : Int64)))])) _
    refine XS.lconst X.here hx rfl (hb hby at_13) ?_
    show Steps p.tables e below (T.setTop (mkF m 14 #[.val (.long j0), .second, .val (.long j2), .second, .val (.long (4294967295 : Int64)), .second, .unset, .unset, .unset, .unset, .unset, .unset, .unset, .unset, .unset, .unset, .unset, .unset, .unset, .unset, .unset, .unset, .unset] [(.long (1 : Int64)), (.long ((j0 &&& (9223372036854775807 : Int64)) - (j0 &&& (9223372036854775807 : Int64)) / (4294967295 : Int64) * (4294967295 : Int64)))])) _
    refine XS.ladd X.here hx rfl (hb hby at_14) rfl ?_
    show Steps p.tables e below (T.setTop (mkF m 15 #[.val (.long j0), .second, .val (.long j2), .second, .val (.long (4294967295 : Int64)), .second, .unset, .unset, .unset, .unset, .unset, .unset, .unset, .unset, .unset, .unset, .unset, .unset, .unset, .unset, .unset, .unset, .unset] [(.long (((j0 &&& (9223372036854775807 : Int64)) - (j0 &&& (9223372036854775807 : Int64)) / (4294967295 : Int64) * (4294967295 : Int64)) + (1 : Int64)))])) _
    refine XS.lstore X.here hx rfl (hb hby at_15) rfl (l' := #[.val (.long j0), .second, .val (.long j2), .second, .val (.long (4294967295 : Int64)), .second, .val (.long (((j0 &&& (9223372036854775807 : Int64)) - (j0 &&& (9223372036854775807 : Int64)) / (4294967295 : Int64) * (4294967295 : Int64)) + (1 : Int64))), .second, .unset, .unset, .unset, .unset, .unset, .unset, .unset, .unset, .unset, .unset, .unset, .unset, .unset, .unset, .unset]) rfl ?_
    exact kt
  exact b0_17 C hw X eT NL j0 j2 (((j0 &&& (9223372036854775807 : Int64)) - (j0 &&& (9223372036854775807 : Int64)) / (4294967295 : Int64) * (4294967295 : Int64)) + (1 : Int64))
set_option maxRecDepth 65536 in
set_option maxHeartbeats 40000000 in
theorem rm0 (l : Launch) (Z : State) (a0 : Array Value) (hw : ∀ d ∈ tables_1, d.before a0 Z = true) (ws : List Jvm.Cond) (x0 : Int64) (x1 : Int64) (h0 : Heap) (n0 : Nat) :
    MetFree l x (head1 (Jvm.Cond.code x code maxLocals ret :: ws) room_1) (fun a U => a = #[(.long x0), (.long x1)] ∧ Z.Warmed39 U.vm ∧ U.heap = h0) (fun _ _ _ _ _ => True) (fun _ U o U' => ∃ v L, o = .returned v ∧ QV (.int (f0_0 x0 x1)) h0 n0 v U'.heap L ∧ FrameEnd U o U' L 0 0) := by
  refine MetFree.of_bodySF (plainFor_of_name pn_0) hisR ?_
  intro p e s m args below meth c s₁ Bd hml0 hP hK
  obtain ⟨rfl, hZ, hh⟩ := hP
  have C : Ctx p s m meth c Z code 23 "com/example/pulsekeep/pulsekeep/core/SubscriptionDistancePinLaw" (some .boolean) := ⟨Bd.exec, hZ, Bd.bytes, hml0, findClass_of_methodNamed Bd.named, Bd.returns, Bd.notSynchronized⟩
  have X0 : Stand p l e room_1 s m #[(.long x0), (.long x1)] below meth c s₁ [] 0 0 := Stand.of_body Bd
  have e0 : s₁.heap = h0 := by rw [← hh, Bd.state]; rfl
  rw [ef_0 m x0 x1]
  exact b0_0 C hw X0 e0 (Fr.nil n0) x0 x1
/-! the plain law -/
theorem own_inj {x y : Int64} (h : x.toInt = y.toInt) : x = y := Int64.toInt_inj.mp h
theorem own_L : (4294967295 : Int64).toInt = 4294967295 := by decide
theorem own_z : (0 : Int64).toInt = 0 := by decide
theorem own_1 : (1 : Int64).toInt = 1 := by decide
theorem own_K : ((4294967295 : Int64) - (1 : Int64)).toInt = 4294967294 := by decide
theorem own_from (a : Int64) : 1 ≤ (((a &&& (9223372036854775807 : Int64)) - (a &&& (9223372036854775807 : Int64)) / (4294967295 : Int64) * (4294967295 : Int64)) + (1 : Int64)).toInt ∧ (((a &&& (9223372036854775807 : Int64)) - (a &&& (9223372036854775807 : Int64)) / (4294967295 : Int64) * (4294967295 : Int64)) + (1 : Int64)).toInt ≤ 4294967295 := by
  have h1 := c_maskL a (9223372036854775807 : Int64) 63 (by decide) (by decide)
  have h2 : 0 ≤ (a &&& (9223372036854775807 : Int64)).toInt := by rw [h1]; exact Int.emod_nonneg _ (by decide)
  generalize (a &&& (9223372036854775807 : Int64)) = x at *
  have h3 := (c_lrem x (4294967295 : Int64) 4294967295 own_L).1 h2
  generalize x - x / (4294967295 : Int64) * (4294967295 : Int64) = y at *
  have h4 := c_ladd y (1 : Int64)
  have h5 := rng64 (y + (1 : Int64))
  have h6 := own_1
  omega
theorem own_dist (f t : Int64) (hf : 1 ≤ f.toInt ∧ f.toInt ≤ 4294967295) (ht : 1 ≤ t.toInt ∧ t.toInt ≤ 4294967295) :
    (t.toInt < f.toInt → (f1_0 f t).toInt = t.toInt - f.toInt + 4294967295) ∧ (¬ t.toInt < f.toInt → (f1_0 f t).toInt = t.toInt - f.toInt) := by
  have e := c_lsub t f
  have r1 := rng64 (t - f)
  have e1 : (t - f).toInt = t.toInt - f.toInt := by omega
  have z := own_z
  have L := own_L
  unfold f1_0 f1_23
  by_cases h : (t - f) < (0 : Int64)
  · rw [if_pos h]
    rw [Int64.lt_iff_toInt_lt] at h
    have q1 := c_ladd (t - f) (4294967295 : Int64)
    have q2 := rng64 ((t - f) + (4294967295 : Int64))
    constructor <;> intro k <;> omega
  · rw [if_neg h]
    rw [Int64.lt_iff_toInt_lt] at h
    constructor <;> intro k <;> omega
theorem own_next (t : Int64) (ht : 1 ≤ t.toInt ∧ t.toInt ≤ 4294967295) : (t.toInt < 4294967295 → (f2_0 t).toInt = t.toInt + 1) ∧ (¬ t.toInt < 4294967295 → (f2_0 t).toInt = 1) := by
  have L := own_L
  have o := own_1
  unfold f2_0 f2_15
  by_cases h : t < (4294967295 : Int64)
  · rw [if_pos h]
    rw [Int64.lt_iff_toInt_lt] at h
    have q1 := c_ladd t (1 : Int64)
    have q2 := rng64 (t + (1 : Int64))
    constructor <;> intro k <;> omega
  · rw [if_neg h]
    rw [Int64.lt_iff_toInt_lt] at h
    constructor <;> intro k <;> omega
theorem own_ref (f t : Int64) (hf : 1 ≤ f.toInt ∧ f.toInt ≤ 4294967295) (ht : 1 ≤ t.toInt ∧ t.toInt ≤ 4294967295) :
    (((t - f) + (4294967295 : Int64)) - ((t - f) + (4294967295 : Int64)) / (4294967295 : Int64) * (4294967295 : Int64)).toInt = (t.toInt - f.toInt + 4294967295) % 4294967295 := by
  have e := c_lsub t f
  have r1 := rng64 (t - f)
  have L := own_L
  have q1 := c_ladd (t - f) (4294967295 : Int64)
  have q2 := rng64 ((t - f) + (4294967295 : Int64))
  have e1 : ((t - f) + (4294967295 : Int64)).toInt = t.toInt - f.toInt + 4294967295 := by omega
  have h3 := (c_lrem ((t - f) + (4294967295 : Int64)) (4294967295 : Int64) 4294967295 own_L).1 (by omega)
  rw [h3, e1]
theorem own_core (a b f t : Int64) (hf : 1 ≤ f.toInt ∧ f.toInt ≤ 4294967295) (ht : 1 ≤ t.toInt ∧ t.toInt ≤ 4294967295) : f0_29 a b f t = 1 := by
  have d1 := own_dist f t hf ht
  have d2 := own_dist t f ht hf
  have n1 := own_next t ht
  have r1 := own_ref f t hf ht
  have d3 := own_dist f (f2_0 t) hf (by omega)
  have L := own_L
  have z := own_z
  have o := own_1
  have K := own_K
  unfold f0_29 f0_38 f0_51
  generalize f1_0 f t = d at *
  generalize f1_0 t f = bk at *
  generalize ((t - f) + (4294967295 : Int64)) - ((t - f) + (4294967295 : Int64)) / (4294967295 : Int64) * (4294967295 : Int64) = rf at *
  have step1 : f0_60 a b f t d rf bk = f0_106 a b f t d rf bk (1 : Int32) := by
    unfold f0_60
    by_cases h : f = t
    · subst h
      rw [if_pos rfl, if_pos (own_inj (by omega)), if_pos (own_inj (by omega))]
    · have h' : f.toInt ≠ t.toInt := fun q => h (own_inj q)
      have q1 := c_ladd d bk
      have q2 := rng64 (d + bk)
      rw [if_neg h, if_pos (own_inj (by omega))]
  rw [step1]
  unfold f0_106 f0_115
  generalize f2_0 t = nx at *
  generalize f1_0 f nx = sp at *
  have c1 : d = rf := own_inj (by omega)
  have c2 : ¬ d < (0 : Int64) := by rw [Int64.lt_iff_toInt_lt]; omega
  have c3 : ¬ ((4294967295 : Int64) - (1 : Int64)) < d := by rw [Int64.lt_iff_toInt_lt]; omega
  have fin : ∀ w : Int64, sp = w → f0_142 a b f t d rf bk (1 : Int32) nx sp w = 1 := fun w hw => by
    unfold f0_142 f0_187
    rw [if_pos c1, if_neg c2, if_neg c3, if_neg (by decide), if_pos hw]; decide
  unfold f0_124
  by_cases h : d = ((4294967295 : Int64) - (1 : Int64))
  · rw [if_pos h]
    have h' : d.toInt = 4294967294 := by rw [h, K]
    exact fin _ (own_inj (by omega))
  · rw [if_neg h]
    have h' : d.toInt ≠ 4294967294 := fun q => h (own_inj (by omega))
    have q1 := c_ladd d (1 : Int64)
    have q2 := rng64 (d + (1 : Int64))
    exact fin _ (own_inj (by omega))
theorem law_eq (a b : Int64) : f0_0 a b = 1 := by
  unfold f0_0 f0_17
  exact own_core a b _ _ (own_from a) (own_from b)

set_option maxRecDepth 65536 in
set_option maxHeartbeats 40000000 in
theorem comes_1 {Post : Tables → Env → Array Value → State → Outcome → State → Prop} (hpost : ∀ tb e args s v u, (limb_1_1.after args s (.returned v) u = true ∧ limb_1_2.after args s (.returned v) u = true ∧ True) → FrameEnd s (.returned v) u (Jvm.fieldLocs frame_1_writes args s ++ Jvm.arrayLocs frame_1_arrays args s ++ Jvm.staticLocs frame_1_statics s) 0 0 → Post tb e args s (.returned v) u) :
    ArmFor flags0 classFile x code maxLocals ret World_1 tables_1 room_1 Calls_1 rest_1 Pre_1 Post := by
  intro l hfl _ _ p e ha hc hk s m args below hf hA hF happ hP
  obtain ⟨hcalls, hrest, hpre⟩ := hP
  obtain ⟨-, -, -, hnamed, -, -, -, hat⟩ := (Spec.applies_iff hf).mp happ
  obtain ⟨hg, hn⟩ := and_e (Cond.before_iff.mp (show (Jvm.Cond.and given_1 narrow_1).before args s = true from hpre))
  obtain ⟨g0, hg1⟩ := and_e hg
  obtain ⟨g1, hg2⟩ := and_e hg1
  obtain ⟨w0, w1, rfl⟩ : ∃ w0 w1 : Value, args = #[w0, w1] := by
    have hs : args.size = 2 := by simpa [Cond.value, given_1] using g0
    obtain ⟨L⟩ := args
    match L, hs with
    | [w0, w1], _ => exact ⟨w0, w1, rfl⟩
  have hw := fun d (hd : d ∈ tables_1) => atoms_spec (ws := Jvm.Cond.code x code maxLocals ret :: tables_1) hat d (List.mem_cons_of_mem _ hd)
  obtain ⟨i0, ei0⟩ := isL_v g1
  obtain rfl : w0 = (.long i0) := Option.some.inj ei0
  obtain ⟨i1, ei1⟩ := isL_v hg2
  obtain rfl : w1 = (.long i1) := Option.some.inj ei1
  obtain ⟨n, o, h1, h2, h3, _, L, rfl, ⟨rfl, N, -⟩, hq⟩ := rm0 l s _ hw tables_1 i0 i1 s.heap s.heap.size p e ha hc hk s m _ below hf ((Spec.applies_iff_loose hf).mp happ).1 ⟨rfl, State.Warmed39.refl s, rfl⟩ trivial
  refine ⟨n, _, h1, h2, h3, hpost _ _ _ _ _ _ ⟨Cond.after_iff.mpr rfl, Cond.after_iff.mpr (eq_i res_at (Term.int_eval (1)) (congrArg Value.int (law_eq i0 i1))), trivial⟩ ⟨hq.1, hq.2.1, (hq.2.2.sift fun y hy => Or.inr (N y hy)).mono (by decide) (by decide)⟩⟩
theorem main_1_1 : Claimed_1_1 := comes_1 fun _ _ _ _ _ _ h hF => ⟨h.1, hF⟩
theorem main_1_2 : Claimed_1_2 := comes_1 fun _ _ _ _ _ _ h hF => ⟨h.2.1, hF⟩
end Jvm.Pilot.@@N@@
namespace Jvm.Pilot.@@N@@
open Jvm Jvm.ClassFile Sem Op Lib Jvm.Free Jvm.Stand Jvm.Pilot.@@N@@.Jvm.D
/-! MADE BY PROGRAM (witnessworld.py) out of the Statement's table words and the real class files: 10 classes; the members and pool entries that the words name. The judged class is class 1, her method 1. -/
namespace start1
open Jvm.ClassFile
def u (s : String) : CpInfo := .utf8 (stringToUtf16 s)
/-- a pool by its gaps: so many unusable entries, then the entry; so many at the end -/
def gap : Nat → List CpInfo → List CpInfo
  | 0, r => r
  | n + 1, r => .unusable :: gap n r
def poolList (es : List (Nat × CpInfo)) (last : Nat) : List CpInfo := es.foldr (fun e r => gap e.1 (e.2 :: r)) (gap last [])
def pool (es : List (Nat × CpInfo)) (last : Nat) : Array CpInfo := ⟨poolList es last⟩
def fileOf (pool : Array CpInfo) (this : Nat) (attrs : Array Attribute := #[]) (ms : Array MethodInfo := #[]) (fl : Nat := 33) (sup : Nat := 0) (ifs : Array Nat := #[]) (fds : Array FieldInfo := #[]) : ClassFile where
  minorVersion := 0
  majorVersion := 65
  constantPool := pool
  accessFlags := fl
  thisClass := this
  superClass := sup
  interfaces := ifs
  fields := fds
  methods := ms
  attributes := attrs
def plain (name : String) (sup : Option ClassId) : Class where
  name := name
  kind := .ordinary
  loader := none
  accessFlags := 33
  super := sup
  interfaces := #[]
  cf := none
  fields := #[]
  methods := #[]
  instanceTypes := #[]
  staticTypes := #[]
  resolved := #[]
  callSites := []
  init := .initialized
  statics := none
  mirror := none

def pool0 : Array CpInfo := pool [(5, u "<init>"), (0, u "()V"), (1, .class_ 10), (1, u "java/lang/Object")] 113

def k0m0 : Method := { name := "<init>", desc := "()V", sig := { parameters := [], returnType := none }, accessFlags := 1, code := none }
/-- java/lang/Object -/
def k0 : Class := { plain "java/lang/Object" none with
  accessFlags := 33
  interfaces := #[]
  cf := some (fileOf pool0 8 #[] #[{ accessFlags := 1, nameIndex := 5, descriptorIndex := 6, attributes := #[] }] 33 0 #[] #[])
  fields := #[]
  methods := #[k0m0]
  instanceTypes := #[]
  staticTypes := #[]
  resolved := Array.replicate 124 none
  statics := none }

def pool1 : Array CpInfo := pool [(2, .class_ 4), (1, u "java/lang/Object"), (0, u "<init>"), (0, u "()V"), (0, .class_ 8), (0, u "com/example/pulsekeep/pulsekeep/core/Subscription"), (0, .long 4294967295), (3, .long 9223372036854775807), (1, .methodref 7 16), (0, .nameAndType 17 18), (0, u "distance"), (0, u "(JJ)J"), (0, .methodref 7 20), (0, .nameAndType 21 22), (0, u "following"), (0, u "(J)J"), (0, .class_ 24), (0, u "com/example/pulsekeep/pulsekeep/core/SubscriptionDistancePinLaw"), (2, u "law"), (0, u "(JJ)Z")] 3

def k1m0 : Method := { name := "<init>", desc := "()V", sig := { parameters := [], returnType := none }, accessFlags := 1, code := none }
def k1c1 : Code := { maxStack := 6, maxLocals := 23, code := code, exceptionTable := #[], attributes := #[] }
def k1m1 : Method := { name := "law", desc := "(JJ)Z", sig := { parameters := [.long, .long], returnType := some .boolean }, accessFlags := 9, code := some k1c1 }
/-- com/example/pulsekeep/pulsekeep/core/SubscriptionDistancePinLaw -/
def k1 : Class := { plain "com/example/pulsekeep/pulsekeep/core/SubscriptionDistancePinLaw" (some 0) with
  accessFlags := 49
  interfaces := #[]
  cf := some (fileOf pool1 23 #[] #[{ accessFlags := 1, nameIndex := 5, descriptorIndex := 6, attributes := #[] }, { accessFlags := 9, nameIndex := 27, descriptorIndex := 28, attributes := #[] }] 49 2 #[] #[])
  fields := #[]
  methods := #[k1m0, k1m1]
  instanceTypes := #[]
  staticTypes := #[]
  resolved := Array.replicate 32 none
  statics := none }

def pool2 : Array CpInfo := pool [(1, .class_ 2), (0, u "com/example/pulsekeep/pulsekeep/core/Subscriber$Waiting"), (0, .class_ 4), (0, u "java/lang/Object"), (9, .class_ 15), (0, u "com/example/pulsekeep/pulsekeep/core/Subscriber")] 7

/-- com/example/pulsekeep/pulsekeep/core/Subscriber$Waiting -/
def k2 : Class := { plain "com/example/pulsekeep/pulsekeep/core/Subscriber$Waiting" (some 0) with
  accessFlags := 1536
  interfaces := #[]
  cf := some (fileOf pool2 1 #[.nestHost 14] #[] 1536 3 #[] #[])
  fields := #[]
  methods := #[]
  instanceTypes := #[]
  staticTypes := #[]
  resolved := Array.replicate 23 none
  statics := none }

def pool3 : Array CpInfo := pool [(2, .class_ 4), (1, u "java/lang/Object"), (6, .class_ 13), (1, u "com/example/pulsekeep/pulsekeep/core/Subscription"), (0, u "items"), (0, u "Ljava/util/List;"), (5, u "valueBudget"), (0, u "Lcom/example/pulsekeep/pulsekeep/core/MonitoredItem$ValueBudget;"), (6, u "stopPacing"), (0, u "Ljava/lang/Runnable;"), (2, u "nextItemId"), (0, u "J"), (2, u "nextSequenceNumber"), (2, u "nextPartAt"), (0, u "I"), (2, u "id"), (2, u "owner"), (0, u "Lcom/example/pulsekeep/pulsekeep/core/Subscriber;"), (2, u "settings"), (0, u "Lcom/example/pulsekeep/pulsekeep/core/SubscriptionSettings;"), (0, .long 4294967295), (3, u "durableHours"), (27, u "queueCapacity"), (2, u "pacing"), (63, u "following"), (0, u "(J)J"), (8, u "messageSent"), (0, u "Z"), (2, u "messageDue"), (2, u "emptyCycles"), (2, u "cyclesWithoutRequest"), (10, .class_ 185), (1, u "com/example/pulsekeep/pulsekeep/core/Subscription$CycleEnd"), (70, .class_ 257), (0, u "com/example/pulsekeep/pulsekeep/core/Subscriber$Waiting"), (0, u "LAST_NUMBER"), (7, u "distance"), (0, u "(JJ)J")] 90

def k3c0 : Code := { maxStack := 4, maxLocals := 2, code := prog_45_method_2_code, exceptionTable := #[], attributes := #[] }
def k3m0 : Method := { name := "following", desc := "(J)J", sig := { parameters := [.long], returnType := some .long }, accessFlags := 8, code := some k3c0 }
def k3c1 : Code := { maxStack := 4, maxLocals := 6, code := prog_45_method_4_code, exceptionTable := #[], attributes := #[] }
def k3m1 : Method := { name := "distance", desc := "(JJ)J", sig := { parameters := [.long, .long], returnType := some .long }, accessFlags := 8, code := some k3c1 }
/-- com/example/pulsekeep/pulsekeep/core/Subscription -/
def k3 : Class := { plain "com/example/pulsekeep/pulsekeep/core/Subscription" (some 0) with
  accessFlags := 48
  interfaces := #[2]
  cf := some (fileOf pool3 11 #[.nestMembers #[183]] #[{ accessFlags := 8, nameIndex := 152, descriptorIndex := 153, attributes := #[] }, { accessFlags := 8, nameIndex := 266, descriptorIndex := 267, attributes := #[] }] 48 2 #[256] #[{ accessFlags := 24, nameIndex := 258, descriptorIndex := 34, attributes := #[] }, { accessFlags := 18, nameIndex := 44, descriptorIndex := 34, attributes := #[] }, { accessFlags := 2, nameIndex := 47, descriptorIndex := 48, attributes := #[] }, { accessFlags := 2, nameIndex := 51, descriptorIndex := 52, attributes := #[] }, { accessFlags := 18, nameIndex := 14, descriptorIndex := 15, attributes := #[] }, { accessFlags := 18, nameIndex := 21, descriptorIndex := 22, attributes := #[] }, { accessFlags := 2, nameIndex := 29, descriptorIndex := 30, attributes := #[] }, { accessFlags := 2, nameIndex := 88, descriptorIndex := 34, attributes := #[] }, { accessFlags := 2, nameIndex := 57, descriptorIndex := 34, attributes := #[] }, { accessFlags := 2, nameIndex := 33, descriptorIndex := 34, attributes := #[] }, { accessFlags := 2, nameIndex := 85, descriptorIndex := 34, attributes := #[] }, { accessFlags := 2, nameIndex := 37, descriptorIndex := 34, attributes := #[] }, { accessFlags := 2, nameIndex := 162, descriptorIndex := 163, attributes := #[] }, { accessFlags := 2, nameIndex := 169, descriptorIndex := 34, attributes := #[] }, { accessFlags := 2, nameIndex := 172, descriptorIndex := 34, attributes := #[] }, { accessFlags := 2, nameIndex := 166, descriptorIndex := 163, attributes := #[] }, { accessFlags := 2, nameIndex := 40, descriptorIndex := 41, attributes := #[] }])
  fields := #[{ name := "LAST_NUMBER", type := .long, accessFlags := 24, slot := 0, constantValue := 0 }, { name := "id", type := .long, accessFlags := 18, slot := 0, constantValue := 0 }, { name := "owner", type := (.object "com/example/pulsekeep/pulsekeep/core/Subscriber"), accessFlags := 2, slot := 1, constantValue := 0 }, { name := "settings", type := (.object "com/example/pulsekeep/pulsekeep/core/SubscriptionSettings"), accessFlags := 2, slot := 2, constantValue := 0 }, { name := "items", type := (.object "java/util/List"), accessFlags := 18, slot := 3, constantValue := 0 }, { name := "valueBudget", type := (.object "com/example/pulsekeep/pulsekeep/core/MonitoredItem$ValueBudget"), accessFlags := 18, slot := 4, constantValue := 0 }, { name := "stopPacing", type := (.object "java/lang/Runnable"), accessFlags := 2, slot := 5, constantValue := 0 }, { name := "pacing", type := .long, accessFlags := 2, slot := 6, constantValue := 0 }, { name := "durableHours", type := .long, accessFlags := 2, slot := 7, constantValue := 0 }, { name := "nextItemId", type := .long, accessFlags := 2, slot := 8, constantValue := 0 }, { name := "queueCapacity", type := .long, accessFlags := 2, slot := 9, constantValue := 0 }, { name := "nextSequenceNumber", type := .long, accessFlags := 2, slot := 10, constantValue := 0 }, { name := "messageSent", type := .boolean, accessFlags := 2, slot := 11, constantValue := 0 }, { name := "emptyCycles", type := .long, accessFlags := 2, slot := 12, constantValue := 0 }, { name := "cyclesWithoutRequest", type := .long, accessFlags := 2, slot := 13, constantValue := 0 }, { name := "messageDue", type := .boolean, accessFlags := 2, slot := 14, constantValue := 0 }, { name := "nextPartAt", type := .int, accessFlags := 2, slot := 15, constantValue := 0 }]
  methods := #[k3m0, k3m1]
  instanceTypes := #[.long, (.object "com/example/pulsekeep/pulsekeep/core/Subscriber"), (.object "com/example/pulsekeep/pulsekeep/core/SubscriptionSettings"), (.object "java/util/List"), (.object "com/example/pulsekeep/pulsekeep/core/MonitoredItem$ValueBudget"), (.object "java/lang/Runnable"), .long, .long, .long, .long, .long, .boolean, .long, .long, .boolean, .int]
  staticTypes := #[.long]
  resolved := Array.replicate 358 none
  statics := none }

def pool4 : Array CpInfo := pool [(1, u "java/lang/Cloneable"), (0, .class_ 1), (0, u "java/lang/Object"), (0, .class_ 3)] 3

/-- java/lang/Cloneable -/
def k4 : Class := { plain "java/lang/Cloneable" (some 0) with
  accessFlags := 1537
  interfaces := #[]
  cf := some (fileOf pool4 2 #[] #[] 1537 4 #[] #[])
  fields := #[]
  methods := #[]
  instanceTypes := #[]
  staticTypes := #[]
  resolved := Array.replicate 8 none
  statics := none }

def pool5 : Array CpInfo := pool [(1, u "java/io/Serializable"), (0, .class_ 1), (0, u "java/lang/Object"), (0, .class_ 3)] 3

/-- java/io/Serializable -/
def k5 : Class := { plain "java/io/Serializable" (some 0) with
  accessFlags := 1537
  interfaces := #[]
  cf := some (fileOf pool5 2 #[] #[] 1537 4 #[] #[])
  fields := #[]
  methods := #[]
  instanceTypes := #[]
  staticTypes := #[]
  resolved := Array.replicate 8 none
  statics := none }

/-- the primitive byte -/
def k6 : Class := { plain "byte" none with kind := .primitive 'B', accessFlags := 0x411 }
/-- [B -/
def k7 : Class := { plain "[B" (some 0) with kind := .array 6 .byte, interfaces := #[4, 5], accessFlags := 1041 }

/-- the primitive int -/
def k8 : Class := { plain "int" none with kind := .primitive 'I', accessFlags := 0x411 }
/-- [I -/
def k9 : Class := { plain "[I" (some 0) with kind := .array 8 .int, interfaces := #[4, 5], accessFlags := 1041 }

def heap : Heap := #[]
def classes : Array Class := #[k0, k1, k2, k3, k4, k5, k6, k7, k8, k9]
def interned : List (Array UInt16 × Addr) := []
def slotsUsed : Nat := 0
def theMethod : MethodId := ⟨1, 1⟩
def args0 : Array Value := #[.long 5, .long 77]
def aboutOver (below : List Frame) : State where
  vm := { classes := classes, interned := interned.toArray }
  heap := heap
  slotsUsed := slotsUsed
  threads := #[{ frames := .invoking theMethod args0 :: below }]
def below0 : List Frame := [.native { method := ⟨0, 0⟩, args := #[] }]
def about1 : State := aboutOver below0
def p0 : Program := .bare "" "" ""
def e0 : Env := launch0.env 0 0 0
theorem w_frames : about1.frames = Frame.invoking theMethod args0 :: below0 := rfl
set_option maxRecDepth 65536 in
theorem w_args : argsFit about1.vm theMethod args0 = true := by decide +kernel
set_option maxRecDepth 65536 in
theorem w_heap : heapFits about1 = true := by decide +kernel
set_option maxRecDepth 65536 in
theorem w_runnable : about1.curStatus? = some .runnable := by decide +kernel
set_option maxRecDepth 65536 in
theorem w_alone : about1.alone = true := by decide +kernel
set_option maxRecDepth 65536 in
theorem w_named : about1.methodNamed? x = some theMethod := by decide +kernel
set_option maxRecDepth 65536 in
theorem w_hears : about1.hears theMethod below0 = true := by decide +kernel
set_option maxRecDepth 65536 in
theorem w_ripe : about1.ripe theMethod args0 below0 = true := by decide +kernel
theorem w_running : about1.status = .running := rfl
set_option maxRecDepth 65536 in
theorem w_room : about1.hasRoom e0.platform room_1 = true :=
  launch0.hasRoom_least _ room_1 (by decide +kernel) (by decide +kernel) (by decide +kernel) (by decide +kernel) (by decide +kernel) (by decide +kernel)
theorem allAtoms_all (ts : List Jvm.Cond) (a : Array Jvm.Value) (st : Jvm.State) : (allAtoms ts).before a st = ts.all (fun c => c.before a st) := by
  induction ts with
  | nil => rfl
  | cons c t ih =>
    show (Jvm.Cond.and c (allAtoms t)).before a st = _
    rw [Jvm.Cond.before_and, ih, List.all_cons]
def words1 : List Jvm.Cond := Jvm.Cond.code x code maxLocals ret :: tables_1
/-- a 'code' word, met by the world's own term for the bytes: nothing is compared byte by byte -/
theorem code_word {y : MethodName} {bytes : ByteArray} {mx : Nat} {rt : Option FieldType} {a : Array Value} {s : State} {m : MethodId} {meth : Method} {c : Code} (h1 : s.methodNamed? y = some m) (h2 : s.vm.method? m = some meth) (h3 : meth.code = some c) (h4 : c.code = bytes)
    (h5 : (c.maxLocals == mx && c.exceptionTable.isEmpty && decide (c.maxStack ≤ mostOperands) && decide (meth.sig.returnType = rt) && !meth.locks && decide (parseMethodDescriptor y.desc = some meth.sig)) = true) : (Jvm.Cond.code y bytes mx rt).before a s = true := by
  simp only [Bool.and_eq_true, beq_iff_eq, Bool.not_eq_true', decide_eq_true_eq] at h5
  obtain ⟨⟨⟨⟨⟨g1, g2⟩, g3⟩, g4⟩, g5⟩, g6⟩ := h5
  simp [Cond.before, Cond.holds, Cond.value, h1, h2, h3, h4, g1, g2, g3, g4, g5, g6]
def isCode : Jvm.Cond → Bool
  | .code _ _ _ _ => true
  | _ => false
theorem all_split {L : List Jvm.Cond} {P : Jvm.Cond → Bool} (h1 : L.all (fun c => isCode c || P c) = true) (h2 : ∀ c ∈ L.filter isCode, P c = true) : L.all P = true := by
  refine List.all_eq_true.mpr fun c hc => ?_
  have h := List.all_eq_true.mp h1 c hc
  rcases Bool.eq_false_or_eq_true (isCode c) with hi | hi
  · exact h2 c (List.mem_filter.mpr ⟨hc, hi⟩)
  · simpa [hi] using h
set_option maxRecDepth 65536 in
theorem w_c0 : (Jvm.Cond.code x code maxLocals ret).before args0 about1 = true := code_word (m := ⟨1, 1⟩) (meth := k1m1) (c := k1c1) (by decide +kernel) rfl rfl rfl (by decide +kernel)
set_option maxRecDepth 65536 in
theorem w_c1 : (Jvm.Cond.code ({ cls := "com/example/pulsekeep/pulsekeep/core/Subscription", name := "distance", desc := "(JJ)J" } : Jvm.MethodName) prog_45_method_4_code (6 : Nat) (Option.some Jvm.ClassFile.FieldType.long)).before args0 about1 = true := code_word (m := ⟨3, 1⟩) (meth := k3m1) (c := k3c1) (by decide +kernel) rfl rfl rfl (by decide +kernel)
set_option maxRecDepth 65536 in
theorem w_c2 : (Jvm.Cond.code ({ cls := "com/example/pulsekeep/pulsekeep/core/Subscription", name := "following", desc := "(J)J" } : Jvm.MethodName) prog_45_method_2_code (2 : Nat) (Option.some Jvm.ClassFile.FieldType.long)).before args0 about1 = true := code_word (m := ⟨3, 0⟩) (meth := k3m0) (c := k3c0) (by decide +kernel) rfl rfl rfl (by decide +kernel)
def codes1 : List Jvm.Cond := [Jvm.Cond.code x code maxLocals ret, Jvm.Cond.code ({ cls := "com/example/pulsekeep/pulsekeep/core/Subscription", name := "distance", desc := "(JJ)J" } : Jvm.MethodName) prog_45_method_4_code (6 : Nat) (Option.some Jvm.ClassFile.FieldType.long), Jvm.Cond.code ({ cls := "com/example/pulsekeep/pulsekeep/core/Subscription", name := "following", desc := "(J)J" } : Jvm.MethodName) prog_45_method_2_code (2 : Nat) (Option.some Jvm.ClassFile.FieldType.long)]
set_option maxRecDepth 65536 in
theorem codes_eq : words1.filter isCode = codes1 := rfl
theorem w_codes : ∀ c ∈ words1.filter isCode, c.before args0 about1 = true := by
  rw [codes_eq]
  intro c hc
  simp only [codes1, List.mem_cons, List.not_mem_nil, or_false] at hc
  rcases hc with rfl | rfl | rfl
  · exact w_c0
  · exact w_c1
  · exact w_c2
set_option maxRecDepth 65536 in
theorem w_t1 : words1.all (fun c => isCode c || c.before args0 about1) = true := by decide +kernel
theorem w_tables : (allAtoms (Jvm.Cond.code x code maxLocals ret :: tables_1)).before args0 about1 = true := by
  rw [allAtoms_all]
  show words1.all (fun c => c.before args0 about1) = true
  refine all_split ?_ w_codes
  rw [w_t1]
set_option maxRecDepth 65536 in
theorem w_case : (Jvm.Cond.and given_1 narrow_1).before args0 about1 = true := by decide +kernel
theorem w_applies : (headSpec (Jvm.Cond.code x code maxLocals ret :: tables_1) room_1).applies x e0.platform about1 = true :=
  (Spec.applies_iff w_frames).mpr ⟨w_running, w_runnable, w_alone, w_named, w_hears, w_ripe, w_room, w_tables⟩
theorem atStart : AtStart classFile x code maxLocals ret World_1 tables_1 room_1 Calls_1 rest_1 Pre_1 launch0 p0 e0 about1 theMethod args0 below0 :=
  ⟨lists_1, trivial, launch0.admits_env _ _ _, launch0.least_env, fairChoices_fair.cas, fairChoices_fair.clock, w_frames, w_args, w_heap, w_applies, trivial, trivial, w_case⟩
end start1
theorem witness_1 : WitnessClaimed_1 := ⟨start1.p0, start1.e0, start1.about1, start1.theMethod, start1.args0, start1.below0, start1.atStart⟩
end Jvm.Pilot.@@N@@
