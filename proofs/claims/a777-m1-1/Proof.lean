import JvmDerived
import JvmDerived.Pilot.@@N@@Statement
import JvmDerived.Pilot.@@N@@Code
set_option linter.unusedVariables false
set_option linter.unusedSimpArgs false
namespace Jvm.Pilot.@@N@@
open Jvm Jvm.ClassFile Sem Op Lib Jvm.Free Jvm.Stand Jvm.LawKit Jvm.RoadKit Bundle Jvm.Pilot.@@N@@.Jvm.D
/-! 0. the run from a state on, said once: it ends, and how -/
def Go (p : Program) (e : Env) (below : List Frame) (s : State) (K N : Nat) (Q : Option Value → Heap → List Loc → Prop) (st : State) : Prop :=
  ∃ s₂ o, Steps p.tables e below st s₂ ∧ s₂.status = .running ∧ Ended s₂ below o ∧ ∃ v L, o = .returned v ∧ Q v s₂.heap L ∧ FrameEnd s o s₂ L K N
/-- what is known of the walk all along -/
def Ctx (p : Program) (s : State) (m : MethodId) (meth : Method) (c : Code) (Z : State) (bytes : ByteArray) (maxl : Nat) (own : String) (ret : Option FieldType) : Prop :=
  p.tables.exec = Jvm.exec ∧ Z.Warmed39 s.vm ∧ c.code = bytes ∧ c.maxLocals = maxl ∧ s.vm.findClass own = some m.cls ∧ meth.sig.returnType = ret ∧ meth.locks = false
/-- a value comes back, the heap is as it was -/
def QV (w : Value) (h0 : Heap) (n0 : Nat) (v : Option Value) (h : Heap) (L : List Loc) : Prop := v = some w ∧ Fr n0 L ∧ h = h0
section Own
variable {p : Program} {l : Launch} {e : Env} {R : Room} {s : State} {m : MethodId} {args : Array Value} {below : List Frame} {meth : Method} {c : Code} {T : State} {locs : List Loc} {cells slots K N : Nat} {Q : Option Value → Heap → List Loc → Prop} {st st' : State}
theorem Go.pre (h : ∀ t, Steps p.tables e below st' t → Steps p.tables e below st t) (k : Go p e below s K N Q st') : Go p e below s K N Q st := by
  obtain ⟨s₂, o, h1, h2⟩ := k; exact ⟨s₂, o, h _ h1, h2⟩
theorem Go.trans (h : Steps p.tables e below st st') (k : Go p e below s K N Q st') : Go p e below s K N Q st := by
  obtain ⟨s₂, o, h1, h2⟩ := k; exact ⟨s₂, o, h.trans h1, h2⟩
theorem Go.mono {Q' : Option Value → Heap → List Loc → Prop} (k : Go p e below s K N Q st) (h : ∀ v h L, Q v h L → Q' v h L) : Go p e below s K N Q' st := by
  obtain ⟨s₂, o, h1, h2, h3, v, L, h4, h5, h6⟩ := k; exact ⟨s₂, o, h1, h2, h3, v, L, h4, h _ _ _ h5, h6⟩
theorem Go.retN (X : Stand p l e R s m args below meth c T locs cells slots) (hx : p.tables.exec = Jvm.exec) (hlk : meth.locks = false) {pc : Nat} {Ls : Array Slot} {z z' : Int32} {t : FieldType} {rest : List Value} (hret : meth.sig.returnType = some t) (ht : t = .boolean ∨ t = .byte ∨ t = .char ∨ t = .short)
    (hd : decode c.code pc = .ok (.ireturn, 1)) (hz : nar t z = z') (hk : cells ≤ K) (hn : slots ≤ N) (hQ : Q (some (.int z')) T.heap locs) : Go p e below s K N Q (T.setTop (mkF m pc Ls (.int z :: rest))) := by
  subst hz
  obtain ⟨fs, hr, hrun, hended, hW, hsame⟩ := X.leave (v := some (.int (nar t z))) (fun h => by rw [hret] at h; cases h) hlk
  exact ⟨_, _, Jvm.RoadKit.retN X hx hret ht hd hr, hrun, hended, _, _, rfl, hQ, ⟨_, rfl⟩, hW, hsame.mono hk hn⟩
theorem Go.retV (X : Stand p l e R s m args below meth c T locs cells slots) (hx : p.tables.exec = Jvm.exec) (hlk : meth.locks = false) {pc : Nat} {Ls : Array Slot} {w : Value} {t : FieldType} {i : Instr} {rest : List Value} (hret : meth.sig.returnType = some t) (hnr : narrow t w = w)
    (hi : (i = .ireturn ∧ (t = .int ∨ t = .boolean ∨ t = .byte ∨ t = .char ∨ t = .short) ∧ ∃ z, w = .int z) ∨ (i = .lreturn ∧ t = .long ∧ ∃ z, w = .long z) ∨ (i = .dreturn ∧ t = .double ∧ ∃ z, w = .double z) ∨ (i = .freturn ∧ t = .float ∧ ∃ z, w = .float z) ∨ (i = .areturn ∧ t.isReference = true ∧ w.isRef = true))
    (hd : decode c.code pc = .ok (i, 1)) (hk : cells ≤ K) (hn : slots ≤ N) (hQ : Q (some w) T.heap locs) : Go p e below s K N Q (T.setTop (mkF m pc Ls (w :: rest))) := by
  obtain ⟨fs, hr, hrun, hended, hW, hsame⟩ := X.leave (v := some w) (fun h => by rw [hret] at h; cases h) hlk
  exact ⟨_, _, retOut X hx hret hnr hi hd hr, hrun, hended, _, _, rfl, hQ, ⟨_, rfl⟩, hW, hsame.mono hk hn⟩
theorem Go.ret0 (X : Stand p l e R s m args below meth c T locs cells slots) (hx : p.tables.exec = Jvm.exec) (hlk : meth.locks = false) {pc : Nat} {Ls : Array Slot} (hret : meth.sig.returnType = none)
    (hd : decode c.code pc = .ok (.return_, 1)) (hk : cells ≤ K) (hn : slots ≤ N) (hQ : Q none T.heap locs) : Go p e below s K N Q (T.setTop (mkF m pc Ls [])) := by
  obtain ⟨fs, hr, hrun, hended, hW, hsame⟩ := X.leave (v := none) (fun _ => rfl) hlk
  exact ⟨_, _, X.returnOut hx hret hd hr, hrun, hended, _, _, rfl, hQ, ⟨_, rfl⟩, hW, hsame.mono hk hn⟩
end Own

/-! body 1: PercentEncoding.isUnreserved -/
theorem d1_0 : decode prog_24_method_3_code 0 = .ok (.iload_n 0, 1) := by decide +kernel
theorem d1_1 : decode prog_24_method_3_code 1 = .ok (.bipush 65, 2) := by decide +kernel
theorem d1_3 : decode prog_24_method_3_code 3 = .ok (.if_icmp .lt 9, 3) := by decide +kernel
theorem d1_6 : decode prog_24_method_3_code 6 = .ok (.iload_n 0, 1) := by decide +kernel
theorem d1_7 : decode prog_24_method_3_code 7 = .ok (.bipush 90, 2) := by decide +kernel
theorem d1_9 : decode prog_24_method_3_code 9 = .ok (.if_icmp .le 51, 3) := by decide +kernel
theorem d1_12 : decode prog_24_method_3_code 12 = .ok (.iload_n 0, 1) := by decide +kernel
theorem d1_13 : decode prog_24_method_3_code 13 = .ok (.bipush 97, 2) := by decide +kernel
theorem d1_15 : decode prog_24_method_3_code 15 = .ok (.if_icmp .lt 9, 3) := by decide +kernel
theorem d1_18 : decode prog_24_method_3_code 18 = .ok (.iload_n 0, 1) := by decide +kernel
theorem d1_19 : decode prog_24_method_3_code 19 = .ok (.bipush 122, 2) := by decide +kernel
theorem d1_21 : decode prog_24_method_3_code 21 = .ok (.if_icmp .le 39, 3) := by decide +kernel
theorem d1_24 : decode prog_24_method_3_code 24 = .ok (.iload_n 0, 1) := by decide +kernel
theorem d1_25 : decode prog_24_method_3_code 25 = .ok (.bipush 48, 2) := by decide +kernel
theorem d1_27 : decode prog_24_method_3_code 27 = .ok (.if_icmp .lt 9, 3) := by decide +kernel
theorem d1_30 : decode prog_24_method_3_code 30 = .ok (.iload_n 0, 1) := by decide +kernel
theorem d1_31 : decode prog_24_method_3_code 31 = .ok (.bipush 57, 2) := by decide +kernel
theorem d1_33 : decode prog_24_method_3_code 33 = .ok (.if_icmp .le 27, 3) := by decide +kernel
theorem d1_36 : decode prog_24_method_3_code 36 = .ok (.iload_n 0, 1) := by decide +kernel
theorem d1_37 : decode prog_24_method_3_code 37 = .ok (.bipush 45, 2) := by decide +kernel
theorem d1_39 : decode prog_24_method_3_code 39 = .ok (.if_icmp .eq 21, 3) := by decide +kernel
theorem d1_42 : decode prog_24_method_3_code 42 = .ok (.iload_n 0, 1) := by decide +kernel
theorem d1_43 : decode prog_24_method_3_code 43 = .ok (.bipush 46, 2) := by decide +kernel
theorem d1_45 : decode prog_24_method_3_code 45 = .ok (.if_icmp .eq 15, 3) := by decide +kernel
theorem d1_48 : decode prog_24_method_3_code 48 = .ok (.iload_n 0, 1) := by decide +kernel
theorem d1_49 : decode prog_24_method_3_code 49 = .ok (.bipush 95, 2) := by decide +kernel
theorem d1_51 : decode prog_24_method_3_code 51 = .ok (.if_icmp .eq 9, 3) := by decide +kernel
theorem d1_54 : decode prog_24_method_3_code 54 = .ok (.iload_n 0, 1) := by decide +kernel
theorem d1_55 : decode prog_24_method_3_code 55 = .ok (.bipush 126, 2) := by decide +kernel
theorem d1_57 : decode prog_24_method_3_code 57 = .ok (.if_icmp .ne 7, 3) := by decide +kernel
theorem d1_60 : decode prog_24_method_3_code 60 = .ok (.iconst 1, 1) := by decide +kernel
theorem d1_61 : decode prog_24_method_3_code 61 = .ok (.goto 4, 3) := by decide +kernel
theorem d1_64 : decode prog_24_method_3_code 64 = .ok (.iconst 0, 1) := by decide +kernel
theorem d1_65 : decode prog_24_method_3_code 65 = .ok (.ireturn, 1) := by decide +kernel
theorem pn_1 : plainName "com/example/kvasir/kvasir/PercentEncoding" = true := by first | (simp [plainName, overriddenIn]; done) | decide +kernel
theorem ef_1 (m : MethodId) (x0 : Int32) : entryFrame m #[(.int x0)] 1 = (mkF m 0 #[.val (.int x0)] []) := by first | (simp [entryFrame, mkF, argsToLocals, Value.category]; done) | rfl
def f1_65 (i0 : Int32) (t0 : Int32) : Int32 := (t0 &&& 1)
def f1_60 (i0 : Int32) : Int32 := f1_65 i0 (1 : Int32)
def f1_36 (i0 : Int32) : Int32 := (if i0 = (45 : Int32) then f1_60 i0 else (if i0 = (46 : Int32) then f1_60 i0 else (if i0 = (95 : Int32) then f1_60 i0 else (if i0 = (126 : Int32) then f1_60 i0 else f1_65 i0 (0 : Int32)))))
def f1_24 (i0 : Int32) : Int32 := (if i0 < (48 : Int32) then f1_36 i0 else (if (57 : Int32) < i0 then f1_36 i0 else f1_60 i0))
def f1_12 (i0 : Int32) : Int32 := (if i0 < (97 : Int32) then f1_24 i0 else (if (122 : Int32) < i0 then f1_24 i0 else f1_60 i0))
def f1_0 (i0 : Int32) : Int32 := (if i0 < (65 : Int32) then f1_12 i0 else (if (90 : Int32) < i0 then f1_12 i0 else f1_60 i0))
set_option maxRecDepth 65536 in
set_option maxHeartbeats 40000000 in
theorem b1_65 {p : Program} {l : Launch} {e : Env} {s : State} {m : MethodId} {args : Array Value} {below : List Frame} {meth : Method} {c : Code} {Z : State} {a0 : Array Value} {T : State} {locs : List Loc} {h0 : Heap} {n0 : Nat} (C : Ctx p s m meth c Z prog_24_method_3_code 1 "com/example/kvasir/kvasir/PercentEncoding" (some .boolean)) (hw : ∀ d ∈ tables_1, d.before a0 Z = true)
    (X : Stand p l e ({ frames := 0, cells := 0, slots := 0, locals := 0 } : Room) s m args below meth c T locs 0 0) (eT : T.heap = h0) (NL : Fr n0 locs) (i0 : Int32) (t0 : Int32) :
    Go p e below s 0 0 (QV (.int (f1_65 i0 t0)) h0 n0) (T.setTop (mkF m 65 #[.val (.int i0)] [(.int t0)])) := by
  obtain ⟨hx, hZ, hby, hml, hown, hrt, hlk⟩ := id C
  unfold f1_65
  exact Go.retN X hx hlk hrt (by simp) (hb hby d1_65) rfl (Nat.le_refl _) (Nat.le_refl _) ⟨rfl, NL, eT⟩
set_option maxRecDepth 65536 in
set_option maxHeartbeats 40000000 in
theorem b1_60 {p : Program} {l : Launch} {e : Env} {s : State} {m : MethodId} {args : Array Value} {below : List Frame} {meth : Method} {c : Code} {Z : State} {a0 : Array Value} {T : State} {locs : List Loc} {h0 : Heap} {n0 : Nat} (C : Ctx p s m meth c Z prog_24_method_3_code 1 "com/example/kvasir/kvasir/PercentEncoding" (some .boolean)) (hw : ∀ d ∈ tables_1, d.before a0 Z = true)
    (X : Stand p l e ({ frames := 0, cells := 0, slots := 0, locals := 0 } : Room) s m args below meth c T locs 0 0) (eT : T.heap = h0) (NL : Fr n0 locs) (i0 : Int32) :
    Go p e below s 0 0 (QV (.int (f1_60 i0)) h0 n0) (T.setTop (mkF m 60 #[.val (.int i0)] [])) := by
  obtain ⟨hx, hZ, hby, hml, hown, hrt, hlk⟩ := id C
  unfold f1_60
  refine Go.pre (st' := T.setTop (mkF m 65 #[.val (.int i0)] [(.int (1 : Int32))])) (fun target kt => ?_) ?_
  · show Steps p.tables e below (T.setTop (mkF m 60 #[.val (.int i0)] [])) _
    refine XS.iconst X.here hx rfl (hb hby d1_60) ?_
    show Steps p.tables e below (T.setTop (mkF m 61 #[.val (.int i0)] [(.int (1 : Int32))])) _
    refine XS.goto X.here hx rfl (pc0 := 61) (pc' := 65) rfl (hb hby d1_61) (by decide) (by decide) ?_
    exact kt
  exact b1_65 C hw X eT NL i0 (1 : Int32)
set_option maxRecDepth 65536 in
set_option maxHeartbeats 40000000 in
theorem b1_36 {p : Program} {l : Launch} {e : Env} {s : State} {m : MethodId} {args : Array Value} {below : List Frame} {meth : Method} {c : Code} {Z : State} {a0 : Array Value} {T : State} {locs : List Loc} {h0 : Heap} {n0 : Nat} (C : Ctx p s m meth c Z prog_24_method_3_code 1 "com/example/kvasir/kvasir/PercentEncoding" (some .boolean)) (hw : ∀ d ∈ tables_1, d.before a0 Z = true)
    (X : Stand p l e ({ frames := 0, cells := 0, slots := 0, locals := 0 } : Room) s m args below meth c T locs 0 0) (eT : T.heap = h0) (NL : Fr n0 locs) (i0 : Int32) :
    Go p e below s 0 0 (QV (.int (f1_36 i0)) h0 n0) (T.setTop (mkF m 36 #[.val (.int i0)] [])) := by
  obtain ⟨hx, hZ, hby, hml, hown, hrt, hlk⟩ := id C
  unfold f1_36
  refine Go.pre (st' := T.setTop (mkF m 39 #[.val (.int i0)] [(.int (45 : Int32)), (.int i0)])) (fun target kt => ?_) ?_
  · show Steps p.tables e below (T.setTop (mkF m 36 #[.val (.int i0)] [])) _
    refine XS.iloadN X.here hx rfl (hb hby d1_36) rfl ?_
    show Steps p.tables e below (T.setTop (mkF m 37 #[.val (.int i0)] [(.int i0)])) _
    refine XS.bipush X.here hx rfl (hb hby d1_37) ?_
    exact kt
  by_cases h39 : i0 = (45 : Int32)
  · rw [if_pos h39]
    refine Go.pre (st' := T.setTop (mkF m 60 #[.val (.int i0)] [])) (fun target kt => ?_) ?_
    · show Steps p.tables e below (T.setTop (mkF m 39 #[.val (.int i0)] [(.int (45 : Int32)), (.int i0)])) _
      refine XS.icmpYes X.here hx rfl (pc0 := 39) (pc' := 60) rfl (hb hby d1_39) rfl (teq h39).1 (by decide) (by decide) ?_
      exact kt
    exact b1_60 C hw X eT NL i0
  · rw [if_neg h39]
    refine Go.pre (st' := T.setTop (mkF m 42 #[.val (.int i0)] [])) (fun target kt => ?_) ?_
    · show Steps p.tables e below (T.setTop (mkF m 39 #[.val (.int i0)] [(.int (45 : Int32)), (.int i0)])) _
      refine XS.icmpNo X.here hx rfl (hb hby d1_39) rfl (feq h39).1 ?_
      exact kt
    refine Go.pre (st' := T.setTop (mkF m 45 #[.val (.int i0)] [(.int (46 : Int32)), (.int i0)])) (fun target kt => ?_) ?_
    · show Steps p.tables e below (T.setTop (mkF m 42 #[.val (.int i0)] [])) _
      refine XS.iloadN X.here hx rfl (hb hby d1_42) rfl ?_
      show Steps p.tables e below (T.setTop (mkF m 43 #[.val (.int i0)] [(.int i0)])) _
      refine XS.bipush X.here hx rfl (hb hby d1_43) ?_
      exact kt
    by_cases h45 : i0 = (46 : Int32)
    · rw [if_pos h45]
      refine Go.pre (st' := T.setTop (mkF m 60 #[.val (.int i0)] [])) (fun target kt => ?_) ?_
      · show Steps p.tables e below (T.setTop (mkF m 45 #[.val (.int i0)] [(.int (46 : Int32)), (.int i0)])) _
        refine XS.icmpYes X.here hx rfl (pc0 := 45) (pc' := 60) rfl (hb hby d1_45) rfl (teq h45).1 (by decide) (by decide) ?_
        exact kt
      exact b1_60 C hw X eT NL i0
    · rw [if_neg h45]
      refine Go.pre (st' := T.setTop (mkF m 48 #[.val (.int i0)] [])) (fun target kt => ?_) ?_
      · show Steps p.tables e below (T.setTop (mkF m 45 #[.val (.int i0)] [(.int (46 : Int32)), (.int i0)])) _
        refine XS.icmpNo X.here hx rfl (hb hby d1_45) rfl (feq h45).1 ?_
        exact kt
      refine Go.pre (st' := T.setTop (mkF m 51 #[.val (.int i0)] [(.int (95 : Int32)), (.int i0)])) (fun target kt => ?_) ?_
      · show Steps p.tables e below (T.setTop (mkF m 48 #[.val (.int i0)] [])) _
        refine XS.iloadN X.here hx rfl (hb hby d1_48) rfl ?_
        show Steps p.tables e below (T.setTop (mkF m 49 #[.val (.int i0)] [(.int i0)])) _
        refine XS.bipush X.here hx rfl (hb hby d1_49) ?_
        exact kt
      by_cases h51 : i0 = (95 : Int32)
      · rw [if_pos h51]
        refine Go.pre (st' := T.setTop (mkF m 60 #[.val (.int i0)] [])) (fun target kt => ?_) ?_
        · show Steps p.tables e below (T.setTop (mkF m 51 #[.val (.int i0)] [(.int (95 : Int32)), (.int i0)])) _
          refine XS.icmpYes X.here hx rfl (pc0 := 51) (pc' := 60) rfl (hb hby d1_51) rfl (teq h51).1 (by decide) (by decide) ?_
          exact kt
        exact b1_60 C hw X eT NL i0
      · rw [if_neg h51]
        refine Go.pre (st' := T.setTop (mkF m 54 #[.val (.int i0)] [])) (fun target kt => ?_) ?_
        · show Steps p.tables e below (T.setTop (mkF m 51 #[.val (.int i0)] [(.int (95 : Int32)), (.int i0)])) _
          refine XS.icmpNo X.here hx rfl (hb hby d1_51) rfl (feq h51).1 ?_
          exact kt
        refine Go.pre (st' := T.setTop (mkF m 57 #[.val (.int i0)] [(.int (126 : Int32)), (.int i0)])) (fun target kt => ?_) ?_
        · show Steps p.tables e below (T.setTop (mkF m 54 #[.val (.int i0)] [])) _
          refine XS.iloadN X.here hx rfl (hb hby d1_54) rfl ?_
          show Steps p.tables e below (T.setTop (mkF m 55 #[.val (.int i0)] [(.int i0)])) _
          refine XS.bipush X.here hx rfl (hb hby d1_55) ?_
          exact kt
        by_cases h57 : i0 = (126 : Int32)
        · rw [if_pos h57]
          refine Go.pre (st' := T.setTop (mkF m 60 #[.val (.int i0)] [])) (fun target kt => ?_) ?_
          · show Steps p.tables e below (T.setTop (mkF m 57 #[.val (.int i0)] [(.int (126 : Int32)), (.int i0)])) _
            refine XS.icmpNo X.here hx rfl (hb hby d1_57) rfl (teq h57).2 ?_
            exact kt
          exact b1_60 C hw X eT NL i0
        · rw [if_neg h57]
          refine Go.pre (st' := T.setTop (mkF m 64 #[.val (.int i0)] [])) (fun target kt => ?_) ?_
          · show Steps p.tables e below (T.setTop (mkF m 57 #[.val (.int i0)] [(.int (126 : Int32)), (.int i0)])) _
            refine XS.icmpYes X.here hx rfl (pc0 := 57) (pc' := 64) rfl (hb hby d1_57) rfl (feq h57).2 (by decide) (by decide) ?_
            exact kt
          refine Go.pre (st' := T.setTop (mkF m 65 #[.val (.int i0)] [(.int (0 : Int32))])) (fun target kt => ?_) ?_
          · show Steps p.tables e below (T.setTop (mkF m 64 #[.val (.int i0)] [])) _
            refine XS.iconst X.here hx rfl (hb hby d1_64) ?_
            exact kt
          exact b1_65 C hw X eT NL i0 (0 : Int32)
set_option maxRecDepth 65536 in
set_option maxHeartbeats 40000000 in
theorem b1_24 {p : Program} {l : Launch} {e : Env} {s : State} {m : MethodId} {args : Array Value} {below : List Frame} {meth : Method} {c : Code} {Z : State} {a0 : Array Value} {T : State} {locs : List Loc} {h0 : Heap} {n0 : Nat} (C : Ctx p s m meth c Z prog_24_method_3_code 1 "com/example/kvasir/kvasir/PercentEncoding" (some .boolean)) (hw : ∀ d ∈ tables_1, d.before a0 Z = true)
    (X : Stand p l e ({ frames := 0, cells := 0, slots := 0, locals := 0 } : Room) s m args below meth c T locs 0 0) (eT : T.heap = h0) (NL : Fr n0 locs) (i0 : Int32) :
    Go p e below s 0 0 (QV (.int (f1_24 i0)) h0 n0) (T.setTop (mkF m 24 #[.val (.int i0)] [])) := by
  obtain ⟨hx, hZ, hby, hml, hown, hrt, hlk⟩ := id C
  unfold f1_24
  refine Go.pre (st' := T.setTop (mkF m 27 #[.val (.int i0)] [(.int (48 : Int32)), (.int i0)])) (fun target kt => ?_) ?_
  · show Steps p.tables e below (T.setTop (mkF m 24 #[.val (.int i0)] [])) _
    refine XS.iloadN X.here hx rfl (hb hby d1_24) rfl ?_
    show Steps p.tables e below (T.setTop (mkF m 25 #[.val (.int i0)] [(.int i0)])) _
    refine XS.bipush X.here hx rfl (hb hby d1_25) ?_
    exact kt
  by_cases h27 : i0 < (48 : Int32)
  · rw [if_pos h27]
    refine Go.pre (st' := T.setTop (mkF m 36 #[.val (.int i0)] [])) (fun target kt => ?_) ?_
    · show Steps p.tables e below (T.setTop (mkF m 27 #[.val (.int i0)] [(.int (48 : Int32)), (.int i0)])) _
      refine XS.icmpYes X.here hx rfl (pc0 := 27) (pc' := 36) rfl (hb hby d1_27) rfl (tlt h27).1 (by decide) (by decide) ?_
      exact kt
    exact b1_36 C hw X eT NL i0
  · rw [if_neg h27]
    refine Go.pre (st' := T.setTop (mkF m 30 #[.val (.int i0)] [])) (fun target kt => ?_) ?_
    · show Steps p.tables e below (T.setTop (mkF m 27 #[.val (.int i0)] [(.int (48 : Int32)), (.int i0)])) _
      refine XS.icmpNo X.here hx rfl (hb hby d1_27) rfl (flt h27).1 ?_
      exact kt
    refine Go.pre (st' := T.setTop (mkF m 33 #[.val (.int i0)] [(.int (57 : Int32)), (.int i0)])) (fun target kt => ?_) ?_
    · show Steps p.tables e below (T.setTop (mkF m 30 #[.val (.int i0)] [])) _
      refine XS.iloadN X.here hx rfl (hb hby d1_30) rfl ?_
      show Steps p.tables e below (T.setTop (mkF m 31 #[.val (.int i0)] [(.int i0)])) _
      refine XS.bipush X.here hx rfl (hb hby d1_31) ?_
      exact kt
    by_cases h33 : (57 : Int32) < i0
    · rw [if_pos h33]
      refine Go.pre (st' := T.setTop (mkF m 36 #[.val (.int i0)] [])) (fun target kt => ?_) ?_
      · show Steps p.tables e below (T.setTop (mkF m 33 #[.val (.int i0)] [(.int (57 : Int32)), (.int i0)])) _
        refine XS.icmpNo X.here hx rfl (hb hby d1_33) rfl (tlt h33).2.2.2 ?_
        exact kt
      exact b1_36 C hw X eT NL i0
    · rw [if_neg h33]
      refine Go.pre (st' := T.setTop (mkF m 60 #[.val (.int i0)] [])) (fun target kt => ?_) ?_
      · show Steps p.tables e below (T.setTop (mkF m 33 #[.val (.int i0)] [(.int (57 : Int32)), (.int i0)])) _
        refine XS.icmpYes X.here hx rfl (pc0 := 33) (pc' := 60) rfl (hb hby d1_33) rfl (flt h33).2.2.2 (by decide) (by decide) ?_
        exact kt
      exact b1_60 C hw X eT NL i0
set_option maxRecDepth 65536 in
set_option maxHeartbeats 40000000 in
theorem b1_12 {p : Program} {l : Launch} {e : Env} {s : State} {m : MethodId} {args : Array Value} {below : List Frame} {meth : Method} {c : Code} {Z : State} {a0 : Array Value} {T : State} {locs : List Loc} {h0 : Heap} {n0 : Nat} (C : Ctx p s m meth c Z prog_24_method_3_code 1 "com/example/kvasir/kvasir/PercentEncoding" (some .boolean)) (hw : ∀ d ∈ tables_1, d.before a0 Z = true)
    (X : Stand p l e ({ frames := 0, cells := 0, slots := 0, locals := 0 } : Room) s m args below meth c T locs 0 0) (eT : T.heap = h0) (NL : Fr n0 locs) (i0 : Int32) :
    Go p e below s 0 0 (QV (.int (f1_12 i0)) h0 n0) (T.setTop (mkF m 12 #[.val (.int i0)] [])) := by
  obtain ⟨hx, hZ, hby, hml, hown, hrt, hlk⟩ := id C
  unfold f1_12
  refine Go.pre (st' := T.setTop (mkF m 15 #[.val (.int i0)] [(.int (97 : Int32)), (.int i0)])) (fun target kt => ?_) ?_
  · show Steps p.tables e below (T.setTop (mkF m 12 #[.val (.int i0)] [])) _
    refine XS.iloadN X.here hx rfl (hb hby d1_12) rfl ?_
    show Steps p.tables e below (T.setTop (mkF m 13 #[.val (.int i0)] [(.int i0)])) _
    refine XS.bipush X.here hx rfl (hb hby d1_13) ?_
    exact kt
  by_cases h15 : i0 < (97 : Int32)
  · rw [if_pos h15]
    refine Go.pre (st' := T.setTop (mkF m 24 #[.val (.int i0)] [])) (fun target kt => ?_) ?_
    · show Steps p.tables e below (T.setTop (mkF m 15 #[.val (.int i0)] [(.int (97 : Int32)), (.int i0)])) _
      refine XS.icmpYes X.here hx rfl (pc0 := 15) (pc' := 24) rfl (hb hby d1_15) rfl (tlt h15).1 (by decide) (by decide) ?_
      exact kt
    exact b1_24 C hw X eT NL i0
  · rw [if_neg h15]
    refine Go.pre (st' := T.setTop (mkF m 18 #[.val (.int i0)] [])) (fun target kt => ?_) ?_
    · show Steps p.tables e below (T.setTop (mkF m 15 #[.val (.int i0)] [(.int (97 : Int32)), (.int i0)])) _
      refine XS.icmpNo X.here hx rfl (hb hby d1_15) rfl (flt h15).1 ?_
      exact kt
    refine Go.pre (st' := T.setTop (mkF m 21 #[.val (.int i0)] [(.int (122 : Int32)), (.int i0)])) (fun target kt => ?_) ?_
    · show Steps p.tables e below (T.setTop (mkF m 18 #[.val (.int i0)] [])) _
      refine XS.iloadN X.here hx rfl (hb hby d1_18) rfl ?_
      show Steps p.tables e below (T.setTop (mkF m 19 #[.val (.int i0)] [(.int i0)])) _
      refine XS.bipush X.here hx rfl (hb hby d1_19) ?_
      exact kt
    by_cases h21 : (122 : Int32) < i0
    · rw [if_pos h21]
      refine Go.pre (st' := T.setTop (mkF m 24 #[.val (.int i0)] [])) (fun target kt => ?_) ?_
      · show Steps p.tables e below (T.setTop (mkF m 21 #[.val (.int i0)] [(.int (122 : Int32)), (.int i0)])) _
        refine XS.icmpNo X.here hx rfl (hb hby d1_21) rfl (tlt h21).2.2.2 ?_
        exact kt
      exact b1_24 C hw X eT NL i0
    · rw [if_neg h21]
      refine Go.pre (st' := T.setTop (mkF m 60 #[.val (.int i0)] [])) (fun target kt => ?_) ?_
      · show Steps p.tables e below (T.setTop (mkF m 21 #[.val (.int i0)] [(.int (122 : Int32)), (.int i0)])) _
        refine XS.icmpYes X.here hx rfl (pc0 := 21) (pc' := 60) rfl (hb hby d1_21) rfl (flt h21).2.2.2 (by decide) (by decide) ?_
        exact kt
      exact b1_60 C hw X eT NL i0
set_option maxRecDepth 65536 in
set_option maxHeartbeats 40000000 in
theorem b1_0 {p : Program} {l : Launch} {e : Env} {s : State} {m : MethodId} {args : Array Value} {below : List Frame} {meth : Method} {c : Code} {Z : State} {a0 : Array Value} {T : State} {locs : List Loc} {h0 : Heap} {n0 : Nat} (C : Ctx p s m meth c Z prog_24_method_3_code 1 "com/example/kvasir/kvasir/PercentEncoding" (some .boolean)) (hw : ∀ d ∈ tables_1, d.before a0 Z = true)
    (X : Stand p l e ({ frames := 0, cells := 0, slots := 0, locals := 0 } : Room) s m args below meth c T locs 0 0) (eT : T.heap = h0) (NL : Fr n0 locs) (i0 : Int32) :
    Go p e below s 0 0 (QV (.int (f1_0 i0)) h0 n0) (T.setTop (mkF m 0 #[.val (.int i0)] [])) := by
  obtain ⟨hx, hZ, hby, hml, hown, hrt, hlk⟩ := id C
  unfold f1_0
  refine Go.pre (st' := T.setTop (mkF m 3 #[.val (.int i0)] [(.int (65 : Int32)), (.int i0)])) (fun target kt => ?_) ?_
  · show Steps p.tables e below (T.setTop (mkF m 0 #[.val (.int i0)] [])) _
    refine XS.iloadN X.here hx rfl (hb hby d1_0) rfl ?_
    show Steps p.tables e below (T.setTop (mkF m 1 #[.val (.int i0)] [(.int i0)])) _
    refine XS.bipush X.here hx rfl (hb hby d1_1) ?_
    exact kt
  by_cases h3 : i0 < (65 : Int32)
  · rw [if_pos h3]
    refine Go.pre (st' := T.setTop (mkF m 12 #[.val (.int i0)] [])) (fun target kt => ?_) ?_
    · show Steps p.tables e below (T.setTop (mkF m 3 #[.val (.int i0)] [(.int (65 : Int32)), (.int i0)])) _
      refine XS.icmpYes X.here hx rfl (pc0 := 3) (pc' := 12) rfl (hb hby d1_3) rfl (tlt h3).1 (by decide) (by decide) ?_
      exact kt
    exact b1_12 C hw X eT NL i0
  · rw [if_neg h3]
    refine Go.pre (st' := T.setTop (mkF m 6 #[.val (.int i0)] [])) (fun target kt => ?_) ?_
    · show Steps p.tables e below (T.setTop (mkF m 3 #[.val (.int i0)] [(.int (65 : Int32)), (.int i0)])) _
      refine XS.icmpNo X.here hx rfl (hb hby d1_3) rfl (flt h3).1 ?_
      exact kt
    refine Go.pre (st' := T.setTop (mkF m 9 #[.val (.int i0)] [(.int (90 : Int32)), (.int i0)])) (fun target kt => ?_) ?_
    · show Steps p.tables e below (T.setTop (mkF m 6 #[.val (.int i0)] [])) _
      refine XS.iloadN X.here hx rfl (hb hby d1_6) rfl ?_
      show Steps p.tables e below (T.setTop (mkF m 7 #[.val (.int i0)] [(.int i0)])) _
      refine XS.bipush X.here hx rfl (hb hby d1_7) ?_
      exact kt
    by_cases h9 : (90 : Int32) < i0
    · rw [if_pos h9]
      refine Go.pre (st' := T.setTop (mkF m 12 #[.val (.int i0)] [])) (fun target kt => ?_) ?_
      · show Steps p.tables e below (T.setTop (mkF m 9 #[.val (.int i0)] [(.int (90 : Int32)), (.int i0)])) _
        refine XS.icmpNo X.here hx rfl (hb hby d1_9) rfl (tlt h9).2.2.2 ?_
        exact kt
      exact b1_12 C hw X eT NL i0
    · rw [if_neg h9]
      refine Go.pre (st' := T.setTop (mkF m 60 #[.val (.int i0)] [])) (fun target kt => ?_) ?_
      · show Steps p.tables e below (T.setTop (mkF m 9 #[.val (.int i0)] [(.int (90 : Int32)), (.int i0)])) _
        refine XS.icmpYes X.here hx rfl (pc0 := 9) (pc' := 60) rfl (hb hby d1_9) rfl (flt h9).2.2.2 (by decide) (by decide) ?_
        exact kt
      exact b1_60 C hw X eT NL i0
set_option maxRecDepth 65536 in
set_option maxHeartbeats 40000000 in
theorem rm1 (l : Launch) (Z : State) (a0 : Array Value) (hw : ∀ d ∈ tables_1, d.before a0 Z = true) (ws : List Jvm.Cond) (x0 : Int32) (h0 : Heap) (n0 : Nat) :
    MetFree l (⟨"com/example/kvasir/kvasir/PercentEncoding", "isUnreserved", "(I)Z"⟩ : MethodName) (head1 (Jvm.Cond.code (⟨"com/example/kvasir/kvasir/PercentEncoding", "isUnreserved", "(I)Z"⟩ : MethodName) prog_24_method_3_code 1 (some .boolean) :: ws) ({ frames := 0, cells := 0, slots := 0, locals := 0 } : Room)) (fun a U => a = #[(.int x0)] ∧ Z.Warmed39 U.vm ∧ U.heap = h0) (fun _ _ _ _ _ => True) (fun _ U o U' => ∃ v L, o = .returned v ∧ QV (.int (f1_0 x0)) h0 n0 v U'.heap L ∧ FrameEnd U o U' L ({ frames := 0, cells := 0, slots := 0, locals := 0 } : Room).cells ({ frames := 0, cells := 0, slots := 0, locals := 0 } : Room).slots) := by
  refine MetFree.of_bodySF (plainFor_of_name pn_1) hisR ?_
  intro p e s m args below meth c s₁ Bd hml0 hP hK
  obtain ⟨rfl, hZ, hh⟩ := hP
  have C : Ctx p s m meth c Z prog_24_method_3_code 1 "com/example/kvasir/kvasir/PercentEncoding" (some .boolean) := ⟨Bd.exec, hZ, Bd.bytes, hml0, findClass_of_methodNamed Bd.named, Bd.returns, Bd.notSynchronized⟩
  have X0 : Stand p l e ({ frames := 0, cells := 0, slots := 0, locals := 0 } : Room) s m #[(.int x0)] below meth c s₁ [] 0 0 := Stand.of_body Bd
  have e0 : s₁.heap = h0 := by rw [← hh, Bd.state]; rfl
  rw [ef_1 m x0]
  exact b1_0 C hw X0 e0 (Fr.nil n0) x0
/-! body 2: PercentEncodingIsUnreservedPinLaw.ref -/
theorem d2_0 : decode method_2_code 0 = .ok (.iload_n 0, 1) := by decide +kernel
theorem d2_1 : decode method_2_code 1 = .ok (.ifCond .lt 9, 3) := by decide +kernel
theorem d2_4 : decode method_2_code 4 = .ok (.iload_n 0, 1) := by decide +kernel
theorem d2_5 : decode method_2_code 5 = .ok (.bipush 127, 2) := by decide +kernel
theorem d2_7 : decode method_2_code 7 = .ok (.if_icmp .le 5, 3) := by decide +kernel
theorem d2_10 : decode method_2_code 10 = .ok (.iconst 0, 1) := by decide +kernel
theorem d2_11 : decode method_2_code 11 = .ok (.ireturn, 1) := by decide +kernel
theorem d2_12 : decode method_2_code 12 = .ok (.iload_n 0, 1) := by decide +kernel
theorem d2_13 : decode method_2_code 13 = .ok (.bipush 64, 2) := by decide +kernel
theorem d2_15 : decode method_2_code 15 = .ok (.if_icmp .ge 21, 3) := by decide +kernel
theorem d2_18 : decode method_2_code 18 = .ok (.ldc2_w 7, 3) := by decide +kernel
theorem d2_21 : decode method_2_code 21 = .ok (.iload_n 0, 1) := by decide +kernel
theorem d2_22 : decode method_2_code 22 = .ok (.lushr, 1) := by decide +kernel
theorem d2_23 : decode method_2_code 23 = .ok (.lconst 1, 1) := by decide +kernel
theorem d2_24 : decode method_2_code 24 = .ok (.land, 1) := by decide +kernel
theorem d2_25 : decode method_2_code 25 = .ok (.lconst 0, 1) := by decide +kernel
theorem d2_26 : decode method_2_code 26 = .ok (.lcmp, 1) := by decide +kernel
theorem d2_27 : decode method_2_code 27 = .ok (.ifCond .eq 7, 3) := by decide +kernel
theorem d2_30 : decode method_2_code 30 = .ok (.iconst 1, 1) := by decide +kernel
theorem d2_31 : decode method_2_code 31 = .ok (.goto 4, 3) := by decide +kernel
theorem d2_34 : decode method_2_code 34 = .ok (.iconst 0, 1) := by decide +kernel
theorem d2_35 : decode method_2_code 35 = .ok (.ireturn, 1) := by decide +kernel
theorem d2_36 : decode method_2_code 36 = .ok (.ldc2_w 9, 3) := by decide +kernel
theorem d2_39 : decode method_2_code 39 = .ok (.iload_n 0, 1) := by decide +kernel
theorem d2_40 : decode method_2_code 40 = .ok (.bipush 64, 2) := by decide +kernel
theorem d2_42 : decode method_2_code 42 = .ok (.isub, 1) := by decide +kernel
theorem d2_43 : decode method_2_code 43 = .ok (.lushr, 1) := by decide +kernel
theorem d2_44 : decode method_2_code 44 = .ok (.lconst 1, 1) := by decide +kernel
theorem d2_45 : decode method_2_code 45 = .ok (.land, 1) := by decide +kernel
theorem d2_46 : decode method_2_code 46 = .ok (.lconst 0, 1) := by decide +kernel
theorem d2_47 : decode method_2_code 47 = .ok (.lcmp, 1) := by decide +kernel
theorem d2_48 : decode method_2_code 48 = .ok (.ifCond .eq 7, 3) := by decide +kernel
theorem d2_51 : decode method_2_code 51 = .ok (.iconst 1, 1) := by decide +kernel
theorem d2_52 : decode method_2_code 52 = .ok (.goto 4, 3) := by decide +kernel
theorem d2_55 : decode method_2_code 55 = .ok (.iconst 0, 1) := by decide +kernel
theorem d2_56 : decode method_2_code 56 = .ok (.ireturn, 1) := by decide +kernel
theorem pn_2 : plainName "com/example/kvasir/kvasir/PercentEncodingIsUnreservedPinLaw" = true := by first | (simp [plainName, overriddenIn]; done) | decide +kernel
theorem ef_2 (m : MethodId) (x0 : Int32) : entryFrame m #[(.int x0)] 1 = (mkF m 0 #[.val (.int x0)] []) := by first | (simp [entryFrame, mkF, argsToLocals, Value.category]; done) | rfl
def f2_10 (i0 : Int32) : Int32 := (0 : Int32)
def f2_56 (i0 : Int32) (t0 : Int32) : Int32 := (t0 &&& 1)
def f2_35 (i0 : Int32) (t0 : Int32) : Int32 := (t0 &&& 1)
def f2_0 (i0 : Int32) : Int32 := (if i0 < (0 : Int32) then f2_10 i0 else (if (127 : Int32) < i0 then f2_10 i0 else (if i0 < (64 : Int32) then (if ((((288054454291267584 : Int64).toUInt64 >>> (i0 &&& 0x3f).toInt64.toUInt64).toInt64) &&& (1 : Int64)) = (0 : Int64) then f2_35 i0 (0 : Int32) else f2_35 i0 (1 : Int32)) else (if ((((5188146764422578174 : Int64).toUInt64 >>> ((i0 - (64 : Int32)) &&& 0x3f).toInt64.toUInt64).toInt64) &&& (1 : Int64)) = (0 : Int64) then f2_56 i0 (0 : Int32) else f2_56 i0 (1 : Int32)))))
set_option maxRecDepth 65536 in
set_option maxHeartbeats 40000000 in
theorem b2_10 {p : Program} {l : Launch} {e : Env} {s : State} {m : MethodId} {args : Array Value} {below : List Frame} {meth : Method} {c : Code} {Z : State} {a0 : Array Value} {T : State} {locs : List Loc} {h0 : Heap} {n0 : Nat} (C : Ctx p s m meth c Z method_2_code 1 "com/example/kvasir/kvasir/PercentEncodingIsUnreservedPinLaw" (some .boolean)) (hw : ∀ d ∈ tables_1, d.before a0 Z = true)
    (X : Stand p l e ({ frames := 0, cells := 0, slots := 0, locals := 0 } : Room) s m args below meth c T locs 0 0) (eT : T.heap = h0) (NL : Fr n0 locs) (i0 : Int32) :
    Go p e below s 0 0 (QV (.int (f2_10 i0)) h0 n0) (T.setTop (mkF m 10 #[.val (.int i0)] [])) := by
  obtain ⟨hx, hZ, hby, hml, hown, hrt, hlk⟩ := id C
  unfold f2_10
  refine Go.pre (st' := T.setTop (mkF m 11 #[.val (.int i0)] [(.int (0 : Int32))])) (fun target kt => ?_) ?_
  · show Steps p.tables e below (T.setTop (mkF m 10 #[.val (.int i0)] [])) _
    refine XS.iconst X.here hx rfl (hb hby d2_10) ?_
    exact kt
  exact Go.retN X hx hlk hrt (by simp) (hb hby d2_11) (by decide) (Nat.le_refl _) (Nat.le_refl _) ⟨rfl, NL, eT⟩
set_option maxRecDepth 65536 in
set_option maxHeartbeats 40000000 in
theorem b2_56 {p : Program} {l : Launch} {e : Env} {s : State} {m : MethodId} {args : Array Value} {below : List Frame} {meth : Method} {c : Code} {Z : State} {a0 : Array Value} {T : State} {locs : List Loc} {h0 : Heap} {n0 : Nat} (C : Ctx p s m meth c Z method_2_code 1 "com/example/kvasir/kvasir/PercentEncodingIsUnreservedPinLaw" (some .boolean)) (hw : ∀ d ∈ tables_1, d.before a0 Z = true)
    (X : Stand p l e ({ frames := 0, cells := 0, slots := 0, locals := 0 } : Room) s m args below meth c T locs 0 0) (eT : T.heap = h0) (NL : Fr n0 locs) (i0 : Int32) (t0 : Int32) :
    Go p e below s 0 0 (QV (.int (f2_56 i0 t0)) h0 n0) (T.setTop (mkF m 56 #[.val (.int i0)] [(.int t0)])) := by
  obtain ⟨hx, hZ, hby, hml, hown, hrt, hlk⟩ := id C
  unfold f2_56
  exact Go.retN X hx hlk hrt (by simp) (hb hby d2_56) rfl (Nat.le_refl _) (Nat.le_refl _) ⟨rfl, NL, eT⟩
set_option maxRecDepth 65536 in
set_option maxHeartbeats 40000000 in
theorem b2_35 {p : Program} {l : Launch} {e : Env} {s : State} {m : MethodId} {args : Array Value} {below : List Frame} {meth : Method} {c : Code} {Z : State} {a0 : Array Value} {T : State} {locs : List Loc} {h0 : Heap} {n0 : Nat} (C : Ctx p s m meth c Z method_2_code 1 "com/example/kvasir/kvasir/PercentEncodingIsUnreservedPinLaw" (some .boolean)) (hw : ∀ d ∈ tables_1, d.before a0 Z = true)
    (X : Stand p l e ({ frames := 0, cells := 0, slots := 0, locals := 0 } : Room) s m args below meth c T locs 0 0) (eT : T.heap = h0) (NL : Fr n0 locs) (i0 : Int32) (t0 : Int32) :
    Go p e below s 0 0 (QV (.int (f2_35 i0 t0)) h0 n0) (T.setTop (mkF m 35 #[.val (.int i0)] [(.int t0)])) := by
  obtain ⟨hx, hZ, hby, hml, hown, hrt, hlk⟩ := id C
  unfold f2_35
  exact Go.retN X hx hlk hrt (by simp) (hb hby d2_35) rfl (Nat.le_refl _) (Nat.le_refl _) ⟨rfl, NL, eT⟩
set_option maxRecDepth 65536 in
set_option maxHeartbeats 40000000 in
theorem b2_0 {p : Program} {l : Launch} {e : Env} {s : State} {m : MethodId} {args : Array Value} {below : List Frame} {meth : Method} {c : Code} {Z : State} {a0 : Array Value} {T : State} {locs : List Loc} {h0 : Heap} {n0 : Nat} (C : Ctx p s m meth c Z method_2_code 1 "com/example/kvasir/kvasir/PercentEncodingIsUnreservedPinLaw" (some .boolean)) (hw : ∀ d ∈ tables_1, d.before a0 Z = true)
    (X : Stand p l e ({ frames := 0, cells := 0, slots := 0, locals := 0 } : Room) s m args below meth c T locs 0 0) (eT : T.heap = h0) (NL : Fr n0 locs) (i0 : Int32) :
    Go p e below s 0 0 (QV (.int (f2_0 i0)) h0 n0) (T.setTop (mkF m 0 #[.val (.int i0)] [])) := by
  obtain ⟨hx, hZ, hby, hml, hown, hrt, hlk⟩ := id C
  unfold f2_0
  refine Go.pre (st' := T.setTop (mkF m 1 #[.val (.int i0)] [(.int i0)])) (fun target kt => ?_) ?_
  · show Steps p.tables e below (T.setTop (mkF m 0 #[.val (.int i0)] [])) _
    refine XS.iloadN X.here hx rfl (hb hby d2_0) rfl ?_
    exact kt
  by_cases h1 : i0 < (0 : Int32)
  · rw [if_pos h1]
    refine Go.pre (st' := T.setTop (mkF m 10 #[.val (.int i0)] [])) (fun target kt => ?_) ?_
    · show Steps p.tables e below (T.setTop (mkF m 1 #[.val (.int i0)] [(.int i0)])) _
      refine XS.ifYes X.here hx rfl (pc0 := 1) (pc' := 10) rfl (hb hby d2_1) rfl ((if0 _ _).trans (tlt h1).1) (by decide) (by decide) ?_
      exact kt
    exact b2_10 C hw X eT NL i0
  · rw [if_neg h1]
    refine Go.pre (st' := T.setTop (mkF m 4 #[.val (.int i0)] [])) (fun target kt => ?_) ?_
    · show Steps p.tables e below (T.setTop (mkF m 1 #[.val (.int i0)] [(.int i0)])) _
      refine XS.ifNo X.here hx rfl (hb hby d2_1) rfl ((if0 _ _).trans (flt h1).1) ?_
      exact kt
    refine Go.pre (st' := T.setTop (mkF m 7 #[.val (.int i0)] [(.int (127 : Int32)), (.int i0)])) (fun target kt => ?_) ?_
    · show Steps p.tables e below (T.setTop (mkF m 4 #[.val (.int i0)] [])) _
      refine XS.iloadN X.here hx rfl (hb hby d2_4) rfl ?_
      show Steps p.tables e below (T.setTop (mkF m 5 #[.val (.int i0)] [(.int i0)])) _
      refine XS.bipush X.here hx rfl (hb hby d2_5) ?_
      exact kt
    by_cases h7 : (127 : Int32) < i0
    · rw [if_pos h7]
      refine Go.pre (st' := T.setTop (mkF m 10 #[.val (.int i0)] [])) (fun target kt => ?_) ?_
      · show Steps p.tables e below (T.setTop (mkF m 7 #[.val (.int i0)] [(.int (127 : Int32)), (.int i0)])) _
        refine XS.icmpNo X.here hx rfl (hb hby d2_7) rfl (tlt h7).2.2.2 ?_
        exact kt
      exact b2_10 C hw X eT NL i0
    · rw [if_neg h7]
      refine Go.pre (st' := T.setTop (mkF m 12 #[.val (.int i0)] [])) (fun target kt => ?_) ?_
      · show Steps p.tables e below (T.setTop (mkF m 7 #[.val (.int i0)] [(.int (127 : Int32)), (.int i0)])) _
        refine XS.icmpYes X.here hx rfl (pc0 := 7) (pc' := 12) rfl (hb hby d2_7) rfl (flt h7).2.2.2 (by decide) (by decide) ?_
        exact kt
      refine Go.pre (st' := T.setTop (mkF m 15 #[.val (.int i0)] [(.int (64 : Int32)), (.int i0)])) (fun target kt => ?_) ?_
      · show Steps p.tables e below (T.setTop (mkF m 12 #[.val (.int i0)] [])) _
        refine XS.iloadN X.here hx rfl (hb hby d2_12) rfl ?_
        show Steps p.tables e below (T.setTop (mkF m 13 #[.val (.int i0)] [(.int i0)])) _
        refine XS.bipush X.here hx rfl (hb hby d2_13) ?_
        exact kt
      by_cases h15 : i0 < (64 : Int32)
      · rw [if_pos h15]
        refine Go.pre (st' := T.setTop (mkF m 18 #[.val (.int i0)] [])) (fun target kt => ?_) ?_
        · show Steps p.tables e below (T.setTop (mkF m 15 #[.val (.int i0)] [(.int (64 : Int32)), (.int i0)])) _
          refine XS.icmpNo X.here hx rfl (hb hby d2_15) rfl (tlt h15).2.1 ?_
          exact kt
        refine Go.pre (st' := T.setTop (mkF m 27 #[.val (.int i0)] [(.int (lcmpW ((((288054454291267584 : Int64).toUInt64 >>> (i0 &&& 0x3f).toInt64.toUInt64).toInt64) &&& (1 : Int64)) (0 : Int64)))])) (fun target kt => ?_) ?_
        · show Steps p.tables e below (T.setTop (mkF m 18 #[.val (.int i0)] [])) _
          refine X.ldc2Long hx hown (mvT hZ (hw _ (List.mem_of_getElem? (i := 8) rfl))) (g := (mkF m 18 #[.val (.int i0)] [])) rfl (hb hby d2_18) _ ?_
          show Steps p.tables e below (T.setTop (mkF m 21 #[.val (.int i0)] [(.long (288054454291267584 : Int64))])) _
          refine XS.iloadN X.here hx rfl (hb hby d2_21) rfl ?_
          show Steps p.tables e below (T.setTop (mkF m 22 #[.val (.int i0)] [(.int i0), (.long (288054454291267584 : Int64))])) _
          refine XS.lushr X.here hx rfl (hb hby d2_22) rfl ?_
          show Steps p.tables e below (T.setTop (mkF m 23 #[.val (.int i0)] [(.long (((288054454291267584 : Int64).toUInt64 >>> (i0 &&& 0x3f).toInt64.toUInt64).toInt64))])) _
          refine XS.lconst X.here hx rfl (hb hby d2_23) ?_
          show Steps p.tables e below (T.setTop (mkF m 24 #[.val (.int i0)] [(.long (1 : Int64)), (.long (((288054454291267584 : Int64).toUInt64 >>> (i0 &&& 0x3f).toInt64.toUInt64).toInt64))])) _
          refine XS.land X.here hx rfl (hb hby d2_24) rfl ?_
          show Steps p.tables e below (T.setTop (mkF m 25 #[.val (.int i0)] [(.long ((((288054454291267584 : Int64).toUInt64 >>> (i0 &&& 0x3f).toInt64.toUInt64).toInt64) &&& (1 : Int64)))])) _
          refine XS.lconst X.here hx rfl (hb hby d2_25) ?_
          show Steps p.tables e below (T.setTop (mkF m 26 #[.val (.int i0)] [(.long (0 : Int64)), (.long ((((288054454291267584 : Int64).toUInt64 >>> (i0 &&& 0x3f).toInt64.toUInt64).toInt64) &&& (1 : Int64)))])) _
          refine XS.lcmp X.here hx rfl (hb hby d2_26) rfl ?_
          exact kt
        by_cases h27 : ((((288054454291267584 : Int64).toUInt64 >>> (i0 &&& 0x3f).toInt64.toUInt64).toInt64) &&& (1 : Int64)) = (0 : Int64)
        · rw [if_pos h27]
          refine Go.pre (st' := T.setTop (mkF m 34 #[.val (.int i0)] [])) (fun target kt => ?_) ?_
          · show Steps p.tables e below (T.setTop (mkF m 27 #[.val (.int i0)] [(.int (lcmpW ((((288054454291267584 : Int64).toUInt64 >>> (i0 &&& 0x3f).toInt64.toUInt64).toInt64) &&& (1 : Int64)) (0 : Int64)))])) _
            refine XS.ifYes X.here hx rfl (pc0 := 27) (pc' := 34) rfl (hb hby d2_27) rfl ((if0 _ _).trans (teq ((lw_eq _ _).mpr h27)).1) (by decide) (by decide) ?_
            exact kt
          refine Go.pre (st' := T.setTop (mkF m 35 #[.val (.int i0)] [(.int (0 : Int32))])) (fun target kt => ?_) ?_
          · show Steps p.tables e below (T.setTop (mkF m 34 #[.val (.int i0)] [])) _
            refine XS.iconst X.here hx rfl (hb hby d2_34) ?_
            exact kt
          exact b2_35 C hw X eT NL i0 (0 : Int32)
        · rw [if_neg h27]
          refine Go.pre (st' := T.setTop (mkF m 30 #[.val (.int i0)] [])) (fun target kt => ?_) ?_
          · show Steps p.tables e below (T.setTop (mkF m 27 #[.val (.int i0)] [(.int (lcmpW ((((288054454291267584 : Int64).toUInt64 >>> (i0 &&& 0x3f).toInt64.toUInt64).toInt64) &&& (1 : Int64)) (0 : Int64)))])) _
            refine XS.ifNo X.here hx rfl (hb hby d2_27) rfl ((if0 _ _).trans (feq (fun q => h27 ((lw_eq _ _).mp q))).1) ?_
            exact kt
          refine Go.pre (st' := T.setTop (mkF m 35 #[.val (.int i0)] [(.int (1 : Int32))])) (fun target kt => ?_) ?_
          · show Steps p.tables e below (T.setTop (mkF m 30 #[.val (.int i0)] [])) _
            refine XS.iconst X.here hx rfl (hb hby d2_30) ?_
            show Steps p.tables e below (T.setTop (mkF m 31 #[.val (.int i0)] [(.int (1 : Int32))])) _
            refine XS.goto X.here hx rfl (pc0 := 31) (pc' := 35) rfl (hb hby d2_31) (by decide) (by decide) ?_
            exact kt
          exact b2_35 C hw X eT NL i0 (1 : Int32)
      · rw [if_neg h15]
        refine Go.pre (st' := T.setTop (mkF m 36 #[.val (.int i0)] [])) (fun target kt => ?_) ?_
        · show Steps p.tables e below (T.setTop (mkF m 15 #[.val (.int i0)] [(.int (64 : Int32)), (.int i0)])) _
          refine XS.icmpYes X.here hx rfl (pc0 := 15) (pc' := 36) rfl (hb hby d2_15) rfl (flt h15).2.1 (by decide) (by decide) ?_
          exact kt
        refine Go.pre (st' := T.setTop (mkF m 48 #[.val (.int i0)] [(.int (lcmpW ((((5188146764422578174 : Int64).toUInt64 >>> ((i0 - (64 : Int32)) &&& 0x3f).toInt64.toUInt64).toInt64) &&& (1 : Int64)) (0 : Int64)))])) (fun target kt => ?_) ?_
        · show Steps p.tables e below (T.setTop (mkF m 36 #[.val (.int i0)] [])) _
          refine X.ldc2Long hx hown (mvT hZ (hw _ (List.mem_of_getElem? (i := 9) rfl))) (g := (mkF m 36 #[.val (.int i0)] [])) rfl (hb hby d2_36) _ ?_
          show Steps p.tables e below (T.setTop (mkF m 39 #[.val (.int i0)] [(.long (5188146764422578174 : Int64))])) _
          refine XS.iloadN X.here hx rfl (hb hby d2_39) rfl ?_
          show Steps p.tables e below (T.setTop (mkF m 40 #[.val (.int i0)] [(.int i0), (.long (5188146764422578174 : Int64))])) _
          refine XS.bipush X.here hx rfl (hb hby d2_40) ?_
          show Steps p.tables e below (T.setTop (mkF m 42 #[.val (.int i0)] [(.int (64 : Int32)), (.int i0), (.long (5188146764422578174 : Int64))])) _
          refine XS.isub X.here hx rfl (hb hby d2_42) rfl ?_
          show Steps p.tables e below (T.setTop (mkF m 43 #[.val (.int i0)] [(.int (i0 - (64 : Int32))), (.long (5188146764422578174 : Int64))])) _
          refine XS.lushr X.here hx rfl (hb hby d2_43) rfl ?_
          show Steps p.tables e below (T.setTop (mkF m 44 #[.val (.int i0)] [(.long (((5188146764422578174 : Int64).toUInt64 >>> ((i0 - (64 : Int32)) &&& 0x3f).toInt64.toUInt64).toInt64))])) _
          refine XS.lconst X.here hx rfl (hb hby d2_44) ?_
          show Steps p.tables e below (T.setTop (mkF m 45 #[.val (.int i0)] [(.long (1 : Int64)), (.long (((5188146764422578174 : Int64).toUInt64 >>> ((i0 - (64 : Int32)) &&& 0x3f).toInt64.toUInt64).toInt64))])) _
          refine XS.land X.here hx rfl (hb hby d2_45) rfl ?_
          show Steps p.tables e below (T.setTop (mkF m 46 #[.val (.int i0)] [(.long ((((5188146764422578174 : Int64).toUInt64 >>> ((i0 - (64 : Int32)) &&& 0x3f).toInt64.toUInt64).toInt64) &&& (1 : Int64)))])) _
          refine XS.lconst X.here hx rfl (hb hby d2_46) ?_
          show Steps p.tables e below (T.setTop (mkF m 47 #[.val (.int i0)] [(.long (0 : Int64)), (.long ((((5188146764422578174 : Int64).toUInt64 >>> ((i0 - (64 : Int32)) &&& 0x3f).toInt64.toUInt64).toInt64) &&& (1 : Int64)))])) _
          refine XS.lcmp X.here hx rfl (hb hby d2_47) rfl ?_
          exact kt
        by_cases h48 : ((((5188146764422578174 : Int64).toUInt64 >>> ((i0 - (64 : Int32)) &&& 0x3f).toInt64.toUInt64).toInt64) &&& (1 : Int64)) = (0 : Int64)
        · rw [if_pos h48]
          refine Go.pre (st' := T.setTop (mkF m 55 #[.val (.int i0)] [])) (fun target kt => ?_) ?_
          · show Steps p.tables e below (T.setTop (mkF m 48 #[.val (.int i0)] [(.int (lcmpW ((((5188146764422578174 : Int64).toUInt64 >>> ((i0 - (64 : Int32)) &&& 0x3f).toInt64.toUInt64).toInt64) &&& (1 : Int64)) (0 : Int64)))])) _
            refine XS.ifYes X.here hx rfl (pc0 := 48) (pc' := 55) rfl (hb hby d2_48) rfl ((if0 _ _).trans (teq ((lw_eq _ _).mpr h48)).1) (by decide) (by decide) ?_
            exact kt
          refine Go.pre (st' := T.setTop (mkF m 56 #[.val (.int i0)] [(.int (0 : Int32))])) (fun target kt => ?_) ?_
          · show Steps p.tables e below (T.setTop (mkF m 55 #[.val (.int i0)] [])) _
            refine XS.iconst X.here hx rfl (hb hby d2_55) ?_
            exact kt
          exact b2_56 C hw X eT NL i0 (0 : Int32)
        · rw [if_neg h48]
          refine Go.pre (st' := T.setTop (mkF m 51 #[.val (.int i0)] [])) (fun target kt => ?_) ?_
          · show Steps p.tables e below (T.setTop (mkF m 48 #[.val (.int i0)] [(.int (lcmpW ((((5188146764422578174 : Int64).toUInt64 >>> ((i0 - (64 : Int32)) &&& 0x3f).toInt64.toUInt64).toInt64) &&& (1 : Int64)) (0 : Int64)))])) _
            refine XS.ifNo X.here hx rfl (hb hby d2_48) rfl ((if0 _ _).trans (feq (fun q => h48 ((lw_eq _ _).mp q))).1) ?_
            exact kt
          refine Go.pre (st' := T.setTop (mkF m 56 #[.val (.int i0)] [(.int (1 : Int32))])) (fun target kt => ?_) ?_
          · show Steps p.tables e below (T.setTop (mkF m 51 #[.val (.int i0)] [])) _
            refine XS.iconst X.here hx rfl (hb hby d2_51) ?_
            show Steps p.tables e below (T.setTop (mkF m 52 #[.val (.int i0)] [(.int (1 : Int32))])) _
            refine XS.goto X.here hx rfl (pc0 := 52) (pc' := 56) rfl (hb hby d2_52) (by decide) (by decide) ?_
            exact kt
          exact b2_56 C hw X eT NL i0 (1 : Int32)
set_option maxRecDepth 65536 in
set_option maxHeartbeats 40000000 in
theorem rm2 (l : Launch) (Z : State) (a0 : Array Value) (hw : ∀ d ∈ tables_1, d.before a0 Z = true) (ws : List Jvm.Cond) (x0 : Int32) (h0 : Heap) (n0 : Nat) :
    MetFree l (⟨"com/example/kvasir/kvasir/PercentEncodingIsUnreservedPinLaw", "ref", "(I)Z"⟩ : MethodName) (head1 (Jvm.Cond.code (⟨"com/example/kvasir/kvasir/PercentEncodingIsUnreservedPinLaw", "ref", "(I)Z"⟩ : MethodName) method_2_code 1 (some .boolean) :: ws) ({ frames := 0, cells := 0, slots := 0, locals := 0 } : Room)) (fun a U => a = #[(.int x0)] ∧ Z.Warmed39 U.vm ∧ U.heap = h0) (fun _ _ _ _ _ => True) (fun _ U o U' => ∃ v L, o = .returned v ∧ QV (.int (f2_0 x0)) h0 n0 v U'.heap L ∧ FrameEnd U o U' L ({ frames := 0, cells := 0, slots := 0, locals := 0 } : Room).cells ({ frames := 0, cells := 0, slots := 0, locals := 0 } : Room).slots) := by
  refine MetFree.of_bodySF (plainFor_of_name pn_2) hisR ?_
  intro p e s m args below meth c s₁ Bd hml0 hP hK
  obtain ⟨rfl, hZ, hh⟩ := hP
  have C : Ctx p s m meth c Z method_2_code 1 "com/example/kvasir/kvasir/PercentEncodingIsUnreservedPinLaw" (some .boolean) := ⟨Bd.exec, hZ, Bd.bytes, hml0, findClass_of_methodNamed Bd.named, Bd.returns, Bd.notSynchronized⟩
  have X0 : Stand p l e ({ frames := 0, cells := 0, slots := 0, locals := 0 } : Room) s m #[(.int x0)] below meth c s₁ [] 0 0 := Stand.of_body Bd
  have e0 : s₁.heap = h0 := by rw [← hh, Bd.state]; rfl
  rw [ef_2 m x0]
  exact b2_0 C hw X0 e0 (Fr.nil n0) x0
/-! body 0: PercentEncodingIsUnreservedPinLaw.law -/
theorem pn_0 : plainName "com/example/kvasir/kvasir/PercentEncodingIsUnreservedPinLaw" = true := by first | (simp [plainName, overriddenIn]; done) | decide +kernel
theorem pd0_7 : parseMethodDescriptor "(I)Z" = some ⟨[.int], some .boolean⟩ := by decide +kernel
theorem ef_0 (m : MethodId) (x0 : Int32) (x1 : Int32) : entryFrame m #[(.int x0), (.int x1)] maxLocals = (mkF m 0 #[.val (.int x0), .val (.int x1), .unset] []) := by first | (simp [entryFrame, mkF, argsToLocals, Value.category, maxLocals]; done) | rfl
def f0_33 (i0 : Int32) (i1 : Int32) (i2 : Int32) (t0 : Int32) : Int32 := (t0 &&& 1)
def f0_32 (i0 : Int32) (i1 : Int32) (i2 : Int32) : Int32 := f0_33 i0 i1 i2 (0 : Int32)
def f0_0 (i0 : Int32) (i1 : Int32) : Int32 := (if (f1_0 i0) = (f2_0 i0) then (if (f1_0 (i1 &&& (255 : Int32))) = (f2_0 (i1 &&& (255 : Int32))) then f0_33 i0 i1 (i1 &&& (255 : Int32)) (1 : Int32) else f0_32 i0 i1 (i1 &&& (255 : Int32))) else f0_32 i0 i1 (i1 &&& (255 : Int32)))
set_option maxRecDepth 65536 in
set_option maxHeartbeats 40000000 in
theorem b0_33 {p : Program} {l : Launch} {e : Env} {s : State} {m : MethodId} {args : Array Value} {below : List Frame} {meth : Method} {c : Code} {Z : State} {a0 : Array Value} {T : State} {locs : List Loc} {h0 : Heap} {n0 : Nat} (C : Ctx p s m meth c Z code 3 "com/example/kvasir/kvasir/PercentEncodingIsUnreservedPinLaw" (some .boolean)) (hw : ∀ d ∈ tables_1, d.before a0 Z = true)
    (X : Stand p l e room_1 s m args below meth c T locs 0 0) (eT : T.heap = h0) (NL : Fr n0 locs) (i0 : Int32) (i1 : Int32) (i2 : Int32) (t0 : Int32) :
    Go p e below s 0 0 (QV (.int (f0_33 i0 i1 i2 t0)) h0 n0) (T.setTop (mkF m 33 #[.val (.int i0), .val (.int i1), .val (.int i2)] [(.int t0)])) := by
  obtain ⟨hx, hZ, hby, hml, hown, hrt, hlk⟩ := id C
  unfold f0_33
  exact Go.retN X hx hlk hrt (by simp) (hb hby at_33) rfl (Nat.le_refl _) (Nat.le_refl _) ⟨rfl, NL, eT⟩
set_option maxRecDepth 65536 in
set_option maxHeartbeats 40000000 in
theorem b0_32 {p : Program} {l : Launch} {e : Env} {s : State} {m : MethodId} {args : Array Value} {below : List Frame} {meth : Method} {c : Code} {Z : State} {a0 : Array Value} {T : State} {locs : List Loc} {h0 : Heap} {n0 : Nat} (C : Ctx p s m meth c Z code 3 "com/example/kvasir/kvasir/PercentEncodingIsUnreservedPinLaw" (some .boolean)) (hw : ∀ d ∈ tables_1, d.before a0 Z = true)
    (X : Stand p l e room_1 s m args below meth c T locs 0 0) (eT : T.heap = h0) (NL : Fr n0 locs) (i0 : Int32) (i1 : Int32) (i2 : Int32) :
    Go p e below s 0 0 (QV (.int (f0_32 i0 i1 i2)) h0 n0) (T.setTop (mkF m 32 #[.val (.int i0), .val (.int i1), .val (.int i2)] [])) := by
  obtain ⟨hx, hZ, hby, hml, hown, hrt, hlk⟩ := id C
  unfold f0_32
  refine Go.pre (st' := T.setTop (mkF m 33 #[.val (.int i0), .val (.int i1), .val (.int i2)] [(.int (0 : Int32))])) (fun target kt => ?_) ?_
  · show Steps p.tables e below (T.setTop (mkF m 32 #[.val (.int i0), .val (.int i1), .val (.int i2)] [])) _
    refine XS.iconst X.here hx rfl (hb hby at_32) ?_
    exact kt
  exact b0_33 C hw X eT NL i0 i1 i2 (0 : Int32)
set_option maxRecDepth 65536 in
set_option maxHeartbeats 40000000 in
theorem b0_0 {p : Program} {l : Launch} {e : Env} {s : State} {m : MethodId} {args : Array Value} {below : List Frame} {meth : Method} {c : Code} {Z : State} {a0 : Array Value} {T : State} {locs : List Loc} {h0 : Heap} {n0 : Nat} (C : Ctx p s m meth c Z code 3 "com/example/kvasir/kvasir/PercentEncodingIsUnreservedPinLaw" (some .boolean)) (hw : ∀ d ∈ tables_1, d.before a0 Z = true)
    (X : Stand p l e room_1 s m args below meth c T locs 0 0) (eT : T.heap = h0) (NL : Fr n0 locs) (i0 : Int32) (i1 : Int32) :
    Go p e below s 0 0 (QV (.int (f0_0 i0 i1)) h0 n0) (T.setTop (mkF m 0 #[.val (.int i0), .val (.int i1), .unset] [])) := by
  obtain ⟨hx, hZ, hby, hml, hown, hrt, hlk⟩ := id C
  unfold f0_0
  refine Go.pre (st' := T.setTop (mkF m 7 #[.val (.int i0), .val (.int i1), .val (.int (i1 &&& (255 : Int32)))] [(.int i0)])) (fun target kt => ?_) ?_
  · show Steps p.tables e below (T.setTop (mkF m 0 #[.val (.int i0), .val (.int i1), .unset] [])) _
    refine XS.iloadN X.here hx rfl (hb hby at_0) rfl ?_
    show Steps p.tables e below (T.setTop (mkF m 1 #[.val (.int i0), .val (.int i1), .unset] [(.int i1)])) _
    refine XS.sipush X.here hx rfl (hb hby at_1) ?_
    show Steps p.tables e below (T.setTop (mkF m 4 #[.val (.int i0), .val (.int i1), .unset] [(.int (255 : Int32)), (.int i1)])) _
    refine XS.iand X.here hx rfl (hb hby at_4) rfl ?_
    show Steps p.tables e below (T.setTop (mkF m 5 #[.val (.int i0), .val (.int i1), .unset] [(.int (i1 &&& (255 : Int32)))])) _
    refine XS.istoreN X.here hx rfl (hb hby at_5) rfl (l' := #[.val (.int i0), .val (.int i1), .val (.int (i1 &&& (255 : Int32)))]) rfl ?_
    show Steps p.tables e below (T.setTop (mkF m 6 #[.val (.int i0), .val (.int i1), .val (.int (i1 &&& (255 : Int32)))] [])) _
    refine XS.iloadN X.here hx rfl (hb hby at_6) rfl ?_
    exact kt
  obtain ⟨_, _, ⟨T7, L7, k7, n7⟩, -, X7, ⟨Lc7, hQ7, l7, y7, z7⟩, st7⟩ := Jvm.LawKit.callS X hx (y := (⟨"com/example/kvasir/kvasir/PercentEncoding", "isUnreserved", "(I)Z"⟩ : MethodName)) hown (mvT hZ (hw _ (List.mem_of_getElem? (i := 0) rfl))) (mvT hZ (hw _ (List.mem_of_getElem? (i := 1) rfl))) (mvT hZ (hw _ (List.mem_of_getElem? (i := 2) rfl))) (mvT hZ (hw _ (List.mem_of_getElem? (i := 3) rfl))) (by decide) (backOf (W := 0) (rm1 l Z a0 hw [] i0 h0 n0) hZ (hw _ (List.mem_of_getElem? (i := 3) rfl)) (hw _ (List.mem_of_getElem? (i := 2) rfl)) (by decide) (by decide)) (g := (mkF m 7 #[.val (.int i0), .val (.int i1), .val (.int (i1 &&& (255 : Int32)))] [(.int i0)])) rfl (by rw [hml]; rfl) (argsL := [(.int i0)]) (rest := []) (lenOf pd0_7 rfl) rfl (by show 2 * 0 + _ ≤ _; exact Nat.le_of_eq rfl) (hb hby at_7) (fun _ _ => ⟨rfl, eT, (by decide : 0 + 0 ≤ _), (by decide : 0 + 0 ≤ _)⟩)
  dsimp only [Pt.U, Pt.locs, Pt.cells, Pt.slots] at X7 l7 y7 z7 st7 hQ7
  subst l7 y7 z7
  obtain ⟨rfl, N7q, e7⟩ := hQ7
  have N7 := Fr.app NL N7q
  refine Go.pre st7 ?_
  show Go p e below s 0 0 _ (T7.setTop (mkF m 10 #[.val (.int i0), .val (.int i1), .val (.int (i1 &&& (255 : Int32)))] [(.int (f1_0 i0))]))
  refine Go.pre (st' := T7.setTop (mkF m 11 #[.val (.int i0), .val (.int i1), .val (.int (i1 &&& (255 : Int32)))] [(.int i0), (.int (f1_0 i0))])) (fun target kt => ?_) ?_
  · show Steps p.tables e below (T7.setTop (mkF m 10 #[.val (.int i0), .val (.int i1), .val (.int (i1 &&& (255 : Int32)))] [(.int (f1_0 i0))])) _
    refine XS.iloadN X7.here hx rfl (hb hby at_10) rfl ?_
    exact kt
  obtain ⟨_, _, ⟨T11, L11, k11, n11⟩, -, X11, ⟨Lc11, hQ11, l11, y11, z11⟩, st11⟩ := Jvm.LawKit.callS X7 hx (y := (⟨"com/example/kvasir/kvasir/PercentEncodingIsUnreservedPinLaw", "ref", "(I)Z"⟩ : MethodName)) hown (mvT hZ (hw _ (List.mem_of_getElem? (i := 4) rfl))) (mvT hZ (hw _ (List.mem_of_getElem? (i := 5) rfl))) (mvT hZ (hw _ (List.mem_of_getElem? (i := 6) rfl))) (mvT hZ (hw _ (List.mem_of_getElem? (i := 7) rfl))) (by decide) (backOf (W := 1) (rm2 l Z a0 hw [] i0 h0 n0) hZ (hw _ (List.mem_of_getElem? (i := 7) rfl)) (hw _ (List.mem_of_getElem? (i := 6) rfl)) (by decide) (by decide)) (g := (mkF m 11 #[.val (.int i0), .val (.int i1), .val (.int (i1 &&& (255 : Int32)))] [(.int i0), (.int (f1_0 i0))])) rfl (by rw [hml]; rfl) (argsL := [(.int i0)]) (rest := [(.int (f1_0 i0))]) (lenOf pd0_7 rfl) rfl (by show 2 * 0 + _ ≤ _; exact Nat.le_of_eq rfl) (hb hby at_11) (fun _ _ => ⟨rfl, e7, (by decide : 0 + 0 ≤ _), (by decide : 0 + 0 ≤ _)⟩)
  dsimp only [Pt.U, Pt.locs, Pt.cells, Pt.slots] at X11 l11 y11 z11 st11 hQ11
  subst l11 y11 z11
  obtain ⟨rfl, N11q, e11⟩ := hQ11
  have N11 := Fr.app N7 N11q
  refine Go.pre st11 ?_
  show Go p e below s 0 0 _ (T11.setTop (mkF m 14 #[.val (.int i0), .val (.int i1), .val (.int (i1 &&& (255 : Int32)))] [(.int (f2_0 i0)), (.int (f1_0 i0))]))
  by_cases h14 : (f1_0 i0) = (f2_0 i0)
  · rw [if_pos h14]
    refine Go.pre (st' := T11.setTop (mkF m 17 #[.val (.int i0), .val (.int i1), .val (.int (i1 &&& (255 : Int32)))] [])) (fun target kt => ?_) ?_
    · show Steps p.tables e below (T11.setTop (mkF m 14 #[.val (.int i0), .val (.int i1), .val (.int (i1 &&& (255 : Int32)))] [(.int (f2_0 i0)), (.int (f1_0 i0))])) _
      refine XS.icmpNo X11.here hx rfl (hb hby at_14) rfl (teq h14).2 ?_
      exact kt
    refine Go.pre (st' := T11.setTop (mkF m 18 #[.val (.int i0), .val (.int i1), .val (.int (i1 &&& (255 : Int32)))] [(.int (i1 &&& (255 : Int32)))])) (fun target kt => ?_) ?_
    · show Steps p.tables e below (T11.setTop (mkF m 17 #[.val (.int i0), .val (.int i1), .val (.int (i1 &&& (255 : Int32)))] [])) _
      refine XS.iloadN X11.here hx rfl (hb hby at_17) rfl ?_
      exact kt
    obtain ⟨_, _, ⟨T18, L18, k18, n18⟩, -, X18, ⟨Lc18, hQ18, l18, y18, z18⟩, st18⟩ := Jvm.LawKit.callS X11 hx (y := (⟨"com/example/kvasir/kvasir/PercentEncoding", "isUnreserved", "(I)Z"⟩ : MethodName)) hown (mvT hZ (hw _ (List.mem_of_getElem? (i := 0) rfl))) (mvT hZ (hw _ (List.mem_of_getElem? (i := 1) rfl))) (mvT hZ (hw _ (List.mem_of_getElem? (i := 2) rfl))) (mvT hZ (hw _ (List.mem_of_getElem? (i := 3) rfl))) (by decide) (backOf (W := 0) (rm1 l Z a0 hw [] (i1 &&& (255 : Int32)) h0 n0) hZ (hw _ (List.mem_of_getElem? (i := 3) rfl)) (hw _ (List.mem_of_getElem? (i := 2) rfl)) (by decide) (by decide)) (g := (mkF m 18 #[.val (.int i0), .val (.int i1), .val (.int (i1 &&& (255 : Int32)))] [(.int (i1 &&& (255 : Int32)))])) rfl (by rw [hml]; rfl) (argsL := [(.int (i1 &&& (255 : Int32)))]) (rest := []) (lenOf pd0_7 rfl) rfl (by show 2 * 0 + _ ≤ _; exact Nat.le_of_eq rfl) (hb hby at_18) (fun _ _ => ⟨rfl, e11, (by decide : 0 + 0 ≤ _), (by decide : 0 + 0 ≤ _)⟩)
    dsimp only [Pt.U, Pt.locs, Pt.cells, Pt.slots] at X18 l18 y18 z18 st18 hQ18
    subst l18 y18 z18
    obtain ⟨rfl, N18q, e18⟩ := hQ18
    have N18 := Fr.app N11 N18q
    refine Go.pre st18 ?_
    show Go p e below s 0 0 _ (T18.setTop (mkF m 21 #[.val (.int i0), .val (.int i1), .val (.int (i1 &&& (255 : Int32)))] [(.int (f1_0 (i1 &&& (255 : Int32))))]))
    refine Go.pre (st' := T18.setTop (mkF m 22 #[.val (.int i0), .val (.int i1), .val (.int (i1 &&& (255 : Int32)))] [(.int (i1 &&& (255 : Int32))), (.int (f1_0 (i1 &&& (255 : Int32))))])) (fun target kt => ?_) ?_
    · show Steps p.tables e below (T18.setTop (mkF m 21 #[.val (.int i0), .val (.int i1), .val (.int (i1 &&& (255 : Int32)))] [(.int (f1_0 (i1 &&& (255 : Int32))))])) _
      refine XS.iloadN X18.here hx rfl (hb hby at_21) rfl ?_
      exact kt
    obtain ⟨_, _, ⟨T22, L22, k22, n22⟩, -, X22, ⟨Lc22, hQ22, l22, y22, z22⟩, st22⟩ := Jvm.LawKit.callS X18 hx (y := (⟨"com/example/kvasir/kvasir/PercentEncodingIsUnreservedPinLaw", "ref", "(I)Z"⟩ : MethodName)) hown (mvT hZ (hw _ (List.mem_of_getElem? (i := 4) rfl))) (mvT hZ (hw _ (List.mem_of_getElem? (i := 5) rfl))) (mvT hZ (hw _ (List.mem_of_getElem? (i := 6) rfl))) (mvT hZ (hw _ (List.mem_of_getElem? (i := 7) rfl))) (by decide) (backOf (W := 1) (rm2 l Z a0 hw [] (i1 &&& (255 : Int32)) h0 n0) hZ (hw _ (List.mem_of_getElem? (i := 7) rfl)) (hw _ (List.mem_of_getElem? (i := 6) rfl)) (by decide) (by decide)) (g := (mkF m 22 #[.val (.int i0), .val (.int i1), .val (.int (i1 &&& (255 : Int32)))] [(.int (i1 &&& (255 : Int32))), (.int (f1_0 (i1 &&& (255 : Int32))))])) rfl (by rw [hml]; rfl) (argsL := [(.int (i1 &&& (255 : Int32)))]) (rest := [(.int (f1_0 (i1 &&& (255 : Int32))))]) (lenOf pd0_7 rfl) rfl (by show 2 * 0 + _ ≤ _; exact Nat.le_of_eq rfl) (hb hby at_22) (fun _ _ => ⟨rfl, e18, (by decide : 0 + 0 ≤ _), (by decide : 0 + 0 ≤ _)⟩)
    dsimp only [Pt.U, Pt.locs, Pt.cells, Pt.slots] at X22 l22 y22 z22 st22 hQ22
    subst l22 y22 z22
    obtain ⟨rfl, N22q, e22⟩ := hQ22
    have N22 := Fr.app N18 N22q
    refine Go.pre st22 ?_
    show Go p e below s 0 0 _ (T22.setTop (mkF m 25 #[.val (.int i0), .val (.int i1), .val (.int (i1 &&& (255 : Int32)))] [(.int (f2_0 (i1 &&& (255 : Int32)))), (.int (f1_0 (i1 &&& (255 : Int32))))]))
    by_cases h25 : (f1_0 (i1 &&& (255 : Int32))) = (f2_0 (i1 &&& (255 : Int32)))
    · rw [if_pos h25]
      refine Go.pre (st' := T22.setTop (mkF m 28 #[.val (.int i0), .val (.int i1), .val (.int (i1 &&& (255 : Int32)))] [])) (fun target kt => ?_) ?_
      · show Steps p.tables e below (T22.setTop (mkF m 25 #[.val (.int i0), .val (.int i1), .val (.int (i1 &&& (255 : Int32)))] [(.int (f2_0 (i1 &&& (255 : Int32)))), (.int (f1_0 (i1 &&& (255 : Int32))))])) _
        refine XS.icmpNo X22.here hx rfl (hb hby at_25) rfl (teq h25).2 ?_
        exact kt
      refine Go.pre (st' := T22.setTop (mkF m 33 #[.val (.int i0), .val (.int i1), .val (.int (i1 &&& (255 : Int32)))] [(.int (1 : Int32))])) (fun target kt => ?_) ?_
      · show Steps p.tables e below (T22.setTop (mkF m 28 #[.val (.int i0), .val (.int i1), .val (.int (i1 &&& (255 : Int32)))] [])) _
        refine XS.iconst X22.here hx rfl (hb hby at_28) ?_
        show Steps p.tables e below (T22.setTop (mkF m 29 #[.val (.int i0), .val (.int i1), .val (.int (i1 &&& (255 : Int32)))] [(.int (1 : Int32))])) _
        refine XS.goto X22.here hx rfl (pc0 := 29) (pc' := 33) rfl (hb hby at_29) (by decide) (by decide) ?_
        exact kt
      exact b0_33 C hw X22 e22 N22 i0 i1 (i1 &&& (255 : Int32)) (1 : Int32)
    · rw [if_neg h25]
      refine Go.pre (st' := T22.setTop (mkF m 32 #[.val (.int i0), .val (.int i1), .val (.int (i1 &&& (255 : Int32)))] [])) (fun target kt => ?_) ?_
      · show Steps p.tables e below (T22.setTop (mkF m 25 #[.val (.int i0), .val (.int i1), .val (.int (i1 &&& (255 : Int32)))] [(.int (f2_0 (i1 &&& (255 : Int32)))), (.int (f1_0 (i1 &&& (255 : Int32))))])) _
        refine XS.icmpYes X22.here hx rfl (pc0 := 25) (pc' := 32) rfl (hb hby at_25) rfl (feq h25).2 (by decide) (by decide) ?_
        exact kt
      exact b0_32 C hw X22 e22 N22 i0 i1 (i1 &&& (255 : Int32))
  · rw [if_neg h14]
    refine Go.pre (st' := T11.setTop (mkF m 32 #[.val (.int i0), .val (.int i1), .val (.int (i1 &&& (255 : Int32)))] [])) (fun target kt => ?_) ?_
    · show Steps p.tables e below (T11.setTop (mkF m 14 #[.val (.int i0), .val (.int i1), .val (.int (i1 &&& (255 : Int32)))] [(.int (f2_0 i0)), (.int (f1_0 i0))])) _
      refine XS.icmpYes X11.here hx rfl (pc0 := 14) (pc' := 32) rfl (hb hby at_14) rfl (feq h14).2 (by decide) (by decide) ?_
      exact kt
    exact b0_32 C hw X11 e11 N11 i0 i1 (i1 &&& (255 : Int32))
set_option maxRecDepth 65536 in
set_option maxHeartbeats 40000000 in
theorem rm0 (l : Launch) (Z : State) (a0 : Array Value) (hw : ∀ d ∈ tables_1, d.before a0 Z = true) (ws : List Jvm.Cond) (x0 : Int32) (x1 : Int32) (h0 : Heap) (n0 : Nat) :
    MetFree l x (head1 (Jvm.Cond.code x code maxLocals ret :: ws) room_1) (fun a U => a = #[(.int x0), (.int x1)] ∧ Z.Warmed39 U.vm ∧ U.heap = h0) (fun _ _ _ _ _ => True) (fun _ U o U' => ∃ v L, o = .returned v ∧ QV (.int (f0_0 x0 x1)) h0 n0 v U'.heap L ∧ FrameEnd U o U' L 0 0) := by
  refine MetFree.of_bodySF (plainFor_of_name pn_0) hisR ?_
  intro p e s m args below meth c s₁ Bd hml0 hP hK
  obtain ⟨rfl, hZ, hh⟩ := hP
  have C : Ctx p s m meth c Z code 3 "com/example/kvasir/kvasir/PercentEncodingIsUnreservedPinLaw" (some .boolean) := ⟨Bd.exec, hZ, Bd.bytes, hml0, findClass_of_methodNamed Bd.named, Bd.returns, Bd.notSynchronized⟩
  have X0 : Stand p l e room_1 s m #[(.int x0), (.int x1)] below meth c s₁ [] 0 0 := Stand.of_body Bd
  have e0 : s₁.heap = h0 := by rw [← hh, Bd.state]; rfl
  rw [ef_0 m x0 x1]
  exact b0_0 C hw X0 e0 (Fr.nil n0) x0 x1
/-! the plain law -/
theorem own_small : ∀ n : Fin 128, f1_0 (Int32.ofInt (n.1 : Int)) = f2_0 (Int32.ofInt (n.1 : Int)) := by decide +kernel
theorem own_bit (t : Int32) (h : t = 0 ∨ t = 1) : t &&& 1 = t := by rcases h with rfl | rfl <;> decide
theorem own_out (c : Int32) (h : c.toInt < 0 ∨ 127 < c.toInt) : f1_0 c = f2_0 c := by
  have e2 : f2_0 c = 0 := by
    unfold f2_0 f2_10
    by_cases h0 : c < (0 : Int32)
    · rw [if_pos h0]
    · rw [if_neg h0]
      have h1 : (127 : Int32) < c := by
        rw [Int32.lt_iff_toInt_lt] at h0 ⊢
        have : (0 : Int32).toInt = 0 := by decide
        have : (127 : Int32).toInt = 127 := by decide
        omega
      rw [if_pos h1]
  rw [e2]
  have k : ∀ z : Int32, 0 ≤ z.toInt → z.toInt ≤ 127 → ¬ c = z := fun z h1 h2 e => by subst e; omega
  have n45 : ¬ c = (45 : Int32) := k _ (by decide) (by decide)
  have n46 : ¬ c = (46 : Int32) := k _ (by decide) (by decide)
  have n95 : ¬ c = (95 : Int32) := k _ (by decide) (by decide)
  have n126 : ¬ c = (126 : Int32) := k _ (by decide) (by decide)
  have e36 : f1_36 c = 0 := by
    unfold f1_36 f1_65
    rw [if_neg n45, if_neg n46, if_neg n95, if_neg n126]; decide
  have l : ∀ a b : Int32, 0 ≤ a.toInt → b.toInt ≤ 127 → ¬ (c < a) → b < c := fun a b h1 h2 h3 => by
    rw [Int32.lt_iff_toInt_lt] at h3 ⊢; omega
  have e24 : f1_24 c = 0 := by
    unfold f1_24
    by_cases h1 : c < (48 : Int32)
    · rw [if_pos h1, e36]
    · rw [if_neg h1, if_pos (l 48 57 (by decide) (by decide) h1), e36]
  have e12 : f1_12 c = 0 := by
    unfold f1_12
    by_cases h1 : c < (97 : Int32)
    · rw [if_pos h1, e24]
    · rw [if_neg h1, if_pos (l 97 122 (by decide) (by decide) h1), e24]
  unfold f1_0
  by_cases h1 : c < (65 : Int32)
  · rw [if_pos h1, e12]
  · rw [if_neg h1, if_pos (l 65 90 (by decide) (by decide) h1), e12]
theorem own_same (c : Int32) : f1_0 c = f2_0 c := by
  by_cases h : c.toInt < 0 ∨ 127 < c.toInt
  · exact own_out c h
  · have h1 : 0 ≤ c.toInt := by omega
    have h2 : c.toInt.toNat < 128 := by omega
    have e : Int32.ofInt ((⟨c.toInt.toNat, h2⟩ : Fin 128).1 : Int) = c := by
      show Int32.ofInt ((c.toInt.toNat : Nat) : Int) = c
      rw [Int.toNat_of_nonneg h1, Int32.ofInt_toInt]
    have := own_small ⟨c.toInt.toNat, h2⟩
    rw [e] at this
    exact this
theorem law_eq (a b : Int32) : f0_0 a b = 1 := by
  unfold f0_0 f0_33
  rw [if_pos (own_same a), if_pos (own_same _)]
  decide

set_option maxRecDepth 65536 in
set_option maxHeartbeats 40000000 in
theorem comes_1 {Post : Tables → Env → Array Value → State → Outcome → State → Prop} (hpost : ∀ tb e args s v u, (limb_1_1.after args s (.returned v) u = true ∧ limb_1_2.after args s (.returned v) u = true ∧ True) → FrameEnd s (.returned v) u (Jvm.fieldLocs frame_1_writes args s ++ Jvm.arrayLocs frame_1_arrays args s ++ Jvm.staticLocs frame_1_statics s) 0 0 → Post tb e args s (.returned v) u) :
    ArmFor flags0 classFile x code maxLocals ret World_1 tables_1 room_1 Calls_1 rest_1 Pre_1 Post := by
  intro l hfl _ _ p e ha hc hk s m args below hf hA hF happ hP
  obtain ⟨hcalls, hrest, hpre⟩ := hP
  obtain ⟨-, -, -, hnamed, -, -, -, hat⟩ := (Spec.applies_iff hf).mp happ
  obtain ⟨hg, hn⟩ := and_e (Cond.before_iff.mp (show (Jvm.Cond.and given_1 narrow_1).before args s = true from hpre))
  obtain ⟨g0, hg1⟩ := and_e hg
  obtain ⟨g1, hg2⟩ := and_e hg1
  obtain ⟨w0, w1, rfl⟩ : ∃ w0 w1 : Value, args = #[w0, w1] := by
    have hs : args.size = 2 := by simpa [Cond.value, given_1] using g0
    obtain ⟨L⟩ := args
    match L, hs with
    | [w0, w1], _ => exact ⟨w0, w1, rfl⟩
  have hw := fun d (hd : d ∈ tables_1) => atoms_spec (ws := Jvm.Cond.code x code maxLocals ret :: tables_1) hat d (List.mem_cons_of_mem _ hd)
  obtain ⟨i0, ei0⟩ := is_v g1
  obtain rfl : w0 = (.int i0) := Option.some.inj ei0
  obtain ⟨i1, ei1⟩ := is_v hg2
  obtain rfl : w1 = (.int i1) := Option.some.inj ei1
  obtain ⟨n, o, h1, h2, h3, _, L, rfl, ⟨rfl, N, -⟩, hq⟩ := rm0 l s _ hw tables_1 i0 i1 s.heap s.heap.size p e ha hc hk s m _ below hf ((Spec.applies_iff_loose hf).mp happ).1 ⟨rfl, State.Warmed39.refl s, rfl⟩ trivial
  refine ⟨n, _, h1, h2, h3, hpost _ _ _ _ _ _ ⟨Cond.after_iff.mpr rfl, Cond.after_iff.mpr (eq_i res_at (Term.int_eval (1)) (congrArg Value.int (law_eq i0 i1))), trivial⟩ ⟨hq.1, hq.2.1, (hq.2.2.sift fun y hy => Or.inr (N y hy)).mono (by decide) (by decide)⟩⟩
theorem main_1_1 : Claimed_1_1 := comes_1 fun _ _ _ _ _ _ h hF => ⟨h.1, hF⟩
theorem main_1_2 : Claimed_1_2 := comes_1 fun _ _ _ _ _ _ h hF => ⟨h.2.1, hF⟩
end Jvm.Pilot.@@N@@
namespace Jvm.Pilot.@@N@@
open Jvm Jvm.ClassFile Sem Op Lib Jvm.Free Jvm.Stand Jvm.Pilot.@@N@@.Jvm.D
/-! MADE BY PROGRAM (witnessworld.py) out of the Statement's table words and the real class files: 9 classes; the members and pool entries that the words name. The judged class is class 1, her method 2. -/
namespace start1
open Jvm.ClassFile
def u (s : String) : CpInfo := .utf8 (stringToUtf16 s)
/-- a pool by its gaps: so many unusable entries, then the entry; so many at the end -/
def gap : Nat → List CpInfo → List CpInfo
  | 0, r => r
  | n + 1, r => .unusable :: gap n r
def poolList (es : List (Nat × CpInfo)) (last : Nat) : List CpInfo := es.foldr (fun e r => gap e.1 (e.2 :: r)) (gap last [])
def pool (es : List (Nat × CpInfo)) (last : Nat) : Array CpInfo := ⟨poolList es last⟩
def fileOf (pool : Array CpInfo) (this : Nat) (attrs : Array Attribute := #[]) (ms : Array MethodInfo := #[]) (fl : Nat := 33) (sup : Nat := 0) (ifs : Array Nat := #[]) (fds : Array FieldInfo := #[]) : ClassFile where
  minorVersion := 0
  majorVersion := 65
  constantPool := pool
  accessFlags := fl
  thisClass := this
  superClass := sup
  interfaces := ifs
  fields := fds
  methods := ms
  attributes := attrs
def plain (name : String) (sup : Option ClassId) : Class where
  name := name
  kind := .ordinary
  loader := none
  accessFlags := 33
  super := sup
  interfaces := #[]
  cf := none
  fields := #[]
  methods := #[]
  instanceTypes := #[]
  staticTypes := #[]
  resolved := #[]
  callSites := []
  init := .initialized
  statics := none
  mirror := none

def pool0 : Array CpInfo := pool [(5, u "<init>"), (0, u "()V"), (1, .class_ 10), (1, u "java/lang/Object")] 113

def k0m0 : Method := { name := "<init>", desc := "()V", sig := { parameters := [], returnType := none }, accessFlags := 1, code := none }
/-- java/lang/Object -/
def k0 : Class := { plain "java/lang/Object" none with
  accessFlags := 33
  interfaces := #[]
  cf := some (fileOf pool0 8 #[] #[{ accessFlags := 1, nameIndex := 5, descriptorIndex := 6, attributes := #[] }] 33 0 #[] #[])
  fields := #[]
  methods := #[k0m0]
  instanceTypes := #[]
  staticTypes := #[]
  resolved := Array.replicate 124 none
  statics := none }

def pool1 : Array CpInfo := pool [(2, .class_ 4), (1, u "java/lang/Object"), (0, u "<init>"), (0, u "()V"), (0, .long 288054454291267584), (1, .long 5188146764422578174), (1, .methodref 12 13), (0, .class_ 14), (0, .nameAndType 15 16), (0, u "com/example/kvasir/kvasir/PercentEncoding"), (0, u "isUnreserved"), (0, u "(I)Z"), (0, .methodref 18 19), (0, .class_ 20), (0, .nameAndType 21 16), (0, u "com/example/kvasir/kvasir/PercentEncodingIsUnreservedPinLaw"), (0, u "ref"), (3, u "law"), (0, u "(II)Z")] 2

def k1m0 : Method := { name := "<init>", desc := "()V", sig := { parameters := [], returnType := none }, accessFlags := 2, code := none }
def k1c1 : Code := { maxStack := 4, maxLocals := 1, code := method_2_code, exceptionTable := #[], attributes := #[] }
def k1m1 : Method := { name := "ref", desc := "(I)Z", sig := { parameters := [.int], returnType := some .boolean }, accessFlags := 10, code := some k1c1 }
def k1c2 : Code := { maxStack := 2, maxLocals := 3, code := code, exceptionTable := #[], attributes := #[] }
def k1m2 : Method := { name := "law", desc := "(II)Z", sig := { parameters := [.int, .int], returnType := some .boolean }, accessFlags := 9, code := some k1c2 }
/-- com/example/kvasir/kvasir/PercentEncodingIsUnreservedPinLaw -/
def k1 : Class := { plain "com/example/kvasir/kvasir/PercentEncodingIsUnreservedPinLaw" (some 0) with
  accessFlags := 49
  interfaces := #[]
  cf := some (fileOf pool1 18 #[] #[{ accessFlags := 2, nameIndex := 5, descriptorIndex := 6, attributes := #[] }, { accessFlags := 10, nameIndex := 21, descriptorIndex := 16, attributes := #[] }, { accessFlags := 9, nameIndex := 25, descriptorIndex := 26, attributes := #[] }] 49 2 #[] #[])
  fields := #[]
  methods := #[k1m0, k1m1, k1m2]
  instanceTypes := #[]
  staticTypes := #[]
  resolved := Array.replicate 29 none
  statics := none }

def pool2 : Array CpInfo := pool [(2, .class_ 4), (1, u "java/lang/Object"), (0, u "<init>"), (0, u "()V"), (16, .class_ 25), (1, u "com/example/kvasir/kvasir/PercentEncoding"), (0, u "isUnreserved"), (0, u "(I)Z")] 32

def k2m0 : Method := { name := "<init>", desc := "()V", sig := { parameters := [], returnType := none }, accessFlags := 2, code := none }
def k2c1 : Code := { maxStack := 2, maxLocals := 1, code := prog_24_method_3_code, exceptionTable := #[], attributes := #[] }
def k2m1 : Method := { name := "isUnreserved", desc := "(I)Z", sig := { parameters := [.int], returnType := some .boolean }, accessFlags := 8, code := some k2c1 }
/-- com/example/kvasir/kvasir/PercentEncoding -/
def k2 : Class := { plain "com/example/kvasir/kvasir/PercentEncoding" (some 0) with
  accessFlags := 32
  interfaces := #[]
  cf := some (fileOf pool2 23 #[] #[{ accessFlags := 2, nameIndex := 5, descriptorIndex := 6, attributes := #[] }, { accessFlags := 8, nameIndex := 26, descriptorIndex := 27, attributes := #[] }] 32 2 #[] #[])
  fields := #[]
  methods := #[k2m0, k2m1]
  instanceTypes := #[]
  staticTypes := #[]
  resolved := Array.replicate 60 none
  statics := none }

def pool3 : Array CpInfo := pool [(1, u "java/lang/Cloneable"), (0, .class_ 1), (0, u "java/lang/Object"), (0, .class_ 3)] 3

/-- java/lang/Cloneable -/
def k3 : Class := { plain "java/lang/Cloneable" (some 0) with
  accessFlags := 1537
  interfaces := #[]
  cf := some (fileOf pool3 2 #[] #[] 1537 4 #[] #[])
  fields := #[]
  methods := #[]
  instanceTypes := #[]
  staticTypes := #[]
  resolved := Array.replicate 8 none
  statics := none }

def pool4 : Array CpInfo := pool [(1, u "java/io/Serializable"), (0, .class_ 1), (0, u "java/lang/Object"), (0, .class_ 3)] 3

/-- java/io/Serializable -/
def k4 : Class := { plain "java/io/Serializable" (some 0) with
  accessFlags := 1537
  interfaces := #[]
  cf := some (fileOf pool4 2 #[] #[] 1537 4 #[] #[])
  fields := #[]
  methods := #[]
  instanceTypes := #[]
  staticTypes := #[]
  resolved := Array.replicate 8 none
  statics := none }

/-- the primitive byte -/
def k5 : Class := { plain "byte" none with kind := .primitive 'B', accessFlags := 0x411 }
/-- [B -/
def k6 : Class := { plain "[B" (some 0) with kind := .array 5 .byte, interfaces := #[3, 4], accessFlags := 1041 }

/-- the primitive int -/
def k7 : Class := { plain "int" none with kind := .primitive 'I', accessFlags := 0x411 }
/-- [I -/
def k8 : Class := { plain "[I" (some 0) with kind := .array 7 .int, interfaces := #[3, 4], accessFlags := 1041 }

def heap : Heap := #[]
def classes : Array Class := #[k0, k1, k2, k3, k4, k5, k6, k7, k8]
def interned : List (Array UInt16 × Addr) := []
def slotsUsed : Nat := 0
def theMethod : MethodId := ⟨1, 2⟩
def args0 : Array Value := #[.int 65, .int 300]
def aboutOver (below : List Frame) : State where
  vm := { classes := classes, interned := interned.toArray }
  heap := heap
  slotsUsed := slotsUsed
  threads := #[{ frames := .invoking theMethod args0 :: below }]
def below0 : List Frame := [.native { method := ⟨0, 0⟩, args := #[] }]
def about1 : State := aboutOver below0
def p0 : Program := .bare "" "" ""
def e0 : Env := launch0.env 0 0 0
theorem w_frames : about1.frames = Frame.invoking theMethod args0 :: below0 := rfl
set_option maxRecDepth 65536 in
theorem w_args : argsFit about1.vm theMethod args0 = true := by decide +kernel
set_option maxRecDepth 65536 in
theorem w_heap : heapFits about1 = true := by decide +kernel
set_option maxRecDepth 65536 in
theorem w_runnable : about1.curStatus? = some .runnable := by decide +kernel
set_option maxRecDepth 65536 in
theorem w_alone : about1.alone = true := by decide +kernel
set_option maxRecDepth 65536 in
theorem w_named : about1.methodNamed? x = some theMethod := by decide +kernel
set_option maxRecDepth 65536 in
theorem w_hears : about1.hears theMethod below0 = true := by decide +kernel
set_option maxRecDepth 65536 in
theorem w_ripe : about1.ripe theMethod args0 below0 = true := by decide +kernel
theorem w_running : about1.status = .running := rfl
set_option maxRecDepth 65536 in
theorem w_room : about1.hasRoom e0.platform room_1 = true :=
  launch0.hasRoom_least _ room_1 (by decide +kernel) (by decide +kernel) (by decide +kernel) (by decide +kernel) (by decide +kernel) (by decide +kernel)
theorem allAtoms_all (ts : List Jvm.Cond) (a : Array Jvm.Value) (st : Jvm.State) : (allAtoms ts).before a st = ts.all (fun c => c.before a st) := by
  induction ts with
  | nil => rfl
  | cons c t ih =>
    show (Jvm.Cond.and c (allAtoms t)).before a st = _
    rw [Jvm.Cond.before_and, ih, List.all_cons]
def words1 : List Jvm.Cond := Jvm.Cond.code x code maxLocals ret :: tables_1
/-- a 'code' word, met by the world's own term for the bytes: nothing is compared byte by byte -/
theorem code_word {y : MethodName} {bytes : ByteArray} {mx : Nat} {rt : Option FieldType} {a : Array Value} {s : State} {m : MethodId} {meth : Method} {c : Code} (h1 : s.methodNamed? y = some m) (h2 : s.vm.method? m = some meth) (h3 : meth.code = some c) (h4 : c.code = bytes)
    (h5 : (c.maxLocals == mx && c.exceptionTable.isEmpty && decide (c.maxStack ≤ mostOperands) && decide (meth.sig.returnType = rt) && !meth.locks && decide (parseMethodDescriptor y.desc = some meth.sig)) = true) : (Jvm.Cond.code y bytes mx rt).before a s = true := by
  simp only [Bool.and_eq_true, beq_iff_eq, Bool.not_eq_true', decide_eq_true_eq] at h5
  obtain ⟨⟨⟨⟨⟨g1, g2⟩, g3⟩, g4⟩, g5⟩, g6⟩ := h5
  simp [Cond.before, Cond.holds, Cond.value, h1, h2, h3, h4, g1, g2, g3, g4, g5, g6]
def isCode : Jvm.Cond → Bool
  | .code _ _ _ _ => true
  | _ => false
theorem all_split {L : List Jvm.Cond} {P : Jvm.Cond → Bool} (h1 : L.all (fun c => isCode c || P c) = true) (h2 : ∀ c ∈ L.filter isCode, P c = true) : L.all P = true := by
  refine List.all_eq_true.mpr fun c hc => ?_
  have h := List.all_eq_true.mp h1 c hc
  rcases Bool.eq_false_or_eq_true (isCode c) with hi | hi
  · exact h2 c (List.mem_filter.mpr ⟨hc, hi⟩)
  · simpa [hi] using h
set_option maxRecDepth 65536 in
theorem w_c0 : (Jvm.Cond.code x code maxLocals ret).before args0 about1 = true := code_word (m := ⟨1, 2⟩) (meth := k1m2) (c := k1c2) (by decide +kernel) rfl rfl rfl (by decide +kernel)
set_option maxRecDepth 65536 in
theorem w_c1 : (Jvm.Cond.code ({ cls := "com/example/kvasir/kvasir/PercentEncoding", name := "isUnreserved", desc := "(I)Z" } : Jvm.MethodName) prog_24_method_3_code (1 : Nat) (Option.some Jvm.ClassFile.FieldType.boolean)).before args0 about1 = true := code_word (m := ⟨2, 1⟩) (meth := k2m1) (c := k2c1) (by decide +kernel) rfl rfl rfl (by decide +kernel)
set_option maxRecDepth 65536 in
theorem w_c2 : (Jvm.Cond.code ({ cls := "com/example/kvasir/kvasir/PercentEncodingIsUnreservedPinLaw", name := "ref", desc := "(I)Z" } : Jvm.MethodName) method_2_code (1 : Nat) (Option.some Jvm.ClassFile.FieldType.boolean)).before args0 about1 = true := code_word (m := ⟨1, 1⟩) (meth := k1m1) (c := k1c1) (by decide +kernel) rfl rfl rfl (by decide +kernel)
def codes1 : List Jvm.Cond := [Jvm.Cond.code x code maxLocals ret, Jvm.Cond.code ({ cls := "com/example/kvasir/kvasir/PercentEncoding", name := "isUnreserved", desc := "(I)Z" } : Jvm.MethodName) prog_24_method_3_code (1 : Nat) (Option.some Jvm.ClassFile.FieldType.boolean), Jvm.Cond.code ({ cls := "com/example/kvasir/kvasir/PercentEncodingIsUnreservedPinLaw", name := "ref", desc := "(I)Z" } : Jvm.MethodName) method_2_code (1 : Nat) (Option.some Jvm.ClassFile.FieldType.boolean)]
set_option maxRecDepth 65536 in
theorem codes_eq : words1.filter isCode = codes1 := rfl
theorem w_codes : ∀ c ∈ words1.filter isCode, c.before args0 about1 = true := by
  rw [codes_eq]
  intro c hc
  simp only [codes1, List.mem_cons, List.not_mem_nil, or_false] at hc
  rcases hc with rfl | rfl | rfl
  · exact w_c0
  · exact w_c1
  · exact w_c2
set_option maxRecDepth 65536 in
theorem w_t1 : words1.all (fun c => isCode c || c.before args0 about1) = true := by decide +kernel
theorem w_tables : (allAtoms (Jvm.Cond.code x code maxLocals ret :: tables_1)).before args0 about1 = true := by
  rw [allAtoms_all]
  show words1.all (fun c => c.before args0 about1) = true
  refine all_split ?_ w_codes
  rw [w_t1]
set_option maxRecDepth 65536 in
theorem w_case : (Jvm.Cond.and given_1 narrow_1).before args0 about1 = true := by decide +kernel
theorem w_applies : (headSpec (Jvm.Cond.code x code maxLocals ret :: tables_1) room_1).applies x e0.platform about1 = true :=
  (Spec.applies_iff w_frames).mpr ⟨w_running, w_runnable, w_alone, w_named, w_hears, w_ripe, w_room, w_tables⟩
theorem atStart : AtStart classFile x code maxLocals ret World_1 tables_1 room_1 Calls_1 rest_1 Pre_1 launch0 p0 e0 about1 theMethod args0 below0 :=
  ⟨lists_1, trivial, launch0.admits_env _ _ _, launch0.least_env, fairChoices_fair.cas, fairChoices_fair.clock, w_frames, w_args, w_heap, w_applies, trivial, trivial, w_case⟩
end start1
theorem witness_1 : WitnessClaimed_1 := ⟨start1.p0, start1.e0, start1.about1, start1.theMethod, start1.args0, start1.below0, start1.atStart⟩
end Jvm.Pilot.@@N@@
