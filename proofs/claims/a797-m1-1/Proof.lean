import JvmDerived
import JvmDerived.Pilot.@@N@@Statement
import JvmDerived.Pilot.@@N@@Code
set_option linter.unusedVariables false
set_option linter.unusedSimpArgs false
namespace Jvm.Pilot.@@N@@
open Jvm Jvm.ClassFile Sem Op Lib Jvm.Free Jvm.Stand Jvm.LawKit Jvm.RoadKit Bundle Jvm.Pilot.@@N@@.Jvm.D
/-! 0. the run from a state on, said once: it ends, and how -/
def Go (p : Program) (e : Env) (below : List Frame) (s : State) (K N : Nat) (Q : Option Value → Heap → List Loc → Prop) (st : State) : Prop :=
  ∃ s₂ o, Steps p.tables e below st s₂ ∧ s₂.status = .running ∧ Ended s₂ below o ∧ ∃ v L, o = .returned v ∧ Q v s₂.heap L ∧ FrameEnd s o s₂ L K N
/-- what is known of the walk all along -/
def Ctx (p : Program) (s : State) (m : MethodId) (meth : Method) (c : Code) (Z : State) (bytes : ByteArray) (maxl : Nat) (own : String) (ret : Option FieldType) : Prop :=
  p.tables.exec = Jvm.exec ∧ Z.Warmed39 s.vm ∧ c.code = bytes ∧ c.maxLocals = maxl ∧ s.vm.findClass own = some m.cls ∧ meth.sig.returnType = ret ∧ meth.locks = false
/-- a value comes back, the heap is as it was -/
def QV (w : Value) (h0 : Heap) (n0 : Nat) (v : Option Value) (h : Heap) (L : List Loc) : Prop := v = some w ∧ Fr n0 L ∧ h = h0
section Own
variable {p : Program} {l : Launch} {e : Env} {R : Room} {s : State} {m : MethodId} {args : Array Value} {below : List Frame} {meth : Method} {c : Code} {T : State} {locs : List Loc} {cells slots K N : Nat} {Q : Option Value → Heap → List Loc → Prop} {st st' : State}
theorem Go.pre (h : ∀ t, Steps p.tables e below st' t → Steps p.tables e below st t) (k : Go p e below s K N Q st') : Go p e below s K N Q st := by
  obtain ⟨s₂, o, h1, h2⟩ := k; exact ⟨s₂, o, h _ h1, h2⟩
theorem Go.trans (h : Steps p.tables e below st st') (k : Go p e below s K N Q st') : Go p e below s K N Q st := by
  obtain ⟨s₂, o, h1, h2⟩ := k; exact ⟨s₂, o, h.trans h1, h2⟩
theorem Go.mono {Q' : Option Value → Heap → List Loc → Prop} (k : Go p e below s K N Q st) (h : ∀ v h L, Q v h L → Q' v h L) : Go p e below s K N Q' st := by
  obtain ⟨s₂, o, h1, h2, h3, v, L, h4, h5, h6⟩ := k; exact ⟨s₂, o, h1, h2, h3, v, L, h4, h _ _ _ h5, h6⟩
theorem Go.retN (X : Stand p l e R s m args below meth c T locs cells slots) (hx : p.tables.exec = Jvm.exec) (hlk : meth.locks = false) {pc : Nat} {Ls : Array Slot} {z z' : Int32} {t : FieldType} {rest : List Value} (hret : meth.sig.returnType = some t) (ht : t = .boolean ∨ t = .byte ∨ t = .char ∨ t = .short)
    (hd : decode c.code pc = .ok (.ireturn, 1)) (hz : nar t z = z') (hk : cells ≤ K) (hn : slots ≤ N) (hQ : Q (some (.int z')) T.heap locs) : Go p e below s K N Q (T.setTop (mkF m pc Ls (.int z :: rest))) := by
  subst hz
  obtain ⟨fs, hr, hrun, hended, hW, hsame⟩ := X.leave (v := some (.int (nar t z))) (fun h => by rw [hret] at h; cases h) hlk
  exact ⟨_, _, Jvm.RoadKit.retN X hx hret ht hd hr, hrun, hended, _, _, rfl, hQ, ⟨_, rfl⟩, hW, hsame.mono hk hn⟩
theorem Go.retV (X : Stand p l e R s m args below meth c T locs cells slots) (hx : p.tables.exec = Jvm.exec) (hlk : meth.locks = false) {pc : Nat} {Ls : Array Slot} {w : Value} {t : FieldType} {i : Instr} {rest : List Value} (hret : meth.sig.returnType = some t) (hnr : narrow t w = w)
    (hi : (i = .ireturn ∧ (t = .int ∨ t = .boolean ∨ t = .byte ∨ t = .char ∨ t = .short) ∧ ∃ z, w = .int z) ∨ (i = .lreturn ∧ t = .long ∧ ∃ z, w = .long z) ∨ (i = .dreturn ∧ t = .double ∧ ∃ z, w = .double z) ∨ (i = .freturn ∧ t = .float ∧ ∃ z, w = .float z) ∨ (i = .areturn ∧ t.isReference = true ∧ w.isRef = true))
    (hd : decode c.code pc = .ok (i, 1)) (hk : cells ≤ K) (hn : slots ≤ N) (hQ : Q (some w) T.heap locs) : Go p e below s K N Q (T.setTop (mkF m pc Ls (w :: rest))) := by
  obtain ⟨fs, hr, hrun, hended, hW, hsame⟩ := X.leave (v := some w) (fun h => by rw [hret] at h; cases h) hlk
  exact ⟨_, _, retOut X hx hret hnr hi hd hr, hrun, hended, _, _, rfl, hQ, ⟨_, rfl⟩, hW, hsame.mono hk hn⟩
theorem Go.ret0 (X : Stand p l e R s m args below meth c T locs cells slots) (hx : p.tables.exec = Jvm.exec) (hlk : meth.locks = false) {pc : Nat} {Ls : Array Slot} (hret : meth.sig.returnType = none)
    (hd : decode c.code pc = .ok (.return_, 1)) (hk : cells ≤ K) (hn : slots ≤ N) (hQ : Q none T.heap locs) : Go p e below s K N Q (T.setTop (mkF m pc Ls [])) := by
  obtain ⟨fs, hr, hrun, hended, hW, hsame⟩ := X.leave (v := none) (fun _ => rfl) hlk
  exact ⟨_, _, X.returnOut hx hret hd hr, hrun, hended, _, _, rfl, hQ, ⟨_, rfl⟩, hW, hsame.mono hk hn⟩
end Own

/-! body 1: PercentEncoding.isUnreserved -/
theorem d1_0 : decode prog_50_method_11_code 0 = .ok (.iload_n 0, 1) := by decide +kernel
theorem d1_1 : decode prog_50_method_11_code 1 = .ok (.bipush 65, 2) := by decide +kernel
theorem d1_3 : decode prog_50_method_11_code 3 = .ok (.if_icmp .lt 9, 3) := by decide +kernel
theorem d1_6 : decode prog_50_method_11_code 6 = .ok (.iload_n 0, 1) := by decide +kernel
theorem d1_7 : decode prog_50_method_11_code 7 = .ok (.bipush 90, 2) := by decide +kernel
theorem d1_9 : decode prog_50_method_11_code 9 = .ok (.if_icmp .le 51, 3) := by decide +kernel
theorem d1_12 : decode prog_50_method_11_code 12 = .ok (.iload_n 0, 1) := by decide +kernel
theorem d1_13 : decode prog_50_method_11_code 13 = .ok (.bipush 97, 2) := by decide +kernel
theorem d1_15 : decode prog_50_method_11_code 15 = .ok (.if_icmp .lt 9, 3) := by decide +kernel
theorem d1_18 : decode prog_50_method_11_code 18 = .ok (.iload_n 0, 1) := by decide +kernel
theorem d1_19 : decode prog_50_method_11_code 19 = .ok (.bipush 122, 2) := by decide +kernel
theorem d1_21 : decode prog_50_method_11_code 21 = .ok (.if_icmp .le 39, 3) := by decide +kernel
theorem d1_24 : decode prog_50_method_11_code 24 = .ok (.iload_n 0, 1) := by decide +kernel
theorem d1_25 : decode prog_50_method_11_code 25 = .ok (.bipush 48, 2) := by decide +kernel
theorem d1_27 : decode prog_50_method_11_code 27 = .ok (.if_icmp .lt 9, 3) := by decide +kernel
theorem d1_30 : decode prog_50_method_11_code 30 = .ok (.iload_n 0, 1) := by decide +kernel
theorem d1_31 : decode prog_50_method_11_code 31 = .ok (.bipush 57, 2) := by decide +kernel
theorem d1_33 : decode prog_50_method_11_code 33 = .ok (.if_icmp .le 27, 3) := by decide +kernel
theorem d1_36 : decode prog_50_method_11_code 36 = .ok (.iload_n 0, 1) := by decide +kernel
theorem d1_37 : decode prog_50_method_11_code 37 = .ok (.bipush 45, 2) := by decide +kernel
theorem d1_39 : decode prog_50_method_11_code 39 = .ok (.if_icmp .eq 21, 3) := by decide +kernel
theorem d1_42 : decode prog_50_method_11_code 42 = .ok (.iload_n 0, 1) := by decide +kernel
theorem d1_43 : decode prog_50_method_11_code 43 = .ok (.bipush 46, 2) := by decide +kernel
theorem d1_45 : decode prog_50_method_11_code 45 = .ok (.if_icmp .eq 15, 3) := by decide +kernel
theorem d1_48 : decode prog_50_method_11_code 48 = .ok (.iload_n 0, 1) := by decide +kernel
theorem d1_49 : decode prog_50_method_11_code 49 = .ok (.bipush 95, 2) := by decide +kernel
theorem d1_51 : decode prog_50_method_11_code 51 = .ok (.if_icmp .eq 9, 3) := by decide +kernel
theorem d1_54 : decode prog_50_method_11_code 54 = .ok (.iload_n 0, 1) := by decide +kernel
theorem d1_55 : decode prog_50_method_11_code 55 = .ok (.bipush 126, 2) := by decide +kernel
theorem d1_57 : decode prog_50_method_11_code 57 = .ok (.if_icmp .ne 7, 3) := by decide +kernel
theorem d1_60 : decode prog_50_method_11_code 60 = .ok (.iconst 1, 1) := by decide +kernel
theorem d1_61 : decode prog_50_method_11_code 61 = .ok (.goto 4, 3) := by decide +kernel
theorem d1_64 : decode prog_50_method_11_code 64 = .ok (.iconst 0, 1) := by decide +kernel
theorem d1_65 : decode prog_50_method_11_code 65 = .ok (.ireturn, 1) := by decide +kernel
theorem pn_1 : plainName "com/example/araucaria/araucaria/names/PercentEncoding" = true := by first | (simp [plainName, overriddenIn]; done) | decide +kernel
theorem ef_1 (m : MethodId) (x0 : Int32) : entryFrame m #[(.int x0)] 1 = (mkF m 0 #[.val (.int x0)] []) := by first | (simp [entryFrame, mkF, argsToLocals, Value.category]; done) | rfl
def f1_65 (i0 : Int32) (t0 : Int32) : Int32 := (t0 &&& 1)
def f1_60 (i0 : Int32) : Int32 := f1_65 i0 (1 : Int32)
def f1_36 (i0 : Int32) : Int32 := (if i0 = (45 : Int32) then f1_60 i0 else (if i0 = (46 : Int32) then f1_60 i0 else (if i0 = (95 : Int32) then f1_60 i0 else (if i0 = (126 : Int32) then f1_60 i0 else f1_65 i0 (0 : Int32)))))
def f1_24 (i0 : Int32) : Int32 := (if i0 < (48 : Int32) then f1_36 i0 else (if (57 : Int32) < i0 then f1_36 i0 else f1_60 i0))
def f1_12 (i0 : Int32) : Int32 := (if i0 < (97 : Int32) then f1_24 i0 else (if (122 : Int32) < i0 then f1_24 i0 else f1_60 i0))
def f1_0 (i0 : Int32) : Int32 := (if i0 < (65 : Int32) then f1_12 i0 else (if (90 : Int32) < i0 then f1_12 i0 else f1_60 i0))
set_option maxRecDepth 65536 in
set_option maxHeartbeats 40000000 in
theorem b1_65 {p : Program} {l : Launch} {e : Env} {s : State} {m : MethodId} {args : Array Value} {below : List Frame} {meth : Method} {c : Code} {Z : State} {a0 : Array Value} {T : State} {locs : List Loc} {h0 : Heap} {n0 : Nat} (C : Ctx p s m meth c Z prog_50_method_11_code 1 "com/example/araucaria/araucaria/names/PercentEncoding" (some .boolean)) (hw : ∀ d ∈ tables_1, d.before a0 Z = true)
    (X : Stand p l e ({ frames := 0, cells := 0, slots := 0, locals := 0 } : Room) s m args below meth c T locs 0 0) (eT : T.heap = h0) (NL : Fr n0 locs) (i0 : Int32) (t0 : Int32) :
    Go p e below s 0 0 (QV (.int (f1_65 i0 t0)) h0 n0) (T.setTop (mkF m 65 #[.val (.int i0)] [(.int t0)])) := by
  obtain ⟨hx, hZ, hby, hml, hown, hrt, hlk⟩ := id C
  unfold f1_65
  exact Go.retN X hx hlk hrt (by simp) (hb hby d1_65) rfl (Nat.le_refl _) (Nat.le_refl _) ⟨rfl, NL, eT⟩
set_option maxRecDepth 65536 in
set_option maxHeartbeats 40000000 in
theorem b1_60 {p : Program} {l : Launch} {e : Env} {s : State} {m : MethodId} {args : Array Value} {below : List Frame} {meth : Method} {c : Code} {Z : State} {a0 : Array Value} {T : State} {locs : List Loc} {h0 : Heap} {n0 : Nat} (C : Ctx p s m meth c Z prog_50_method_11_code 1 "com/example/araucaria/araucaria/names/PercentEncoding" (some .boolean)) (hw : ∀ d ∈ tables_1, d.before a0 Z = true)
    (X : Stand p l e ({ frames := 0, cells := 0, slots := 0, locals := 0 } : Room) s m args below meth c T locs 0 0) (eT : T.heap = h0) (NL : Fr n0 locs) (i0 : Int32) :
    Go p e below s 0 0 (QV (.int (f1_60 i0)) h0 n0) (T.setTop (mkF m 60 #[.val (.int i0)] [])) := by
  obtain ⟨hx, hZ, hby, hml, hown, hrt, hlk⟩ := id C
  unfold f1_60
  refine Go.pre (st' := T.setTop (mkF m 65 #[.val (.int i0)] [(.int (1 : Int32))])) (fun target kt => ?_) ?_
  · show Steps p.tables e below (T.setTop (mkF m 60 #[.val (.int i0)] [])) _
    refine XS.iconst X.here hx rfl (hb hby d1_60) ?_
    show Steps p.tables e below (T.setTop (mkF m 61 #[.val (.int i0)] [(.int (1 : Int32))])) _
    refine XS.goto X.here hx rfl (pc0 := 61) (pc' := 65) rfl (hb hby d1_61) (by decide) (by decide) ?_
    exact kt
  exact b1_65 C hw X eT NL i0 (1 : Int32)
set_option maxRecDepth 65536 in
set_option maxHeartbeats 40000000 in
theorem b1_36 {p : Program} {l : Launch} {e : Env} {s : State} {m : MethodId} {args : Array Value} {below : List Frame} {meth : Method} {c : Code} {Z : State} {a0 : Array Value} {T : State} {locs : List Loc} {h0 : Heap} {n0 : Nat} (C : Ctx p s m meth c Z prog_50_method_11_code 1 "com/example/araucaria/araucaria/names/PercentEncoding" (some .boolean)) (hw : ∀ d ∈ tables_1, d.before a0 Z = true)
    (X : Stand p l e ({ frames := 0, cells := 0, slots := 0, locals := 0 } : Room) s m args below meth c T locs 0 0) (eT : T.heap = h0) (NL : Fr n0 locs) (i0 : Int32) :
    Go p e below s 0 0 (QV (.int (f1_36 i0)) h0 n0) (T.setTop (mkF m 36 #[.val (.int i0)] [])) := by
  obtain ⟨hx, hZ, hby, hml, hown, hrt, hlk⟩ := id C
  unfold f1_36
  refine Go.pre (st' := T.setTop (mkF m 39 #[.val (.int i0)] [(.int (45 : Int32)), (.int i0)])) (fun target kt => ?_) ?_
  · show Steps p.tables e below (T.setTop (mkF m 36 #[.val (.int i0)] [])) _
    refine XS.iloadN X.here hx rfl (hb hby d1_36) rfl ?_
    show Steps p.tables e below (T.setTop (mkF m 37 #[.val (.int i0)] [(.int i0)])) _
    refine XS.bipush X.here hx rfl (hb hby d1_37) ?_
    exact kt
  by_cases h39 : i0 = (45 : Int32)
  · rw [if_pos h39]
    refine Go.pre (st' := T.setTop (mkF m 60 #[.val (.int i0)] [])) (fun target kt => ?_) ?_
    · show Steps p.tables e below (T.setTop (mkF m 39 #[.val (.int i0)] [(.int (45 : Int32)), (.int i0)])) _
      refine XS.icmpYes X.here hx rfl (pc0 := 39) (pc' := 60) rfl (hb hby d1_39) rfl (teq h39).1 (by decide) (by decide) ?_
      exact kt
    exact b1_60 C hw X eT NL i0
  · rw [if_neg h39]
    refine Go.pre (st' := T.setTop (mkF m 42 #[.val (.int i0)] [])) (fun target kt => ?_) ?_
    · show Steps p.tables e below (T.setTop (mkF m 39 #[.val (.int i0)] [(.int (45 : Int32)), (.int i0)])) _
      refine XS.icmpNo X.here hx rfl (hb hby d1_39) rfl (feq h39).1 ?_
      exact kt
    refine Go.pre (st' := T.setTop (mkF m 45 #[.val (.int i0)] [(.int (46 : Int32)), (.int i0)])) (fun target kt => ?_) ?_
    · show Steps p.tables e below (T.setTop (mkF m 42 #[.val (.int i0)] [])) _
      refine XS.iloadN X.here hx rfl (hb hby d1_42) rfl ?_
      show Steps p.tables e below (T.setTop (mkF m 43 #[.val (.int i0)] [(.int i0)])) _
      refine XS.bipush X.here hx rfl (hb hby d1_43) ?_
      exact kt
    by_cases h45 : i0 = (46 : Int32)
    · rw [if_pos h45]
      refine Go.pre (st' := T.setTop (mkF m 60 #[.val (.int i0)] [])) (fun target kt => ?_) ?_
      · show Steps p.tables e below (T.setTop (mkF m 45 #[.val (.int i0)] [(.int (46 : Int32)), (.int i0)])) _
        refine XS.icmpYes X.here hx rfl (pc0 := 45) (pc' := 60) rfl (hb hby d1_45) rfl (teq h45).1 (by decide) (by decide) ?_
        exact kt
      exact b1_60 C hw X eT NL i0
    · rw [if_neg h45]
      refine Go.pre (st' := T.setTop (mkF m 48 #[.val (.int i0)] [])) (fun target kt => ?_) ?_
      · show Steps p.tables e below (T.setTop (mkF m 45 #[.val (.int i0)] [(.int (46 : Int32)), (.int i0)])) _
        refine XS.icmpNo X.here hx rfl (hb hby d1_45) rfl (feq h45).1 ?_
        exact kt
      refine Go.pre (st' := T.setTop (mkF m 51 #[.val (.int i0)] [(.int (95 : Int32)), (.int i0)])) (fun target kt => ?_) ?_
      · show Steps p.tables e below (T.setTop (mkF m 48 #[.val (.int i0)] [])) _
        refine XS.iloadN X.here hx rfl (hb hby d1_48) rfl ?_
        show Steps p.tables e below (T.setTop (mkF m 49 #[.val (.int i0)] [(.int i0)])) _
        refine XS.bipush X.here hx rfl (hb hby d1_49) ?_
        exact kt
      by_cases h51 : i0 = (95 : Int32)
      · rw [if_pos h51]
        refine Go.pre (st' := T.setTop (mkF m 60 #[.val (.int i0)] [])) (fun target kt => ?_) ?_
        · show Steps p.tables e below (T.setTop (mkF m 51 #[.val (.int i0)] [(.int (95 : Int32)), (.int i0)])) _
          refine XS.icmpYes X.here hx rfl (pc0 := 51) (pc' := 60) rfl (hb hby d1_51) rfl (teq h51).1 (by decide) (by decide) ?_
          exact kt
        exact b1_60 C hw X eT NL i0
      · rw [if_neg h51]
        refine Go.pre (st' := T.setTop (mkF m 54 #[.val (.int i0)] [])) (fun target kt => ?_) ?_
        · show Steps p.tables e below (T.setTop (mkF m 51 #[.val (.int i0)] [(.int (95 : Int32)), (.int i0)])) _
          refine XS.icmpNo X.here hx rfl (hb hby d1_51) rfl (feq h51).1 ?_
          exact kt
        refine Go.pre (st' := T.setTop (mkF m 57 #[.val (.int i0)] [(.int (126 : Int32)), (.int i0)])) (fun target kt => ?_) ?_
        · show Steps p.tables e below (T.setTop (mkF m 54 #[.val (.int i0)] [])) _
          refine XS.iloadN X.here hx rfl (hb hby d1_54) rfl ?_
          show Steps p.tables e below (T.setTop (mkF m 55 #[.val (.int i0)] [(.int i0)])) _
          refine XS.bipush X.here hx rfl (hb hby d1_55) ?_
          exact kt
        by_cases h57 : i0 = (126 : Int32)
        · rw [if_pos h57]
          refine Go.pre (st' := T.setTop (mkF m 60 #[.val (.int i0)] [])) (fun target kt => ?_) ?_
          · show Steps p.tables e below (T.setTop (mkF m 57 #[.val (.int i0)] [(.int (126 : Int32)), (.int i0)])) _
            refine XS.icmpNo X.here hx rfl (hb hby d1_57) rfl (teq h57).2 ?_
            exact kt
          exact b1_60 C hw X eT NL i0
        · rw [if_neg h57]
          refine Go.pre (st' := T.setTop (mkF m 64 #[.val (.int i0)] [])) (fun target kt => ?_) ?_
          · show Steps p.tables e below (T.setTop (mkF m 57 #[.val (.int i0)] [(.int (126 : Int32)), (.int i0)])) _
            refine XS.icmpYes X.here hx rfl (pc0 := 57) (pc' := 64) rfl (hb hby d1_57) rfl (feq h57).2 (by decide) (by decide) ?_
            exact kt
          refine Go.pre (st' := T.setTop (mkF m 65 #[.val (.int i0)] [(.int (0 : Int32))])) (fun target kt => ?_) ?_
          · show Steps p.tables e below (T.setTop (mkF m 64 #[.val (.int i0)] [])) _
            refine XS.iconst X.here hx rfl (hb hby d1_64) ?_
            exact kt
          exact b1_65 C hw X eT NL i0 (0 : Int32)
set_option maxRecDepth 65536 in
set_option maxHeartbeats 40000000 in
theorem b1_24 {p : Program} {l : Launch} {e : Env} {s : State} {m : MethodId} {args : Array Value} {below : List Frame} {meth : Method} {c : Code} {Z : State} {a0 : Array Value} {T : State} {locs : List Loc} {h0 : Heap} {n0 : Nat} (C : Ctx p s m meth c Z prog_50_method_11_code 1 "com/example/araucaria/araucaria/names/PercentEncoding" (some .boolean)) (hw : ∀ d ∈ tables_1, d.before a0 Z = true)
    (X : Stand p l e ({ frames := 0, cells := 0, slots := 0, locals := 0 } : Room) s m args below meth c T locs 0 0) (eT : T.heap = h0) (NL : Fr n0 locs) (i0 : Int32) :
    Go p e below s 0 0 (QV (.int (f1_24 i0)) h0 n0) (T.setTop (mkF m 24 #[.val (.int i0)] [])) := by
  obtain ⟨hx, hZ, hby, hml, hown, hrt, hlk⟩ := id C
  unfold f1_24
  refine Go.pre (st' := T.setTop (mkF m 27 #[.val (.int i0)] [(.int (48 : Int32)), (.int i0)])) (fun target kt => ?_) ?_
  · show Steps p.tables e below (T.setTop (mkF m 24 #[.val (.int i0)] [])) _
    refine XS.iloadN X.here hx rfl (hb hby d1_24) rfl ?_
    show Steps p.tables e below (T.setTop (mkF m 25 #[.val (.int i0)] [(.int i0)])) _
    refine XS.bipush X.here hx rfl (hb hby d1_25) ?_
    exact kt
  by_cases h27 : i0 < (48 : Int32)
  · rw [if_pos h27]
    refine Go.pre (st' := T.setTop (mkF m 36 #[.val (.int i0)] [])) (fun target kt => ?_) ?_
    · show Steps p.tables e below (T.setTop (mkF m 27 #[.val (.int i0)] [(.int (48 : Int32)), (.int i0)])) _
      refine XS.icmpYes X.here hx rfl (pc0 := 27) (pc' := 36) rfl (hb hby d1_27) rfl (tlt h27).1 (by decide) (by decide) ?_
      exact kt
    exact b1_36 C hw X eT NL i0
  · rw [if_neg h27]
    refine Go.pre (st' := T.setTop (mkF m 30 #[.val (.int i0)] [])) (fun target kt => ?_) ?_
    · show Steps p.tables e below (T.setTop (mkF m 27 #[.val (.int i0)] [(.int (48 : Int32)), (.int i0)])) _
      refine XS.icmpNo X.here hx rfl (hb hby d1_27) rfl (flt h27).1 ?_
      exact kt
    refine Go.pre (st' := T.setTop (mkF m 33 #[.val (.int i0)] [(.int (57 : Int32)), (.int i0)])) (fun target kt => ?_) ?_
    · show Steps p.tables e below (T.setTop (mkF m 30 #[.val (.int i0)] [])) _
      refine XS.iloadN X.here hx rfl (hb hby d1_30) rfl ?_
      show Steps p.tables e below (T.setTop (mkF m 31 #[.val (.int i0)] [(.int i0)])) _
      refine XS.bipush X.here hx rfl (hb hby d1_31) ?_
      exact kt
    by_cases h33 : (57 : Int32) < i0
    · rw [if_pos h33]
      refine Go.pre (st' := T.setTop (mkF m 36 #[.val (.int i0)] [])) (fun target kt => ?_) ?_
      · show Steps p.tables e below (T.setTop (mkF m 33 #[.val (.int i0)] [(.int (57 : Int32)), (.int i0)])) _
        refine XS.icmpNo X.here hx rfl (hb hby d1_33) rfl (tlt h33).2.2.2 ?_
        exact kt
      exact b1_36 C hw X eT NL i0
    · rw [if_neg h33]
      refine Go.pre (st' := T.setTop (mkF m 60 #[.val (.int i0)] [])) (fun target kt => ?_) ?_
      · show Steps p.tables e below (T.setTop (mkF m 33 #[.val (.int i0)] [(.int (57 : Int32)), (.int i0)])) _
        refine XS.icmpYes X.here hx rfl (pc0 := 33) (pc' := 60) rfl (hb hby d1_33) rfl (flt h33).2.2.2 (by decide) (by decide) ?_
        exact kt
      exact b1_60 C hw X eT NL i0
set_option maxRecDepth 65536 in
set_option maxHeartbeats 40000000 in
theorem b1_12 {p : Program} {l : Launch} {e : Env} {s : State} {m : MethodId} {args : Array Value} {below : List Frame} {meth : Method} {c : Code} {Z : State} {a0 : Array Value} {T : State} {locs : List Loc} {h0 : Heap} {n0 : Nat} (C : Ctx p s m meth c Z prog_50_method_11_code 1 "com/example/araucaria/araucaria/names/PercentEncoding" (some .boolean)) (hw : ∀ d ∈ tables_1, d.before a0 Z = true)
    (X : Stand p l e ({ frames := 0, cells := 0, slots := 0, locals := 0 } : Room) s m args below meth c T locs 0 0) (eT : T.heap = h0) (NL : Fr n0 locs) (i0 : Int32) :
    Go p e below s 0 0 (QV (.int (f1_12 i0)) h0 n0) (T.setTop (mkF m 12 #[.val (.int i0)] [])) := by
  obtain ⟨hx, hZ, hby, hml, hown, hrt, hlk⟩ := id C
  unfold f1_12
  refine Go.pre (st' := T.setTop (mkF m 15 #[.val (.int i0)] [(.int (97 : Int32)), (.int i0)])) (fun target kt => ?_) ?_
  · show Steps p.tables e below (T.setTop (mkF m 12 #[.val (.int i0)] [])) _
    refine XS.iloadN X.here hx rfl (hb hby d1_12) rfl ?_
    show Steps p.tables e below (T.setTop (mkF m 13 #[.val (.int i0)] [(.int i0)])) _
    refine XS.bipush X.here hx rfl (hb hby d1_13) ?_
    exact kt
  by_cases h15 : i0 < (97 : Int32)
  · rw [if_pos h15]
    refine Go.pre (st' := T.setTop (mkF m 24 #[.val (.int i0)] [])) (fun target kt => ?_) ?_
    · show Steps p.tables e below (T.setTop (mkF m 15 #[.val (.int i0)] [(.int (97 : Int32)), (.int i0)])) _
      refine XS.icmpYes X.here hx rfl (pc0 := 15) (pc' := 24) rfl (hb hby d1_15) rfl (tlt h15).1 (by decide) (by decide) ?_
      exact kt
    exact b1_24 C hw X eT NL i0
  · rw [if_neg h15]
    refine Go.pre (st' := T.setTop (mkF m 18 #[.val (.int i0)] [])) (fun target kt => ?_) ?_
    · show Steps p.tables e below (T.setTop (mkF m 15 #[.val (.int i0)] [(.int (97 : Int32)), (.int i0)])) _
      refine XS.icmpNo X.here hx rfl (hb hby d1_15) rfl (flt h15).1 ?_
      exact kt
    refine Go.pre (st' := T.setTop (mkF m 21 #[.val (.int i0)] [(.int (122 : Int32)), (.int i0)])) (fun target kt => ?_) ?_
    · show Steps p.tables e below (T.setTop (mkF m 18 #[.val (.int i0)] [])) _
      refine XS.iloadN X.here hx rfl (hb hby d1_18) rfl ?_
      show Steps p.tables e below (T.setTop (mkF m 19 #[.val (.int i0)] [(.int i0)])) _
      refine XS.bipush X.here hx rfl (hb hby d1_19) ?_
      exact kt
    by_cases h21 : (122 : Int32) < i0
    · rw [if_pos h21]
      refine Go.pre (st' := T.setTop (mkF m 24 #[.val (.int i0)] [])) (fun target kt => ?_) ?_
      · show Steps p.tables e below (T.setTop (mkF m 21 #[.val (.int i0)] [(.int (122 : Int32)), (.int i0)])) _
        refine XS.icmpNo X.here hx rfl (hb hby d1_21) rfl (tlt h21).2.2.2 ?_
        exact kt
      exact b1_24 C hw X eT NL i0
    · rw [if_neg h21]
      refine Go.pre (st' := T.setTop (mkF m 60 #[.val (.int i0)] [])) (fun target kt => ?_) ?_
      · show Steps p.tables e below (T.setTop (mkF m 21 #[.val (.int i0)] [(.int (122 : Int32)), (.int i0)])) _
        refine XS.icmpYes X.here hx rfl (pc0 := 21) (pc' := 60) rfl (hb hby d1_21) rfl (flt h21).2.2.2 (by decide) (by decide) ?_
        exact kt
      exact b1_60 C hw X eT NL i0
set_option maxRecDepth 65536 in
set_option maxHeartbeats 40000000 in
theorem b1_0 {p : Program} {l : Launch} {e : Env} {s : State} {m : MethodId} {args : Array Value} {below : List Frame} {meth : Method} {c : Code} {Z : State} {a0 : Array Value} {T : State} {locs : List Loc} {h0 : Heap} {n0 : Nat} (C : Ctx p s m meth c Z prog_50_method_11_code 1 "com/example/araucaria/araucaria/names/PercentEncoding" (some .boolean)) (hw : ∀ d ∈ tables_1, d.before a0 Z = true)
    (X : Stand p l e ({ frames := 0, cells := 0, slots := 0, locals := 0 } : Room) s m args below meth c T locs 0 0) (eT : T.heap = h0) (NL : Fr n0 locs) (i0 : Int32) :
    Go p e below s 0 0 (QV (.int (f1_0 i0)) h0 n0) (T.setTop (mkF m 0 #[.val (.int i0)] [])) := by
  obtain ⟨hx, hZ, hby, hml, hown, hrt, hlk⟩ := id C
  unfold f1_0
  refine Go.pre (st' := T.setTop (mkF m 3 #[.val (.int i0)] [(.int (65 : Int32)), (.int i0)])) (fun target kt => ?_) ?_
  · show Steps p.tables e below (T.setTop (mkF m 0 #[.val (.int i0)] [])) _
    refine XS.iloadN X.here hx rfl (hb hby d1_0) rfl ?_
    show Steps p.tables e below (T.setTop (mkF m 1 #[.val (.int i0)] [(.int i0)])) _
    refine XS.bipush X.here hx rfl (hb hby d1_1) ?_
    exact kt
  by_cases h3 : i0 < (65 : Int32)
  · rw [if_pos h3]
    refine Go.pre (st' := T.setTop (mkF m 12 #[.val (.int i0)] [])) (fun target kt => ?_) ?_
    · show Steps p.tables e below (T.setTop (mkF m 3 #[.val (.int i0)] [(.int (65 : Int32)), (.int i0)])) _
      refine XS.icmpYes X.here hx rfl (pc0 := 3) (pc' := 12) rfl (hb hby d1_3) rfl (tlt h3).1 (by decide) (by decide) ?_
      exact kt
    exact b1_12 C hw X eT NL i0
  · rw [if_neg h3]
    refine Go.pre (st' := T.setTop (mkF m 6 #[.val (.int i0)] [])) (fun target kt => ?_) ?_
    · show Steps p.tables e below (T.setTop (mkF m 3 #[.val (.int i0)] [(.int (65 : Int32)), (.int i0)])) _
      refine XS.icmpNo X.here hx rfl (hb hby d1_3) rfl (flt h3).1 ?_
      exact kt
    refine Go.pre (st' := T.setTop (mkF m 9 #[.val (.int i0)] [(.int (90 : Int32)), (.int i0)])) (fun target kt => ?_) ?_
    · show Steps p.tables e below (T.setTop (mkF m 6 #[.val (.int i0)] [])) _
      refine XS.iloadN X.here hx rfl (hb hby d1_6) rfl ?_
      show Steps p.tables e below (T.setTop (mkF m 7 #[.val (.int i0)] [(.int i0)])) _
      refine XS.bipush X.here hx rfl (hb hby d1_7) ?_
      exact kt
    by_cases h9 : (90 : Int32) < i0
    · rw [if_pos h9]
      refine Go.pre (st' := T.setTop (mkF m 12 #[.val (.int i0)] [])) (fun target kt => ?_) ?_
      · show Steps p.tables e below (T.setTop (mkF m 9 #[.val (.int i0)] [(.int (90 : Int32)), (.int i0)])) _
        refine XS.icmpNo X.here hx rfl (hb hby d1_9) rfl (tlt h9).2.2.2 ?_
        exact kt
      exact b1_12 C hw X eT NL i0
    · rw [if_neg h9]
      refine Go.pre (st' := T.setTop (mkF m 60 #[.val (.int i0)] [])) (fun target kt => ?_) ?_
      · show Steps p.tables e below (T.setTop (mkF m 9 #[.val (.int i0)] [(.int (90 : Int32)), (.int i0)])) _
        refine XS.icmpYes X.here hx rfl (pc0 := 9) (pc' := 60) rfl (hb hby d1_9) rfl (flt h9).2.2.2 (by decide) (by decide) ?_
        exact kt
      exact b1_60 C hw X eT NL i0
set_option maxRecDepth 65536 in
set_option maxHeartbeats 40000000 in
theorem rm1 (l : Launch) (Z : State) (a0 : Array Value) (hw : ∀ d ∈ tables_1, d.before a0 Z = true) (ws : List Jvm.Cond) (x0 : Int32) (h0 : Heap) (n0 : Nat) :
    MetFree l (⟨"com/example/araucaria/araucaria/names/PercentEncoding", "isUnreserved", "(I)Z"⟩ : MethodName) (head1 (Jvm.Cond.code (⟨"com/example/araucaria/araucaria/names/PercentEncoding", "isUnreserved", "(I)Z"⟩ : MethodName) prog_50_method_11_code 1 (some .boolean) :: ws) ({ frames := 0, cells := 0, slots := 0, locals := 0 } : Room)) (fun a U => a = #[(.int x0)] ∧ Z.Warmed39 U.vm ∧ U.heap = h0) (fun _ _ _ _ _ => True) (fun _ U o U' => ∃ v L, o = .returned v ∧ QV (.int (f1_0 x0)) h0 n0 v U'.heap L ∧ FrameEnd U o U' L ({ frames := 0, cells := 0, slots := 0, locals := 0 } : Room).cells ({ frames := 0, cells := 0, slots := 0, locals := 0 } : Room).slots) := by
  refine MetFree.of_bodySF (plainFor_of_name pn_1) hisR ?_
  intro p e s m args below meth c s₁ Bd hml0 hP hK
  obtain ⟨rfl, hZ, hh⟩ := hP
  have C : Ctx p s m meth c Z prog_50_method_11_code 1 "com/example/araucaria/araucaria/names/PercentEncoding" (some .boolean) := ⟨Bd.exec, hZ, Bd.bytes, hml0, findClass_of_methodNamed Bd.named, Bd.returns, Bd.notSynchronized⟩
  have X0 : Stand p l e ({ frames := 0, cells := 0, slots := 0, locals := 0 } : Room) s m #[(.int x0)] below meth c s₁ [] 0 0 := Stand.of_body Bd
  have e0 : s₁.heap = h0 := by rw [← hh, Bd.state]; rfl
  rw [ef_1 m x0]
  exact b1_0 C hw X0 e0 (Fr.nil n0) x0
/-! body 2: PercentEncodingIsUnreservedPinLaw.reference -/
theorem d2_0 : decode method_2_code 0 = .ok (.ldc2_w 7, 3) := by decide +kernel
theorem d2_3 : decode method_2_code 3 = .ok (.lstore_n 1, 1) := by decide +kernel
theorem d2_4 : decode method_2_code 4 = .ok (.ldc2_w 9, 3) := by decide +kernel
theorem d2_7 : decode method_2_code 7 = .ok (.lstore_n 3, 1) := by decide +kernel
theorem d2_8 : decode method_2_code 8 = .ok (.iload_n 0, 1) := by decide +kernel
theorem d2_9 : decode method_2_code 9 = .ok (.ifCond .lt 10, 3) := by decide +kernel
theorem d2_12 : decode method_2_code 12 = .ok (.iload_n 0, 1) := by decide +kernel
theorem d2_13 : decode method_2_code 13 = .ok (.sipush 128, 3) := by decide +kernel
theorem d2_16 : decode method_2_code 16 = .ok (.if_icmp .lt 9, 3) := by decide +kernel
theorem d2_19 : decode method_2_code 19 = .ok (.iconst 0, 1) := by decide +kernel
theorem d2_20 : decode method_2_code 20 = .ok (.istore 5, 2) := by decide +kernel
theorem d2_22 : decode method_2_code 22 = .ok (.goto 49, 3) := by decide +kernel
theorem d2_25 : decode method_2_code 25 = .ok (.iload_n 0, 1) := by decide +kernel
theorem d2_26 : decode method_2_code 26 = .ok (.bipush 64, 2) := by decide +kernel
theorem d2_28 : decode method_2_code 28 = .ok (.if_icmp .ge 23, 3) := by decide +kernel
theorem d2_31 : decode method_2_code 31 = .ok (.lload_n 1, 1) := by decide +kernel
theorem d2_32 : decode method_2_code 32 = .ok (.iload_n 0, 1) := by decide +kernel
theorem d2_33 : decode method_2_code 33 = .ok (.lushr, 1) := by decide +kernel
theorem d2_34 : decode method_2_code 34 = .ok (.lconst 1, 1) := by decide +kernel
theorem d2_35 : decode method_2_code 35 = .ok (.land, 1) := by decide +kernel
theorem d2_36 : decode method_2_code 36 = .ok (.lconst 0, 1) := by decide +kernel
theorem d2_37 : decode method_2_code 37 = .ok (.lcmp, 1) := by decide +kernel
theorem d2_38 : decode method_2_code 38 = .ok (.ifCond .eq 7, 3) := by decide +kernel
theorem d2_41 : decode method_2_code 41 = .ok (.iconst 1, 1) := by decide +kernel
theorem d2_42 : decode method_2_code 42 = .ok (.goto 4, 3) := by decide +kernel
theorem d2_45 : decode method_2_code 45 = .ok (.iconst 0, 1) := by decide +kernel
theorem d2_46 : decode method_2_code 46 = .ok (.istore 5, 2) := by decide +kernel
theorem d2_48 : decode method_2_code 48 = .ok (.goto 23, 3) := by decide +kernel
theorem d2_51 : decode method_2_code 51 = .ok (.lload_n 3, 1) := by decide +kernel
theorem d2_52 : decode method_2_code 52 = .ok (.iload_n 0, 1) := by decide +kernel
theorem d2_53 : decode method_2_code 53 = .ok (.bipush 64, 2) := by decide +kernel
theorem d2_55 : decode method_2_code 55 = .ok (.isub, 1) := by decide +kernel
theorem d2_56 : decode method_2_code 56 = .ok (.lushr, 1) := by decide +kernel
theorem d2_57 : decode method_2_code 57 = .ok (.lconst 1, 1) := by decide +kernel
theorem d2_58 : decode method_2_code 58 = .ok (.land, 1) := by decide +kernel
theorem d2_59 : decode method_2_code 59 = .ok (.lconst 0, 1) := by decide +kernel
theorem d2_60 : decode method_2_code 60 = .ok (.lcmp, 1) := by decide +kernel
theorem d2_61 : decode method_2_code 61 = .ok (.ifCond .eq 7, 3) := by decide +kernel
theorem d2_64 : decode method_2_code 64 = .ok (.iconst 1, 1) := by decide +kernel
theorem d2_65 : decode method_2_code 65 = .ok (.goto 4, 3) := by decide +kernel
theorem d2_68 : decode method_2_code 68 = .ok (.iconst 0, 1) := by decide +kernel
theorem d2_69 : decode method_2_code 69 = .ok (.istore 5, 2) := by decide +kernel
theorem d2_71 : decode method_2_code 71 = .ok (.iload 5, 2) := by decide +kernel
theorem d2_73 : decode method_2_code 73 = .ok (.ireturn, 1) := by decide +kernel
theorem pn_2 : plainName "com/example/araucaria/araucaria/names/PercentEncodingIsUnreservedPinLaw" = true := by first | (simp [plainName, overriddenIn]; done) | decide +kernel
theorem ef_2 (m : MethodId) (x0 : Int32) : entryFrame m #[(.int x0)] 6 = (mkF m 0 #[.val (.int x0), .unset, .unset, .unset, .unset, .unset] []) := by first | (simp [entryFrame, mkF, argsToLocals, Value.category]; done) | rfl
def f2_71 (i0 : Int32) (i5 : Int32) : Int32 := (i5 &&& 1)
def f2_19 (i0 : Int32) : Int32 := f2_71 i0 (0 : Int32)
def f2_69 (i0 : Int32) (t0 : Int32) : Int32 := f2_71 i0 t0
def f2_46 (i0 : Int32) (t0 : Int32) : Int32 := f2_71 i0 t0
def f2_0 (i0 : Int32) : Int32 := (if i0 < (0 : Int32) then f2_19 i0 else (if i0 < (128 : Int32) then (if i0 < (64 : Int32) then (if ((((288054454291267584 : Int64).toUInt64 >>> (i0 &&& 0x3f).toInt64.toUInt64).toInt64) &&& (1 : Int64)) = (0 : Int64) then f2_46 i0 (0 : Int32) else f2_46 i0 (1 : Int32)) else (if ((((5188146764422578174 : Int64).toUInt64 >>> ((i0 - (64 : Int32)) &&& 0x3f).toInt64.toUInt64).toInt64) &&& (1 : Int64)) = (0 : Int64) then f2_69 i0 (0 : Int32) else f2_69 i0 (1 : Int32))) else f2_19 i0))
set_option maxRecDepth 65536 in
set_option maxHeartbeats 40000000 in
theorem b2_71 {p : Program} {l : Launch} {e : Env} {s : State} {m : MethodId} {args : Array Value} {below : List Frame} {meth : Method} {c : Code} {Z : State} {a0 : Array Value} {T : State} {locs : List Loc} {h0 : Heap} {n0 : Nat} (C : Ctx p s m meth c Z method_2_code 6 "com/example/araucaria/araucaria/names/PercentEncodingIsUnreservedPinLaw" (some .boolean)) (hw : ∀ d ∈ tables_1, d.before a0 Z = true)
    (X : Stand p l e ({ frames := 0, cells := 0, slots := 0, locals := 0 } : Room) s m args below meth c T locs 0 0) (eT : T.heap = h0) (NL : Fr n0 locs) (i0 : Int32) (i5 : Int32) :
    Go p e below s 0 0 (QV (.int (f2_71 i0 i5)) h0 n0) (T.setTop (mkF m 71 #[.val (.int i0), .val (.long (288054454291267584 : Int64)), .second, .val (.long (5188146764422578174 : Int64)), .second, .val (.int i5)] [])) := by
  obtain ⟨hx, hZ, hby, hml, hown, hrt, hlk⟩ := id C
  unfold f2_71
  refine Go.pre (st' := T.setTop (mkF m 73 #[.val (.int i0), .val (.long (288054454291267584 : Int64)), .second, .val (.long (5188146764422578174 : Int64)), .second, .val (.int i5)] [(.int i5)])) (fun target kt => ?_) ?_
  · show Steps p.tables e below (T.setTop (mkF m 71 #[.val (.int i0), .val (.long (288054454291267584 : Int64)), .second, .val (.long (5188146764422578174 : Int64)), .second, .val (.int i5)] [])) _
    refine XS.iload X.here hx rfl (hb hby d2_71) rfl ?_
    exact kt
  exact Go.retN X hx hlk hrt (by simp) (hb hby d2_73) rfl (Nat.le_refl _) (Nat.le_refl _) ⟨rfl, NL, eT⟩
set_option maxRecDepth 65536 in
set_option maxHeartbeats 40000000 in
theorem b2_19 {p : Program} {l : Launch} {e : Env} {s : State} {m : MethodId} {args : Array Value} {below : List Frame} {meth : Method} {c : Code} {Z : State} {a0 : Array Value} {T : State} {locs : List Loc} {h0 : Heap} {n0 : Nat} (C : Ctx p s m meth c Z method_2_code 6 "com/example/araucaria/araucaria/names/PercentEncodingIsUnreservedPinLaw" (some .boolean)) (hw : ∀ d ∈ tables_1, d.before a0 Z = true)
    (X : Stand p l e ({ frames := 0, cells := 0, slots := 0, locals := 0 } : Room) s m args below meth c T locs 0 0) (eT : T.heap = h0) (NL : Fr n0 locs) (i0 : Int32) :
    Go p e below s 0 0 (QV (.int (f2_19 i0)) h0 n0) (T.setTop (mkF m 19 #[.val (.int i0), .val (.long (288054454291267584 : Int64)), .second, .val (.long (5188146764422578174 : Int64)), .second, .unset] [])) := by
  obtain ⟨hx, hZ, hby, hml, hown, hrt, hlk⟩ := id C
  unfold f2_19
  refine Go.pre (st' := T.setTop (mkF m 71 #[.val (.int i0), .val (.long (288054454291267584 : Int64)), .second, .val (.long (5188146764422578174 : Int64)), .second, .val (.int (0 : Int32))] [])) (fun target kt => ?_) ?_
  · show Steps p.tables e below (T.setTop (mkF m 19 #[.val (.int i0), .val (.long (288054454291267584 : Int64)), .second, .val (.long (5188146764422578174 : Int64)), .second, .unset] [])) _
    refine XS.iconst X.here hx rfl (hb hby d2_19) ?_
    show Steps p.tables e below (T.setTop (mkF m 20 #[.val (.int i0), .val (.long (288054454291267584 : Int64)), .second, .val (.long (5188146764422578174 : Int64)), .second, .unset] [(.int (0 : Int32))])) _
    refine XS.istore X.here hx rfl (hb hby d2_20) rfl (l' := #[.val (.int i0), .val (.long (288054454291267584 : Int64)), .second, .val (.long (5188146764422578174 : Int64)), .second, .val (.int (0 : Int32))]) rfl ?_
    show Steps p.tables e below (T.setTop (mkF m 22 #[.val (.int i0), .val (.long (288054454291267584 : Int64)), .second, .val (.long (5188146764422578174 : Int64)), .second, .val (.int (0 : Int32))] [])) _
    refine XS.goto X.here hx rfl (pc0 := 22) (pc' := 71) rfl (hb hby d2_22) (by decide) (by decide) ?_
    exact kt
  exact b2_71 C hw X eT NL i0 (0 : Int32)
set_option maxRecDepth 65536 in
set_option maxHeartbeats 40000000 in
theorem b2_69 {p : Program} {l : Launch} {e : Env} {s : State} {m : MethodId} {args : Array Value} {below : List Frame} {meth : Method} {c : Code} {Z : State} {a0 : Array Value} {T : State} {locs : List Loc} {h0 : Heap} {n0 : Nat} (C : Ctx p s m meth c Z method_2_code 6 "com/example/araucaria/araucaria/names/PercentEncodingIsUnreservedPinLaw" (some .boolean)) (hw : ∀ d ∈ tables_1, d.before a0 Z = true)
    (X : Stand p l e ({ frames := 0, cells := 0, slots := 0, locals := 0 } : Room) s m args below meth c T locs 0 0) (eT : T.heap = h0) (NL : Fr n0 locs) (i0 : Int32) (t0 : Int32) :
    Go p e below s 0 0 (QV (.int (f2_69 i0 t0)) h0 n0) (T.setTop (mkF m 69 #[.val (.int i0), .val (.long (288054454291267584 : Int64)), .second, .val (.long (5188146764422578174 : Int64)), .second, .unset] [(.int t0)])) := by
  obtain ⟨hx, hZ, hby, hml, hown, hrt, hlk⟩ := id C
  unfold f2_69
  refine Go.pre (st' := T.setTop (mkF m 71 #[.val (.int i0), .val (.long (288054454291267584 : Int64)), .second, .val (.long (5188146764422578174 : Int64)), .second, .val (.int t0)] [])) (fun target kt => ?_) ?_
  · show Steps p.tables e below (T.setTop (mkF m 69 #[.val (.int i0), .val (.long (288054454291267584 : Int64)), .second, .val (.long (5188146764422578174 : Int64)), .second, .unset] [(.int t0)])) _
    refine XS.istore X.here hx rfl (hb hby d2_69) rfl (l' := #[.val (.int i0), .val (.long (288054454291267584 : Int64)), .second, .val (.long (5188146764422578174 : Int64)), .second, .val (.int t0)]) rfl ?_
    exact kt
  exact b2_71 C hw X eT NL i0 t0
set_option maxRecDepth 65536 in
set_option maxHeartbeats 40000000 in
theorem b2_46 {p : Program} {l : Launch} {e : Env} {s : State} {m : MethodId} {args : Array Value} {below : List Frame} {meth : Method} {c : Code} {Z : State} {a0 : Array Value} {T : State} {locs : List Loc} {h0 : Heap} {n0 : Nat} (C : Ctx p s m meth c Z method_2_code 6 "com/example/araucaria/araucaria/names/PercentEncodingIsUnreservedPinLaw" (some .boolean)) (hw : ∀ d ∈ tables_1, d.before a0 Z = true)
    (X : Stand p l e ({ frames := 0, cells := 0, slots := 0, locals := 0 } : Room) s m args below meth c T locs 0 0) (eT : T.heap = h0) (NL : Fr n0 locs) (i0 : Int32) (t0 : Int32) :
    Go p e below s 0 0 (QV (.int (f2_46 i0 t0)) h0 n0) (T.setTop (mkF m 46 #[.val (.int i0), .val (.long (288054454291267584 : Int64)), .second, .val (.long (5188146764422578174 : Int64)), .second, .unset] [(.int t0)])) := by
  obtain ⟨hx, hZ, hby, hml, hown, hrt, hlk⟩ := id C
  unfold f2_46
  refine Go.pre (st' := T.setTop (mkF m 71 #[.val (.int i0), .val (.long (288054454291267584 : Int64)), .second, .val (.long (5188146764422578174 : Int64)), .second, .val (.int t0)] [])) (fun target kt => ?_) ?_
  · show Steps p.tables e below (T.setTop (mkF m 46 #[.val (.int i0), .val (.long (288054454291267584 : Int64)), .second, .val (.long (5188146764422578174 : Int64)), .second, .unset] [(.int t0)])) _
    refine XS.istore X.here hx rfl (hb hby d2_46) rfl (l' := #[.val (.int i0), .val (.long (288054454291267584 : Int64)), .second, .val (.long (5188146764422578174 : Int64)), .second, .val (.int t0)]) rfl ?_
    show Steps p.tables e below (T.setTop (mkF m 48 #[.val (.int i0), .val (.long (288054454291267584 : Int64)), .second, .val (.long (5188146764422578174 : Int64)), .second, .val (.int t0)] [])) _
    refine XS.goto X.here hx rfl (pc0 := 48) (pc' := 71) rfl (hb hby d2_48) (by decide) (by decide) ?_
    exact kt
  exact b2_71 C hw X eT NL i0 t0
set_option maxRecDepth 65536 in
set_option maxHeartbeats 40000000 in
theorem b2_0 {p : Program} {l : Launch} {e : Env} {s : State} {m : MethodId} {args : Array Value} {below : List Frame} {meth : Method} {c : Code} {Z : State} {a0 : Array Value} {T : State} {locs : List Loc} {h0 : Heap} {n0 : Nat} (C : Ctx p s m meth c Z method_2_code 6 "com/example/araucaria/araucaria/names/PercentEncodingIsUnreservedPinLaw" (some .boolean)) (hw : ∀ d ∈ tables_1, d.before a0 Z = true)
    (X : Stand p l e ({ frames := 0, cells := 0, slots := 0, locals := 0 } : Room) s m args below meth c T locs 0 0) (eT : T.heap = h0) (NL : Fr n0 locs) (i0 : Int32) :
    Go p e below s 0 0 (QV (.int (f2_0 i0)) h0 n0) (T.setTop (mkF m 0 #[.val (.int i0), .unset, .unset, .unset, .unset, .unset] [])) := by
  obtain ⟨hx, hZ, hby, hml, hown, hrt, hlk⟩ := id C
  unfold f2_0
  refine Go.pre (st' := T.setTop (mkF m 9 #[.val (.int i0), .val (.long (288054454291267584 : Int64)), .second, .val (.long (5188146764422578174 : Int64)), .second, .unset] [(.int i0)])) (fun target kt => ?_) ?_
  · show Steps p.tables e below (T.setTop (mkF m 0 #[.val (.int i0), .unset, .unset, .unset, .unset, .unset] [])) _
    refine X.ldc2Long hx hown (mvT hZ (hw _ (List.mem_of_getElem? (i := 9) rfl))) (g := (mkF m 0 #[.val (.int i0), .unset, .unset, .unset, .unset, .unset] [])) rfl (hb hby d2_0) _ ?_
    show Steps p.tables e below (T.setTop (mkF m 3 #[.val (.int i0), .unset, .unset, .unset, .unset, .unset] [(.long (288054454291267584 : Int64))])) _
    refine XS.lstoreN X.here hx rfl (hb hby d2_3) rfl (l' := #[.val (.int i0), .val (.long (288054454291267584 : Int64)), .second, .unset, .unset, .unset]) rfl ?_
    show Steps p.tables e below (T.setTop (mkF m 4 #[.val (.int i0), .val (.long (288054454291267584 : Int64)), .second, .unset, .unset, .unset] [])) _
    refine X.ldc2Long hx hown (mvT hZ (hw _ (List.mem_of_getElem? (i := 10) rfl))) (g := (mkF m 4 #[.val (.int i0), .val (.long (288054454291267584 : Int64)), .second, .unset, .unset, .unset] [])) rfl (hb hby d2_4) _ ?_
    show Steps p.tables e below (T.setTop (mkF m 7 #[.val (.int i0), .val (.long (288054454291267584 : Int64)), .second, .unset, .unset, .unset] [(.long (5188146764422578174 : Int64))])) _
    refine XS.lstoreN X.here hx rfl (hb hby d2_7) rfl (l' := #[.val (.int i0), .val (.long (288054454291267584 : Int64)), .second, .val (.long (5188146764422578174 : Int64)), .second, .unset]) rfl ?_
    show Steps p.tables e below (T.setTop (mkF m 8 #[.val (.int i0), .val (.long (288054454291267584 : Int64)), .second, .val (.long (5188146764422578174 : Int64)), .second, .unset] [])) _
    refine XS.iloadN X.here hx rfl (hb hby d2_8) rfl ?_
    exact kt
  by_cases h9 : i0 < (0 : Int32)
  · rw [if_pos h9]
    refine Go.pre (st' := T.setTop (mkF m 19 #[.val (.int i0), .val (.long (288054454291267584 : Int64)), .second, .val (.long (5188146764422578174 : Int64)), .second, .unset] [])) (fun target kt => ?_) ?_
    · show Steps p.tables e below (T.setTop (mkF m 9 #[.val (.int i0), .val (.long (288054454291267584 : Int64)), .second, .val (.long (5188146764422578174 : Int64)), .second, .unset] [(.int i0)])) _
      refine XS.ifYes X.here hx rfl (pc0 := 9) (pc' := 19) rfl (hb hby d2_9) rfl ((if0 _ _).trans (tlt h9).1) (by decide) (by decide) ?_
      exact kt
    exact b2_19 C hw X eT NL i0
  · rw [if_neg h9]
    refine Go.pre (st' := T.setTop (mkF m 12 #[.val (.int i0), .val (.long (288054454291267584 : Int64)), .second, .val (.long (5188146764422578174 : Int64)), .second, .unset] [])) (fun target kt => ?_) ?_
    · show Steps p.tables e below (T.setTop (mkF m 9 #[.val (.int i0), .val (.long (288054454291267584 : Int64)), .second, .val (.long (5188146764422578174 : Int64)), .second, .unset] [(.int i0)])) _
      refine XS.ifNo X.here hx rfl (hb hby d2_9) rfl ((if0 _ _).trans (flt h9).1) ?_
      exact kt
    refine Go.pre (st' := T.setTop (mkF m 16 #[.val (.int i0), .val (.long (288054454291267584 : Int64)), .second, .val (.long (5188146764422578174 : Int64)), .second, .unset] [(.int (128 : Int32)), (.int i0)])) (fun target kt => ?_) ?_
    · show Steps p.tables e below (T.setTop (mkF m 12 #[.val (.int i0), .val (.long (288054454291267584 : Int64)), .second, .val (.long (5188146764422578174 : Int64)), .second, .unset] [])) _
      refine XS.iloadN X.here hx rfl (hb hby d2_12) rfl ?_
      show Steps p.tables e below (T.setTop (mkF m 13 #[.val (.int i0), .val (.long (288054454291267584 : Int64)), .second, .val (.long (5188146764422578174 : Int64)), .second, .unset] [(.int i0)])) _
      refine XS.sipush X.here hx rfl (hb hby d2_13) ?_
      exact kt
    by_cases h16 : i0 < (128 : Int32)
    · rw [if_pos h16]
      refine Go.pre (st' := T.setTop (mkF m 25 #[.val (.int i0), .val (.long (288054454291267584 : Int64)), .second, .val (.long (5188146764422578174 : Int64)), .second, .unset] [])) (fun target kt => ?_) ?_
      · show Steps p.tables e below (T.setTop (mkF m 16 #[.val (.int i0), .val (.long (288054454291267584 : Int64)), .second, .val (.long (5188146764422578174 : Int64)), .second, .unset] [(.int (128 : Int32)), (.int i0)])) _
        refine XS.icmpYes X.here hx rfl (pc0 := 16) (pc' := 25) rfl (hb hby d2_16) rfl (tlt h16).1 (by decide) (by decide) ?_
        exact kt
      refine Go.pre (st' := T.setTop (mkF m 28 #[.val (.int i0), .val (.long (288054454291267584 : Int64)), .second, .val (.long (5188146764422578174 : Int64)), .second, .unset] [(.int (64 : Int32)), (.int i0)])) (fun target kt => ?_) ?_
      · show Steps p.tables e below (T.setTop (mkF m 25 #[.val (.int i0), .val (.long (288054454291267584 : Int64)), .second, .val (.long (5188146764422578174 : Int64)), .second, .unset] [])) _
        refine XS.iloadN X.here hx rfl (hb hby d2_25) rfl ?_
        show Steps p.tables e below (T.setTop (mkF m 26 #[.val (.int i0), .val (.long (288054454291267584 : Int64)), .second, .val (.long (5188146764422578174 : Int64)), .second, .unset] [(.int i0)])) _
        refine XS.bipush X.here hx rfl (hb hby d2_26) ?_
        exact kt
      by_cases h28 : i0 < (64 : Int32)
      · rw [if_pos h28]
        refine Go.pre (st' := T.setTop (mkF m 31 #[.val (.int i0), .val (.long (288054454291267584 : Int64)), .second, .val (.long (5188146764422578174 : Int64)), .second, .unset] [])) (fun target kt => ?_) ?_
        · show Steps p.tables e below (T.setTop (mkF m 28 #[.val (.int i0), .val (.long (288054454291267584 : Int64)), .second, .val (.long (5188146764422578174 : Int64)), .second, .unset] [(.int (64 : Int32)), (.int i0)])) _
          refine XS.icmpNo X.here hx rfl (hb hby d2_28) rfl (tlt h28).2.1 ?_
          exact kt
        refine Go.pre (st' := T.setTop (mkF m 38 #[.val (.int i0), .val (.long (288054454291267584 : Int64)), .second, .val (.long (5188146764422578174 : Int64)), .second, .unset] [(.int (lcmpW ((((288054454291267584 : Int64).toUInt64 >>> (i0 &&& 0x3f).toInt64.toUInt64).toInt64) &&& (1 : Int64)) (0 : Int64)))])) (fun target kt => ?_) ?_
        · show Steps p.tables e below (T.setTop (mkF m 31 #[.val (.int i0), .val (.long (288054454291267584 : Int64)), .second, .val (.long (5188146764422578174 : Int64)), .second, .unset] [])) _
          refine XS.lloadN X.here hx rfl (hb hby d2_31) rfl ?_
          show Steps p.tables e below (T.setTop (mkF m 32 #[.val (.int i0), .val (.long (288054454291267584 : Int64)), .second, .val (.long (5188146764422578174 : Int64)), .second, .unset] [(.long (288054454291267584 : Int64))])) _
          refine XS.iloadN X.here hx rfl (hb hby d2_32) rfl ?_
          show Steps p.tables e below (T.setTop (mkF m 33 #[.val (.int i0), .val (.long (288054454291267584 : Int64)), .second, .val (.long (5188146764422578174 : Int64)), .second, .unset] [(.int i0), (.long (288054454291267584 : Int64))])) _
          refine XS.lushr X.here hx rfl (hb hby d2_33) rfl ?_
          show Steps p.tables e below (T.setTop (mkF m 34 #[.val (.int i0), .val (.long (288054454291267584 : Int64)), .second, .val (.long (5188146764422578174 : Int64)), .second, .unset] [(.long (((288054454291267584 : Int64).toUInt64 >>> (i0 &&& 0x3f).toInt64.toUInt64).toInt64))])) _
          refine XS.lconst X.here hx rfl (hb hby d2_34) ?_
          show Steps p.tables e below (T.setTop (mkF m 35 #[.val (.int i0), .val (.long (288054454291267584 : Int64)), .second, .val (.long (5188146764422578174 : Int64)), .second, .unset] [(.long (1 : Int64)), (.long (((288054454291267584 : Int64).toUInt64 >>> (i0 &&& 0x3f).toInt64.toUInt64).toInt64))])) _
          refine XS.land X.here hx rfl (hb hby d2_35) rfl ?_
          show Steps p.tables e below (T.setTop (mkF m 36 #[.val (.int i0), .val (.long (288054454291267584 : Int64)), .second, .val (.long (5188146764422578174 : Int64)), .second, .unset] [(.long ((((288054454291267584 : Int64).toUInt64 >>> (i0 &&& 0x3f).toInt64.toUInt64).toInt64) &&& (1 : Int64)))])) _
          refine XS.lconst X.here hx rfl (hb hby d2_36) ?_
          show Steps p.tables e below (T.setTop (mkF m 37 #[.val (.int i0), .val (.long (288054454291267584 : Int64)), .second, .val (.long (5188146764422578174 : Int64)), .second, .unset] [(.long (0 : Int64)), (.long ((((288054454291267584 : Int64).toUInt64 >>> (i0 &&& 0x3f).toInt64.toUInt64).toInt64) &&& (1 : Int64)))])) _
          refine XS.lcmp X.here hx rfl (hb hby d2_37) rfl ?_
          exact kt
        by_cases h38 : ((((288054454291267584 : Int64).toUInt64 >>> (i0 &&& 0x3f).toInt64.toUInt64).toInt64) &&& (1 : Int64)) = (0 : Int64)
        · rw [if_pos h38]
          refine Go.pre (st' := T.setTop (mkF m 45 #[.val (.int i0), .val (.long (288054454291267584 : Int64)), .second, .val (.long (5188146764422578174 : Int64)), .second, .unset] [])) (fun target kt => ?_) ?_
          · show Steps p.tables e below (T.setTop (mkF m 38 #[.val (.int i0), .val (.long (288054454291267584 : Int64)), .second, .val (.long (5188146764422578174 : Int64)), .second, .unset] [(.int (lcmpW ((((288054454291267584 : Int64).toUInt64 >>> (i0 &&& 0x3f).toInt64.toUInt64).toInt64) &&& (1 : Int64)) (0 : Int64)))])) _
            refine XS.ifYes X.here hx rfl (pc0 := 38) (pc' := 45) rfl (hb hby d2_38) rfl ((if0 _ _).trans (teq ((lw_eq _ _).mpr h38)).1) (by decide) (by decide) ?_
            exact kt
          refine Go.pre (st' := T.setTop (mkF m 46 #[.val (.int i0), .val (.long (288054454291267584 : Int64)), .second, .val (.long (5188146764422578174 : Int64)), .second, .unset] [(.int (0 : Int32))])) (fun target kt => ?_) ?_
          · show Steps p.tables e below (T.setTop (mkF m 45 #[.val (.int i0), .val (.long (288054454291267584 : Int64)), .second, .val (.long (5188146764422578174 : Int64)), .second, .unset] [])) _
            refine XS.iconst X.here hx rfl (hb hby d2_45) ?_
            exact kt
          exact b2_46 C hw X eT NL i0 (0 : Int32)
        · rw [if_neg h38]
          refine Go.pre (st' := T.setTop (mkF m 41 #[.val (.int i0), .val (.long (288054454291267584 : Int64)), .second, .val (.long (5188146764422578174 : Int64)), .second, .unset] [])) (fun target kt => ?_) ?_
          · show Steps p.tables e below (T.setTop (mkF m 38 #[.val (.int i0), .val (.long (288054454291267584 : Int64)), .second, .val (.long (5188146764422578174 : Int64)), .second, .unset] [(.int (lcmpW ((((288054454291267584 : Int64).toUInt64 >>> (i0 &&& 0x3f).toInt64.toUInt64).toInt64) &&& (1 : Int64)) (0 : Int64)))])) _
            refine XS.ifNo X.here hx rfl (hb hby d2_38) rfl ((if0 _ _).trans (feq (fun q => h38 ((lw_eq _ _).mp q))).1) ?_
            exact kt
          refine Go.pre (st' := T.setTop (mkF m 46 #[.val (.int i0), .val (.long (288054454291267584 : Int64)), .second, .val (.long (5188146764422578174 : Int64)), .second, .unset] [(.int (1 : Int32))])) (fun target kt => ?_) ?_
          · show Steps p.tables e below (T.setTop (mkF m 41 #[.val (.int i0), .val (.long (288054454291267584 : Int64)), .second, .val (.long (5188146764422578174 : Int64)), .second, .unset] [])) _
            refine XS.iconst X.here hx rfl (hb hby d2_41) ?_
            show Steps p.tables e below (T.setTop (mkF m 42 #[.val (.int i0), .val (.long (288054454291267584 : Int64)), .second, .val (.long (5188146764422578174 : Int64)), .second, .unset] [(.int (1 : Int32))])) _
            refine XS.goto X.here hx rfl (pc0 := 42) (pc' := 46) rfl (hb hby d2_42) (by decide) (by decide) ?_
            exact kt
          exact b2_46 C hw X eT NL i0 (1 : Int32)
      · rw [if_neg h28]
        refine Go.pre (st' := T.setTop (mkF m 51 #[.val (.int i0), .val (.long (288054454291267584 : Int64)), .second, .val (.long (5188146764422578174 : Int64)), .second, .unset] [])) (fun target kt => ?_) ?_
        · show Steps p.tables e below (T.setTop (mkF m 28 #[.val (.int i0), .val (.long (288054454291267584 : Int64)), .second, .val (.long (5188146764422578174 : Int64)), .second, .unset] [(.int (64 : Int32)), (.int i0)])) _
          refine XS.icmpYes X.here hx rfl (pc0 := 28) (pc' := 51) rfl (hb hby d2_28) rfl (flt h28).2.1 (by decide) (by decide) ?_
          exact kt
        refine Go.pre (st' := T.setTop (mkF m 61 #[.val (.int i0), .val (.long (288054454291267584 : Int64)), .second, .val (.long (5188146764422578174 : Int64)), .second, .unset] [(.int (lcmpW ((((5188146764422578174 : Int64).toUInt64 >>> ((i0 - (64 : Int32)) &&& 0x3f).toInt64.toUInt64).toInt64) &&& (1 : Int64)) (0 : Int64)))])) (fun target kt => ?_) ?_
        · show Steps p.tables e below (T.setTop (mkF m 51 #[.val (.int i0), .val (.long (288054454291267584 : Int64)), .second, .val (.long (5188146764422578174 : Int64)), .second, .unset] [])) _
          refine XS.lloadN X.here hx rfl (hb hby d2_51) rfl ?_
          show Steps p.tables e below (T.setTop (mkF m 52 #[.val (.int i0), .val (.long (288054454291267584 : Int64)), .second, .val (.long (5188146764422578174 : Int64)), .second, .unset] [(.long (5188146764422578174 : Int64))])) _
          refine XS.iloadN X.here hx rfl (hb hby d2_52) rfl ?_
          show Steps p.tables e below (T.setTop (mkF m 53 #[.val (.int i0), .val (.long (288054454291267584 : Int64)), .second, .val (.long (5188146764422578174 : Int64)), .second, .unset] [(.int i0), (.long (5188146764422578174 : Int64))])) _
          refine XS.bipush X.here hx rfl (hb hby d2_53) ?_
          show Steps p.tables e below (T.setTop (mkF m 55 #[.val (.int i0), .val (.long (288054454291267584 : Int64)), .second, .val (.long (5188146764422578174 : Int64)), .second, .unset] [(.int (64 : Int32)), (.int i0), (.long (5188146764422578174 : Int64))])) _
          refine XS.isub X.here hx rfl (hb hby d2_55) rfl ?_
          show Steps p.tables e below (T.setTop (mkF m 56 #[.val (.int i0), .val (.long (288054454291267584 : Int64)), .second, .val (.long (5188146764422578174 : Int64)), .second, .unset] [(.int (i0 - (64 : Int32))), (.long (5188146764422578174 : Int64))])) _
          refine XS.lushr X.here hx rfl (hb hby d2_56) rfl ?_
          show Steps p.tables e below (T.setTop (mkF m 57 #[.val (.int i0), .val (.long (288054454291267584 : Int64)), .second, .val (.long (5188146764422578174 : Int64)), .second, .unset] [(.long (((5188146764422578174 : Int64).toUInt64 >>> ((i0 - (64 : Int32)) &&& 0x3f).toInt64.toUInt64).toInt64))])) _
          refine XS.lconst X.here hx rfl (hb hby d2_57) ?_
          show Steps p.tables e below (T.setTop (mkF m 58 #[.val (.int i0), .val (.long (288054454291267584 : Int64)), .second, .val (.long (5188146764422578174 : Int64)), .second, .unset] [(.long (1 : Int64)), (.long (((5188146764422578174 : Int64).toUInt64 >>> ((i0 - (64 : Int32)) &&& 0x3f).toInt64.toUInt64).toInt64))])) _
          refine XS.land X.here hx rfl (hb hby d2_58) rfl ?_
          show Steps p.tables e below (T.setTop (mkF m 59 #[.val (.int i0), .val (.long (288054454291267584 : Int64)), .second, .val (.long (5188146764422578174 : Int64)), .second, .unset] [(.long ((((5188146764422578174 : Int64).toUInt64 >>> ((i0 - (64 : Int32)) &&& 0x3f).toInt64.toUInt64).toInt64) &&& (1 : Int64)))])) _
          refine XS.lconst X.here hx rfl (hb hby d2_59) ?_
          show Steps p.tables e below (T.setTop (mkF m 60 #[.val (.int i0), .val (.long (288054454291267584 : Int64)), .second, .val (.long (5188146764422578174 : Int64)), .second, .unset] [(.long (0 : Int64)), (.long ((((5188146764422578174 : Int64).toUInt64 >>> ((i0 - (64 : Int32)) &&& 0x3f).toInt64.toUInt64).toInt64) &&& (1 : Int64)))])) _
          refine XS.lcmp X.here hx rfl (hb hby d2_60) rfl ?_
          exact kt
        by_cases h61 : ((((5188146764422578174 : Int64).toUInt64 >>> ((i0 - (64 : Int32)) &&& 0x3f).toInt64.toUInt64).toInt64) &&& (1 : Int64)) = (0 : Int64)
        · rw [if_pos h61]
          refine Go.pre (st' := T.setTop (mkF m 68 #[.val (.int i0), .val (.long (288054454291267584 : Int64)), .second, .val (.long (5188146764422578174 : Int64)), .second, .unset] [])) (fun target kt => ?_) ?_
          · show Steps p.tables e below (T.setTop (mkF m 61 #[.val (.int i0), .val (.long (288054454291267584 : Int64)), .second, .val (.long (5188146764422578174 : Int64)), .second, .unset] [(.int (lcmpW ((((5188146764422578174 : Int64).toUInt64 >>> ((i0 - (64 : Int32)) &&& 0x3f).toInt64.toUInt64).toInt64) &&& (1 : Int64)) (0 : Int64)))])) _
            refine XS.ifYes X.here hx rfl (pc0 := 61) (pc' := 68) rfl (hb hby d2_61) rfl ((if0 _ _).trans (teq ((lw_eq _ _).mpr h61)).1) (by decide) (by decide) ?_
            exact kt
          refine Go.pre (st' := T.setTop (mkF m 69 #[.val (.int i0), .val (.long (288054454291267584 : Int64)), .second, .val (.long (5188146764422578174 : Int64)), .second, .unset] [(.int (0 : Int32))])) (fun target kt => ?_) ?_
          · show Steps p.tables e below (T.setTop (mkF m 68 #[.val (.int i0), .val (.long (288054454291267584 : Int64)), .second, .val (.long (5188146764422578174 : Int64)), .second, .unset] [])) _
            refine XS.iconst X.here hx rfl (hb hby d2_68) ?_
            exact kt
          exact b2_69 C hw X eT NL i0 (0 : Int32)
        · rw [if_neg h61]
          refine Go.pre (st' := T.setTop (mkF m 64 #[.val (.int i0), .val (.long (288054454291267584 : Int64)), .second, .val (.long (5188146764422578174 : Int64)), .second, .unset] [])) (fun target kt => ?_) ?_
          · show Steps p.tables e below (T.setTop (mkF m 61 #[.val (.int i0), .val (.long (288054454291267584 : Int64)), .second, .val (.long (5188146764422578174 : Int64)), .second, .unset] [(.int (lcmpW ((((5188146764422578174 : Int64).toUInt64 >>> ((i0 - (64 : Int32)) &&& 0x3f).toInt64.toUInt64).toInt64) &&& (1 : Int64)) (0 : Int64)))])) _
            refine XS.ifNo X.here hx rfl (hb hby d2_61) rfl ((if0 _ _).trans (feq (fun q => h61 ((lw_eq _ _).mp q))).1) ?_
            exact kt
          refine Go.pre (st' := T.setTop (mkF m 69 #[.val (.int i0), .val (.long (288054454291267584 : Int64)), .second, .val (.long (5188146764422578174 : Int64)), .second, .unset] [(.int (1 : Int32))])) (fun target kt => ?_) ?_
          · show Steps p.tables e below (T.setTop (mkF m 64 #[.val (.int i0), .val (.long (288054454291267584 : Int64)), .second, .val (.long (5188146764422578174 : Int64)), .second, .unset] [])) _
            refine XS.iconst X.here hx rfl (hb hby d2_64) ?_
            show Steps p.tables e below (T.setTop (mkF m 65 #[.val (.int i0), .val (.long (288054454291267584 : Int64)), .second, .val (.long (5188146764422578174 : Int64)), .second, .unset] [(.int (1 : Int32))])) _
            refine XS.goto X.here hx rfl (pc0 := 65) (pc' := 69) rfl (hb hby d2_65) (by decide) (by decide) ?_
            exact kt
          exact b2_69 C hw X eT NL i0 (1 : Int32)
    · rw [if_neg h16]
      refine Go.pre (st' := T.setTop (mkF m 19 #[.val (.int i0), .val (.long (288054454291267584 : Int64)), .second, .val (.long (5188146764422578174 : Int64)), .second, .unset] [])) (fun target kt => ?_) ?_
      · show Steps p.tables e below (T.setTop (mkF m 16 #[.val (.int i0), .val (.long (288054454291267584 : Int64)), .second, .val (.long (5188146764422578174 : Int64)), .second, .unset] [(.int (128 : Int32)), (.int i0)])) _
        refine XS.icmpNo X.here hx rfl (hb hby d2_16) rfl (flt h16).1 ?_
        exact kt
      exact b2_19 C hw X eT NL i0
set_option maxRecDepth 65536 in
set_option maxHeartbeats 40000000 in
theorem rm2 (l : Launch) (Z : State) (a0 : Array Value) (hw : ∀ d ∈ tables_1, d.before a0 Z = true) (ws : List Jvm.Cond) (x0 : Int32) (h0 : Heap) (n0 : Nat) :
    MetFree l (⟨"com/example/araucaria/araucaria/names/PercentEncodingIsUnreservedPinLaw", "reference", "(I)Z"⟩ : MethodName) (head1 (Jvm.Cond.code (⟨"com/example/araucaria/araucaria/names/PercentEncodingIsUnreservedPinLaw", "reference", "(I)Z"⟩ : MethodName) method_2_code 6 (some .boolean) :: ws) ({ frames := 0, cells := 0, slots := 0, locals := 0 } : Room)) (fun a U => a = #[(.int x0)] ∧ Z.Warmed39 U.vm ∧ U.heap = h0) (fun _ _ _ _ _ => True) (fun _ U o U' => ∃ v L, o = .returned v ∧ QV (.int (f2_0 x0)) h0 n0 v U'.heap L ∧ FrameEnd U o U' L ({ frames := 0, cells := 0, slots := 0, locals := 0 } : Room).cells ({ frames := 0, cells := 0, slots := 0, locals := 0 } : Room).slots) := by
  refine MetFree.of_bodySF (plainFor_of_name pn_2) hisR ?_
  intro p e s m args below meth c s₁ Bd hml0 hP hK
  obtain ⟨rfl, hZ, hh⟩ := hP
  have C : Ctx p s m meth c Z method_2_code 6 "com/example/araucaria/araucaria/names/PercentEncodingIsUnreservedPinLaw" (some .boolean) := ⟨Bd.exec, hZ, Bd.bytes, hml0, findClass_of_methodNamed Bd.named, Bd.returns, Bd.notSynchronized⟩
  have X0 : Stand p l e ({ frames := 0, cells := 0, slots := 0, locals := 0 } : Room) s m #[(.int x0)] below meth c s₁ [] 0 0 := Stand.of_body Bd
  have e0 : s₁.heap = h0 := by rw [← hh, Bd.state]; rfl
  rw [ef_2 m x0]
  exact b2_0 C hw X0 e0 (Fr.nil n0) x0
/-! body 0: PercentEncodingIsUnreservedPinLaw.law -/
theorem pn_0 : plainName "com/example/araucaria/araucaria/names/PercentEncodingIsUnreservedPinLaw" = true := by first | (simp [plainName, overriddenIn]; done) | decide +kernel
theorem pd0_46 : parseMethodDescriptor "(I)Z" = some ⟨[.int], some .boolean⟩ := by decide +kernel
theorem ef_0 (m : MethodId) (x0 : Int32) : entryFrame m #[(.int x0)] maxLocals = (mkF m 0 #[.val (.int x0), .unset, .unset, .unset, .unset, .unset] []) := by first | (simp [entryFrame, mkF, argsToLocals, Value.category, maxLocals]; done) | rfl
def f0_82 (i0 : Int32) (i1 : Int32) (i2 : Int32) (i3 : Int32) (i4 : Int32) (i5 : Int32) (t0 : Int32) : Int32 := (t0 &&& 1)
def f0_81 (i0 : Int32) (i1 : Int32) (i2 : Int32) (i3 : Int32) (i4 : Int32) (i5 : Int32) : Int32 := f0_82 i0 i1 i2 i3 i4 i5 (0 : Int32)
def f0_61 (i0 : Int32) (i1 : Int32) (i2 : Int32) (i3 : Int32) (i4 : Int32) (t0 : Int32) : Int32 := (if i3 = (0 : Int32) then f0_81 i0 i1 i2 i3 i4 t0 else (if i4 = (0 : Int32) then f0_81 i0 i1 i2 i3 i4 t0 else (if t0 = (0 : Int32) then f0_81 i0 i1 i2 i3 i4 t0 else f0_82 i0 i1 i2 i3 i4 t0 (1 : Int32))))
def f0_43 (i0 : Int32) (i1 : Int32) (i2 : Int32) (i3 : Int32) (t0 : Int32) : Int32 := (if (f1_0 i2) = (f2_0 i2) then f0_61 i0 i1 i2 i3 t0 (1 : Int32) else f0_61 i0 i1 i2 i3 t0 (0 : Int32))
def f0_26 (i0 : Int32) (i1 : Int32) (i2 : Int32) (t0 : Int32) : Int32 := (if (f1_0 i1) = (f2_0 i1) then f0_43 i0 i1 i2 t0 (1 : Int32) else f0_43 i0 i1 i2 t0 (0 : Int32))
def f0_0 (i0 : Int32) : Int32 := (if (f1_0 i0) = (f2_0 i0) then f0_26 i0 (i0 &&& (127 : Int32)) (i0 &&& (65535 : Int32)) (1 : Int32) else f0_26 i0 (i0 &&& (127 : Int32)) (i0 &&& (65535 : Int32)) (0 : Int32))
set_option maxRecDepth 65536 in
set_option maxHeartbeats 40000000 in
theorem b0_82 {p : Program} {l : Launch} {e : Env} {s : State} {m : MethodId} {args : Array Value} {below : List Frame} {meth : Method} {c : Code} {Z : State} {a0 : Array Value} {T : State} {locs : List Loc} {h0 : Heap} {n0 : Nat} (C : Ctx p s m meth c Z code 6 "com/example/araucaria/araucaria/names/PercentEncodingIsUnreservedPinLaw" (some .boolean)) (hw : ∀ d ∈ tables_1, d.before a0 Z = true)
    (X : Stand p l e room_1 s m args below meth c T locs 0 0) (eT : T.heap = h0) (NL : Fr n0 locs) (i0 : Int32) (i1 : Int32) (i2 : Int32) (i3 : Int32) (i4 : Int32) (i5 : Int32) (t0 : Int32) :
    Go p e below s 0 0 (QV (.int (f0_82 i0 i1 i2 i3 i4 i5 t0)) h0 n0) (T.setTop (mkF m 82 #[.val (.int i0), .val (.int i1), .val (.int i2), .val (.int i3), .val (.int i4), .val (.int i5)] [(.int t0)])) := by
  obtain ⟨hx, hZ, hby, hml, hown, hrt, hlk⟩ := id C
  unfold f0_82
  exact Go.retN X hx hlk hrt (by simp) (hb hby at_82) rfl (Nat.le_refl _) (Nat.le_refl _) ⟨rfl, NL, eT⟩
set_option maxRecDepth 65536 in
set_option maxHeartbeats 40000000 in
theorem b0_81 {p : Program} {l : Launch} {e : Env} {s : State} {m : MethodId} {args : Array Value} {below : List Frame} {meth : Method} {c : Code} {Z : State} {a0 : Array Value} {T : State} {locs : List Loc} {h0 : Heap} {n0 : Nat} (C : Ctx p s m meth c Z code 6 "com/example/araucaria/araucaria/names/PercentEncodingIsUnreservedPinLaw" (some .boolean)) (hw : ∀ d ∈ tables_1, d.before a0 Z = true)
    (X : Stand p l e room_1 s m args below meth c T locs 0 0) (eT : T.heap = h0) (NL : Fr n0 locs) (i0 : Int32) (i1 : Int32) (i2 : Int32) (i3 : Int32) (i4 : Int32) (i5 : Int32) :
    Go p e below s 0 0 (QV (.int (f0_81 i0 i1 i2 i3 i4 i5)) h0 n0) (T.setTop (mkF m 81 #[.val (.int i0), .val (.int i1), .val (.int i2), .val (.int i3), .val (.int i4), .val (.int i5)] [])) := by
  obtain ⟨hx, hZ, hby, hml, hown, hrt, hlk⟩ := id C
  unfold f0_81
  refine Go.pre (st' := T.setTop (mkF m 82 #[.val (.int i0), .val (.int i1), .val (.int i2), .val (.int i3), .val (.int i4), .val (.int i5)] [(.int (0 : Int32))])) (fun target kt => ?_) ?_
  · show Steps p.tables e below (T.setTop (mkF m 81 #[.val (.int i0), .val (.int i1), .val (.int i2), .val (.int i3), .val (.int i4), .val (.int i5)] [])) _
    refine XS.iconst X.here hx rfl (hb hby at_81) ?_
    exact kt
  exact b0_82 C hw X eT NL i0 i1 i2 i3 i4 i5 (0 : Int32)
set_option maxRecDepth 65536 in
set_option maxHeartbeats 40000000 in
theorem b0_61 {p : Program} {l : Launch} {e : Env} {s : State} {m : MethodId} {args : Array Value} {below : List Frame} {meth : Method} {c : Code} {Z : State} {a0 : Array Value} {T : State} {locs : List Loc} {h0 : Heap} {n0 : Nat} (C : Ctx p s m meth c Z code 6 "com/example/araucaria/araucaria/names/PercentEncodingIsUnreservedPinLaw" (some .boolean)) (hw : ∀ d ∈ tables_1, d.before a0 Z = true)
    (X : Stand p l e room_1 s m args below meth c T locs 0 0) (eT : T.heap = h0) (NL : Fr n0 locs) (i0 : Int32) (i1 : Int32) (i2 : Int32) (i3 : Int32) (i4 : Int32) (t0 : Int32) :
    Go p e below s 0 0 (QV (.int (f0_61 i0 i1 i2 i3 i4 t0)) h0 n0) (T.setTop (mkF m 61 #[.val (.int i0), .val (.int i1), .val (.int i2), .val (.int i3), .val (.int i4), .unset] [(.int t0)])) := by
  obtain ⟨hx, hZ, hby, hml, hown, hrt, hlk⟩ := id C
  unfold f0_61
  refine Go.pre (st' := T.setTop (mkF m 64 #[.val (.int i0), .val (.int i1), .val (.int i2), .val (.int i3), .val (.int i4), .val (.int t0)] [(.int i3)])) (fun target kt => ?_) ?_
  · show Steps p.tables e below (T.setTop (mkF m 61 #[.val (.int i0), .val (.int i1), .val (.int i2), .val (.int i3), .val (.int i4), .unset] [(.int t0)])) _
    refine XS.istore X.here hx rfl (hb hby at_61) rfl (l' := #[.val (.int i0), .val (.int i1), .val (.int i2), .val (.int i3), .val (.int i4), .val (.int t0)]) rfl ?_
    show Steps p.tables e below (T.setTop (mkF m 63 #[.val (.int i0), .val (.int i1), .val (.int i2), .val (.int i3), .val (.int i4), .val (.int t0)] [])) _
    refine XS.iloadN X.here hx rfl (hb hby at_63) rfl ?_
    exact kt
  by_cases h64 : i3 = (0 : Int32)
  · rw [if_pos h64]
    refine Go.pre (st' := T.setTop (mkF m 81 #[.val (.int i0), .val (.int i1), .val (.int i2), .val (.int i3), .val (.int i4), .val (.int t0)] [])) (fun target kt => ?_) ?_
    · show Steps p.tables e below (T.setTop (mkF m 64 #[.val (.int i0), .val (.int i1), .val (.int i2), .val (.int i3), .val (.int i4), .val (.int t0)] [(.int i3)])) _
      refine XS.ifYes X.here hx rfl (pc0 := 64) (pc' := 81) rfl (hb hby at_64) rfl ((if0 _ _).trans (teq h64).1) (by decide) (by decide) ?_
      exact kt
    exact b0_81 C hw X eT NL i0 i1 i2 i3 i4 t0
  · rw [if_neg h64]
    refine Go.pre (st' := T.setTop (mkF m 67 #[.val (.int i0), .val (.int i1), .val (.int i2), .val (.int i3), .val (.int i4), .val (.int t0)] [])) (fun target kt => ?_) ?_
    · show Steps p.tables e below (T.setTop (mkF m 64 #[.val (.int i0), .val (.int i1), .val (.int i2), .val (.int i3), .val (.int i4), .val (.int t0)] [(.int i3)])) _
      refine XS.ifNo X.here hx rfl (hb hby at_64) rfl ((if0 _ _).trans (feq h64).1) ?_
      exact kt
    refine Go.pre (st' := T.setTop (mkF m 69 #[.val (.int i0), .val (.int i1), .val (.int i2), .val (.int i3), .val (.int i4), .val (.int t0)] [(.int i4)])) (fun target kt => ?_) ?_
    · show Steps p.tables e below (T.setTop (mkF m 67 #[.val (.int i0), .val (.int i1), .val (.int i2), .val (.int i3), .val (.int i4), .val (.int t0)] [])) _
      refine XS.iload X.here hx rfl (hb hby at_67) rfl ?_
      exact kt
    by_cases h69 : i4 = (0 : Int32)
    · rw [if_pos h69]
      refine Go.pre (st' := T.setTop (mkF m 81 #[.val (.int i0), .val (.int i1), .val (.int i2), .val (.int i3), .val (.int i4), .val (.int t0)] [])) (fun target kt => ?_) ?_
      · show Steps p.tables e below (T.setTop (mkF m 69 #[.val (.int i0), .val (.int i1), .val (.int i2), .val (.int i3), .val (.int i4), .val (.int t0)] [(.int i4)])) _
        refine XS.ifYes X.here hx rfl (pc0 := 69) (pc' := 81) rfl (hb hby at_69) rfl ((if0 _ _).trans (teq h69).1) (by decide) (by decide) ?_
        exact kt
      exact b0_81 C hw X eT NL i0 i1 i2 i3 i4 t0
    · rw [if_neg h69]
      refine Go.pre (st' := T.setTop (mkF m 72 #[.val (.int i0), .val (.int i1), .val (.int i2), .val (.int i3), .val (.int i4), .val (.int t0)] [])) (fun target kt => ?_) ?_
      · show Steps p.tables e below (T.setTop (mkF m 69 #[.val (.int i0), .val (.int i1), .val (.int i2), .val (.int i3), .val (.int i4), .val (.int t0)] [(.int i4)])) _
        refine XS.ifNo X.here hx rfl (hb hby at_69) rfl ((if0 _ _).trans (feq h69).1) ?_
        exact kt
      refine Go.pre (st' := T.setTop (mkF m 74 #[.val (.int i0), .val (.int i1), .val (.int i2), .val (.int i3), .val (.int i4), .val (.int t0)] [(.int t0)])) (fun target kt => ?_) ?_
      · show Steps p.tables e below (T.setTop (mkF m 72 #[.val (.int i0), .val (.int i1), .val (.int i2), .val (.int i3), .val (.int i4), .val (.int t0)] [])) _
        refine XS.iload X.here hx rfl (hb hby at_72) rfl ?_
        exact kt
      by_cases h74 : t0 = (0 : Int32)
      · rw [if_pos h74]
        refine Go.pre (st' := T.setTop (mkF m 81 #[.val (.int i0), .val (.int i1), .val (.int i2), .val (.int i3), .val (.int i4), .val (.int t0)] [])) (fun target kt => ?_) ?_
        · show Steps p.tables e below (T.setTop (mkF m 74 #[.val (.int i0), .val (.int i1), .val (.int i2), .val (.int i3), .val (.int i4), .val (.int t0)] [(.int t0)])) _
          refine XS.ifYes X.here hx rfl (pc0 := 74) (pc' := 81) rfl (hb hby at_74) rfl ((if0 _ _).trans (teq h74).1) (by decide) (by decide) ?_
          exact kt
        exact b0_81 C hw X eT NL i0 i1 i2 i3 i4 t0
      · rw [if_neg h74]
        refine Go.pre (st' := T.setTop (mkF m 77 #[.val (.int i0), .val (.int i1), .val (.int i2), .val (.int i3), .val (.int i4), .val (.int t0)] [])) (fun target kt => ?_) ?_
        · show Steps p.tables e below (T.setTop (mkF m 74 #[.val (.int i0), .val (.int i1), .val (.int i2), .val (.int i3), .val (.int i4), .val (.int t0)] [(.int t0)])) _
          refine XS.ifNo X.here hx rfl (hb hby at_74) rfl ((if0 _ _).trans (feq h74).1) ?_
          exact kt
        refine Go.pre (st' := T.setTop (mkF m 82 #[.val (.int i0), .val (.int i1), .val (.int i2), .val (.int i3), .val (.int i4), .val (.int t0)] [(.int (1 : Int32))])) (fun target kt => ?_) ?_
        · show Steps p.tables e below (T.setTop (mkF m 77 #[.val (.int i0), .val (.int i1), .val (.int i2), .val (.int i3), .val (.int i4), .val (.int t0)] [])) _
          refine XS.iconst X.here hx rfl (hb hby at_77) ?_
          show Steps p.tables e below (T.setTop (mkF m 78 #[.val (.int i0), .val (.int i1), .val (.int i2), .val (.int i3), .val (.int i4), .val (.int t0)] [(.int (1 : Int32))])) _
          refine XS.goto X.here hx rfl (pc0 := 78) (pc' := 82) rfl (hb hby at_78) (by decide) (by decide) ?_
          exact kt
        exact b0_82 C hw X eT NL i0 i1 i2 i3 i4 t0 (1 : Int32)
set_option maxRecDepth 65536 in
set_option maxHeartbeats 40000000 in
theorem b0_43 {p : Program} {l : Launch} {e : Env} {s : State} {m : MethodId} {args : Array Value} {below : List Frame} {meth : Method} {c : Code} {Z : State} {a0 : Array Value} {T : State} {locs : List Loc} {h0 : Heap} {n0 : Nat} (C : Ctx p s m meth c Z code 6 "com/example/araucaria/araucaria/names/PercentEncodingIsUnreservedPinLaw" (some .boolean)) (hw : ∀ d ∈ tables_1, d.before a0 Z = true)
    (X : Stand p l e room_1 s m args below meth c T locs 0 0) (eT : T.heap = h0) (NL : Fr n0 locs) (i0 : Int32) (i1 : Int32) (i2 : Int32) (i3 : Int32) (t0 : Int32) :
    Go p e below s 0 0 (QV (.int (f0_43 i0 i1 i2 i3 t0)) h0 n0) (T.setTop (mkF m 43 #[.val (.int i0), .val (.int i1), .val (.int i2), .val (.int i3), .unset, .unset] [(.int t0)])) := by
  obtain ⟨hx, hZ, hby, hml, hown, hrt, hlk⟩ := id C
  unfold f0_43
  refine Go.pre (st' := T.setTop (mkF m 46 #[.val (.int i0), .val (.int i1), .val (.int i2), .val (.int i3), .val (.int t0), .unset] [(.int i2)])) (fun target kt => ?_) ?_
  · show Steps p.tables e below (T.setTop (mkF m 43 #[.val (.int i0), .val (.int i1), .val (.int i2), .val (.int i3), .unset, .unset] [(.int t0)])) _
    refine XS.istore X.here hx rfl (hb hby at_43) rfl (l' := #[.val (.int i0), .val (.int i1), .val (.int i2), .val (.int i3), .val (.int t0), .unset]) rfl ?_
    show Steps p.tables e below (T.setTop (mkF m 45 #[.val (.int i0), .val (.int i1), .val (.int i2), .val (.int i3), .val (.int t0), .unset] [])) _
    refine XS.iloadN X.here hx rfl (hb hby at_45) rfl ?_
    exact kt
  obtain ⟨_, _, ⟨T46, L46, k46, n46⟩, -, X46, ⟨Lc46, hQ46, l46, y46, z46⟩, st46⟩ := Jvm.LawKit.callS X hx (y := (⟨"com/example/araucaria/araucaria/names/PercentEncoding", "isUnreserved", "(I)Z"⟩ : MethodName)) hown (mvT hZ (hw _ (List.mem_of_getElem? (i := 1) rfl))) (mvT hZ (hw _ (List.mem_of_getElem? (i := 2) rfl))) (mvT hZ (hw _ (List.mem_of_getElem? (i := 3) rfl))) (mvT hZ (hw _ (List.mem_of_getElem? (i := 4) rfl))) (by decide) (backOf (W := 0) (rm1 l Z a0 hw [] i2 h0 n0) hZ (hw _ (List.mem_of_getElem? (i := 4) rfl)) (hw _ (List.mem_of_getElem? (i := 3) rfl)) (by decide) (by decide)) (g := (mkF m 46 #[.val (.int i0), .val (.int i1), .val (.int i2), .val (.int i3), .val (.int t0), .unset] [(.int i2)])) rfl (by rw [hml]; rfl) (argsL := [(.int i2)]) (rest := []) (lenOf pd0_46 rfl) rfl (by show 2 * 0 + _ ≤ _; exact Nat.le_of_eq rfl) (hb hby at_46) (fun _ _ => ⟨rfl, eT, (by decide : 0 + 0 ≤ _), (by decide : 0 + 0 ≤ _)⟩)
  dsimp only [Pt.U, Pt.locs, Pt.cells, Pt.slots] at X46 l46 y46 z46 st46 hQ46
  subst l46 y46 z46
  obtain ⟨rfl, N46q, e46⟩ := hQ46
  have N46 := Fr.app NL N46q
  refine Go.pre st46 ?_
  show Go p e below s 0 0 _ (T46.setTop (mkF m 49 #[.val (.int i0), .val (.int i1), .val (.int i2), .val (.int i3), .val (.int t0), .unset] [(.int (f1_0 i2))]))
  refine Go.pre (st' := T46.setTop (mkF m 50 #[.val (.int i0), .val (.int i1), .val (.int i2), .val (.int i3), .val (.int t0), .unset] [(.int i2), (.int (f1_0 i2))])) (fun target kt => ?_) ?_
  · show Steps p.tables e below (T46.setTop (mkF m 49 #[.val (.int i0), .val (.int i1), .val (.int i2), .val (.int i3), .val (.int t0), .unset] [(.int (f1_0 i2))])) _
    refine XS.iloadN X46.here hx rfl (hb hby at_49) rfl ?_
    exact kt
  obtain ⟨_, _, ⟨T50, L50, k50, n50⟩, -, X50, ⟨Lc50, hQ50, l50, y50, z50⟩, st50⟩ := Jvm.LawKit.callS X46 hx (y := (⟨"com/example/araucaria/araucaria/names/PercentEncodingIsUnreservedPinLaw", "reference", "(I)Z"⟩ : MethodName)) hown (mvT hZ (hw _ (List.mem_of_getElem? (i := 5) rfl))) (mvT hZ (hw _ (List.mem_of_getElem? (i := 6) rfl))) (mvT hZ (hw _ (List.mem_of_getElem? (i := 7) rfl))) (mvT hZ (hw _ (List.mem_of_getElem? (i := 8) rfl))) (by decide) (backOf (W := 1) (rm2 l Z a0 hw [] i2 h0 n0) hZ (hw _ (List.mem_of_getElem? (i := 8) rfl)) (hw _ (List.mem_of_getElem? (i := 7) rfl)) (by decide) (by decide)) (g := (mkF m 50 #[.val (.int i0), .val (.int i1), .val (.int i2), .val (.int i3), .val (.int t0), .unset] [(.int i2), (.int (f1_0 i2))])) rfl (by rw [hml]; rfl) (argsL := [(.int i2)]) (rest := [(.int (f1_0 i2))]) (lenOf pd0_46 rfl) rfl (by show 2 * 0 + _ ≤ _; exact Nat.le_of_eq rfl) (hb hby at_50) (fun _ _ => ⟨rfl, e46, (by decide : 0 + 0 ≤ _), (by decide : 0 + 0 ≤ _)⟩)
  dsimp only [Pt.U, Pt.locs, Pt.cells, Pt.slots] at X50 l50 y50 z50 st50 hQ50
  subst l50 y50 z50
  obtain ⟨rfl, N50q, e50⟩ := hQ50
  have N50 := Fr.app N46 N50q
  refine Go.pre st50 ?_
  show Go p e below s 0 0 _ (T50.setTop (mkF m 53 #[.val (.int i0), .val (.int i1), .val (.int i2), .val (.int i3), .val (.int t0), .unset] [(.int (f2_0 i2)), (.int (f1_0 i2))]))
  by_cases h53 : (f1_0 i2) = (f2_0 i2)
  · rw [if_pos h53]
    refine Go.pre (st' := T50.setTop (mkF m 56 #[.val (.int i0), .val (.int i1), .val (.int i2), .val (.int i3), .val (.int t0), .unset] [])) (fun target kt => ?_) ?_
    · show Steps p.tables e below (T50.setTop (mkF m 53 #[.val (.int i0), .val (.int i1), .val (.int i2), .val (.int i3), .val (.int t0), .unset] [(.int (f2_0 i2)), (.int (f1_0 i2))])) _
      refine XS.icmpNo X50.here hx rfl (hb hby at_53) rfl (teq h53).2 ?_
      exact kt
    refine Go.pre (st' := T50.setTop (mkF m 61 #[.val (.int i0), .val (.int i1), .val (.int i2), .val (.int i3), .val (.int t0), .unset] [(.int (1 : Int32))])) (fun target kt => ?_) ?_
    · show Steps p.tables e below (T50.setTop (mkF m 56 #[.val (.int i0), .val (.int i1), .val (.int i2), .val (.int i3), .val (.int t0), .unset] [])) _
      refine XS.iconst X50.here hx rfl (hb hby at_56) ?_
      show Steps p.tables e below (T50.setTop (mkF m 57 #[.val (.int i0), .val (.int i1), .val (.int i2), .val (.int i3), .val (.int t0), .unset] [(.int (1 : Int32))])) _
      refine XS.goto X50.here hx rfl (pc0 := 57) (pc' := 61) rfl (hb hby at_57) (by decide) (by decide) ?_
      exact kt
    exact b0_61 C hw X50 e50 N50 i0 i1 i2 i3 t0 (1 : Int32)
  · rw [if_neg h53]
    refine Go.pre (st' := T50.setTop (mkF m 60 #[.val (.int i0), .val (.int i1), .val (.int i2), .val (.int i3), .val (.int t0), .unset] [])) (fun target kt => ?_) ?_
    · show Steps p.tables e below (T50.setTop (mkF m 53 #[.val (.int i0), .val (.int i1), .val (.int i2), .val (.int i3), .val (.int t0), .unset] [(.int (f2_0 i2)), (.int (f1_0 i2))])) _
      refine XS.icmpYes X50.here hx rfl (pc0 := 53) (pc' := 60) rfl (hb hby at_53) rfl (feq h53).2 (by decide) (by decide) ?_
      exact kt
    refine Go.pre (st' := T50.setTop (mkF m 61 #[.val (.int i0), .val (.int i1), .val (.int i2), .val (.int i3), .val (.int t0), .unset] [(.int (0 : Int32))])) (fun target kt => ?_) ?_
    · show Steps p.tables e below (T50.setTop (mkF m 60 #[.val (.int i0), .val (.int i1), .val (.int i2), .val (.int i3), .val (.int t0), .unset] [])) _
      refine XS.iconst X50.here hx rfl (hb hby at_60) ?_
      exact kt
    exact b0_61 C hw X50 e50 N50 i0 i1 i2 i3 t0 (0 : Int32)
set_option maxRecDepth 65536 in
set_option maxHeartbeats 40000000 in
theorem b0_26 {p : Program} {l : Launch} {e : Env} {s : State} {m : MethodId} {args : Array Value} {below : List Frame} {meth : Method} {c : Code} {Z : State} {a0 : Array Value} {T : State} {locs : List Loc} {h0 : Heap} {n0 : Nat} (C : Ctx p s m meth c Z code 6 "com/example/araucaria/araucaria/names/PercentEncodingIsUnreservedPinLaw" (some .boolean)) (hw : ∀ d ∈ tables_1, d.before a0 Z = true)
    (X : Stand p l e room_1 s m args below meth c T locs 0 0) (eT : T.heap = h0) (NL : Fr n0 locs) (i0 : Int32) (i1 : Int32) (i2 : Int32) (t0 : Int32) :
    Go p e below s 0 0 (QV (.int (f0_26 i0 i1 i2 t0)) h0 n0) (T.setTop (mkF m 26 #[.val (.int i0), .val (.int i1), .val (.int i2), .unset, .unset, .unset] [(.int t0)])) := by
  obtain ⟨hx, hZ, hby, hml, hown, hrt, hlk⟩ := id C
  unfold f0_26
  refine Go.pre (st' := T.setTop (mkF m 28 #[.val (.int i0), .val (.int i1), .val (.int i2), .val (.int t0), .unset, .unset] [(.int i1)])) (fun target kt => ?_) ?_
  · show Steps p.tables e below (T.setTop (mkF m 26 #[.val (.int i0), .val (.int i1), .val (.int i2), .unset, .unset, .unset] [(.int t0)])) _
    refine XS.istoreN X.here hx rfl (hb hby at_26) rfl (l' := #[.val (.int i0), .val (.int i1), .val (.int i2), .val (.int t0), .unset, .unset]) rfl ?_
    show Steps p.tables e below (T.setTop (mkF m 27 #[.val (.int i0), .val (.int i1), .val (.int i2), .val (.int t0), .unset, .unset] [])) _
    refine XS.iloadN X.here hx rfl (hb hby at_27) rfl ?_
    exact kt
  obtain ⟨_, _, ⟨T28, L28, k28, n28⟩, -, X28, ⟨Lc28, hQ28, l28, y28, z28⟩, st28⟩ := Jvm.LawKit.callS X hx (y := (⟨"com/example/araucaria/araucaria/names/PercentEncoding", "isUnreserved", "(I)Z"⟩ : MethodName)) hown (mvT hZ (hw _ (List.mem_of_getElem? (i := 1) rfl))) (mvT hZ (hw _ (List.mem_of_getElem? (i := 2) rfl))) (mvT hZ (hw _ (List.mem_of_getElem? (i := 3) rfl))) (mvT hZ (hw _ (List.mem_of_getElem? (i := 4) rfl))) (by decide) (backOf (W := 0) (rm1 l Z a0 hw [] i1 h0 n0) hZ (hw _ (List.mem_of_getElem? (i := 4) rfl)) (hw _ (List.mem_of_getElem? (i := 3) rfl)) (by decide) (by decide)) (g := (mkF m 28 #[.val (.int i0), .val (.int i1), .val (.int i2), .val (.int t0), .unset, .unset] [(.int i1)])) rfl (by rw [hml]; rfl) (argsL := [(.int i1)]) (rest := []) (lenOf pd0_46 rfl) rfl (by show 2 * 0 + _ ≤ _; exact Nat.le_of_eq rfl) (hb hby at_28) (fun _ _ => ⟨rfl, eT, (by decide : 0 + 0 ≤ _), (by decide : 0 + 0 ≤ _)⟩)
  dsimp only [Pt.U, Pt.locs, Pt.cells, Pt.slots] at X28 l28 y28 z28 st28 hQ28
  subst l28 y28 z28
  obtain ⟨rfl, N28q, e28⟩ := hQ28
  have N28 := Fr.app NL N28q
  refine Go.pre st28 ?_
  show Go p e below s 0 0 _ (T28.setTop (mkF m 31 #[.val (.int i0), .val (.int i1), .val (.int i2), .val (.int t0), .unset, .unset] [(.int (f1_0 i1))]))
  refine Go.pre (st' := T28.setTop (mkF m 32 #[.val (.int i0), .val (.int i1), .val (.int i2), .val (.int t0), .unset, .unset] [(.int i1), (.int (f1_0 i1))])) (fun target kt => ?_) ?_
  · show Steps p.tables e below (T28.setTop (mkF m 31 #[.val (.int i0), .val (.int i1), .val (.int i2), .val (.int t0), .unset, .unset] [(.int (f1_0 i1))])) _
    refine XS.iloadN X28.here hx rfl (hb hby at_31) rfl ?_
    exact kt
  obtain ⟨_, _, ⟨T32, L32, k32, n32⟩, -, X32, ⟨Lc32, hQ32, l32, y32, z32⟩, st32⟩ := Jvm.LawKit.callS X28 hx (y := (⟨"com/example/araucaria/araucaria/names/PercentEncodingIsUnreservedPinLaw", "reference", "(I)Z"⟩ : MethodName)) hown (mvT hZ (hw _ (List.mem_of_getElem? (i := 5) rfl))) (mvT hZ (hw _ (List.mem_of_getElem? (i := 6) rfl))) (mvT hZ (hw _ (List.mem_of_getElem? (i := 7) rfl))) (mvT hZ (hw _ (List.mem_of_getElem? (i := 8) rfl))) (by decide) (backOf (W := 1) (rm2 l Z a0 hw [] i1 h0 n0) hZ (hw _ (List.mem_of_getElem? (i := 8) rfl)) (hw _ (List.mem_of_getElem? (i := 7) rfl)) (by decide) (by decide)) (g := (mkF m 32 #[.val (.int i0), .val (.int i1), .val (.int i2), .val (.int t0), .unset, .unset] [(.int i1), (.int (f1_0 i1))])) rfl (by rw [hml]; rfl) (argsL := [(.int i1)]) (rest := [(.int (f1_0 i1))]) (lenOf pd0_46 rfl) rfl (by show 2 * 0 + _ ≤ _; exact Nat.le_of_eq rfl) (hb hby at_32) (fun _ _ => ⟨rfl, e28, (by decide : 0 + 0 ≤ _), (by decide : 0 + 0 ≤ _)⟩)
  dsimp only [Pt.U, Pt.locs, Pt.cells, Pt.slots] at X32 l32 y32 z32 st32 hQ32
  subst l32 y32 z32
  obtain ⟨rfl, N32q, e32⟩ := hQ32
  have N32 := Fr.app N28 N32q
  refine Go.pre st32 ?_
  show Go p e below s 0 0 _ (T32.setTop (mkF m 35 #[.val (.int i0), .val (.int i1), .val (.int i2), .val (.int t0), .unset, .unset] [(.int (f2_0 i1)), (.int (f1_0 i1))]))
  by_cases h35 : (f1_0 i1) = (f2_0 i1)
  · rw [if_pos h35]
    refine Go.pre (st' := T32.setTop (mkF m 38 #[.val (.int i0), .val (.int i1), .val (.int i2), .val (.int t0), .unset, .unset] [])) (fun target kt => ?_) ?_
    · show Steps p.tables e below (T32.setTop (mkF m 35 #[.val (.int i0), .val (.int i1), .val (.int i2), .val (.int t0), .unset, .unset] [(.int (f2_0 i1)), (.int (f1_0 i1))])) _
      refine XS.icmpNo X32.here hx rfl (hb hby at_35) rfl (teq h35).2 ?_
      exact kt
    refine Go.pre (st' := T32.setTop (mkF m 43 #[.val (.int i0), .val (.int i1), .val (.int i2), .val (.int t0), .unset, .unset] [(.int (1 : Int32))])) (fun target kt => ?_) ?_
    · show Steps p.tables e below (T32.setTop (mkF m 38 #[.val (.int i0), .val (.int i1), .val (.int i2), .val (.int t0), .unset, .unset] [])) _
      refine XS.iconst X32.here hx rfl (hb hby at_38) ?_
      show Steps p.tables e below (T32.setTop (mkF m 39 #[.val (.int i0), .val (.int i1), .val (.int i2), .val (.int t0), .unset, .unset] [(.int (1 : Int32))])) _
      refine XS.goto X32.here hx rfl (pc0 := 39) (pc' := 43) rfl (hb hby at_39) (by decide) (by decide) ?_
      exact kt
    exact b0_43 C hw X32 e32 N32 i0 i1 i2 t0 (1 : Int32)
  · rw [if_neg h35]
    refine Go.pre (st' := T32.setTop (mkF m 42 #[.val (.int i0), .val (.int i1), .val (.int i2), .val (.int t0), .unset, .unset] [])) (fun target kt => ?_) ?_
    · show Steps p.tables e below (T32.setTop (mkF m 35 #[.val (.int i0), .val (.int i1), .val (.int i2), .val (.int t0), .unset, .unset] [(.int (f2_0 i1)), (.int (f1_0 i1))])) _
      refine XS.icmpYes X32.here hx rfl (pc0 := 35) (pc' := 42) rfl (hb hby at_35) rfl (feq h35).2 (by decide) (by decide) ?_
      exact kt
    refine Go.pre (st' := T32.setTop (mkF m 43 #[.val (.int i0), .val (.int i1), .val (.int i2), .val (.int t0), .unset, .unset] [(.int (0 : Int32))])) (fun target kt => ?_) ?_
    · show Steps p.tables e below (T32.setTop (mkF m 42 #[.val (.int i0), .val (.int i1), .val (.int i2), .val (.int t0), .unset, .unset] [])) _
      refine XS.iconst X32.here hx rfl (hb hby at_42) ?_
      exact kt
    exact b0_43 C hw X32 e32 N32 i0 i1 i2 t0 (0 : Int32)
set_option maxRecDepth 65536 in
set_option maxHeartbeats 40000000 in
theorem b0_0 {p : Program} {l : Launch} {e : Env} {s : State} {m : MethodId} {args : Array Value} {below : List Frame} {meth : Method} {c : Code} {Z : State} {a0 : Array Value} {T : State} {locs : List Loc} {h0 : Heap} {n0 : Nat} (C : Ctx p s m meth c Z code 6 "com/example/araucaria/araucaria/names/PercentEncodingIsUnreservedPinLaw" (some .boolean)) (hw : ∀ d ∈ tables_1, d.before a0 Z = true)
    (X : Stand p l e room_1 s m args below meth c T locs 0 0) (eT : T.heap = h0) (NL : Fr n0 locs) (i0 : Int32) :
    Go p e below s 0 0 (QV (.int (f0_0 i0)) h0 n0) (T.setTop (mkF m 0 #[.val (.int i0), .unset, .unset, .unset, .unset, .unset] [])) := by
  obtain ⟨hx, hZ, hby, hml, hown, hrt, hlk⟩ := id C
  unfold f0_0
  refine Go.pre (st' := T.setTop (mkF m 11 #[.val (.int i0), .val (.int (i0 &&& (127 : Int32))), .val (.int (i0 &&& (65535 : Int32))), .unset, .unset, .unset] [(.int i0)])) (fun target kt => ?_) ?_
  · show Steps p.tables e below (T.setTop (mkF m 0 #[.val (.int i0), .unset, .unset, .unset, .unset, .unset] [])) _
    refine XS.iloadN X.here hx rfl (hb hby at_0) rfl ?_
    show Steps p.tables e below (T.setTop (mkF m 1 #[.val (.int i0), .unset, .unset, .unset, .unset, .unset] [(.int i0)])) _
    refine XS.bipush X.here hx rfl (hb hby at_1) ?_
    show Steps p.tables e below (T.setTop (mkF m 3 #[.val (.int i0), .unset, .unset, .unset, .unset, .unset] [(.int (127 : Int32)), (.int i0)])) _
    refine XS.iand X.here hx rfl (hb hby at_3) rfl ?_
    show Steps p.tables e below (T.setTop (mkF m 4 #[.val (.int i0), .unset, .unset, .unset, .unset, .unset] [(.int (i0 &&& (127 : Int32)))])) _
    refine XS.istoreN X.here hx rfl (hb hby at_4) rfl (l' := #[.val (.int i0), .val (.int (i0 &&& (127 : Int32))), .unset, .unset, .unset, .unset]) rfl ?_
    show Steps p.tables e below (T.setTop (mkF m 5 #[.val (.int i0), .val (.int (i0 &&& (127 : Int32))), .unset, .unset, .unset, .unset] [])) _
    refine XS.iloadN X.here hx rfl (hb hby at_5) rfl ?_
    show Steps p.tables e below (T.setTop (mkF m 6 #[.val (.int i0), .val (.int (i0 &&& (127 : Int32))), .unset, .unset, .unset, .unset] [(.int i0)])) _
    refine X.ldcInt hx hown (mvT hZ (hw _ (List.mem_of_getElem? (i := 0) rfl))) (g := (mkF m 6 #[.val (.int i0), .val (.int (i0 &&& (127 : Int32))), .unset, .unset, .unset, .unset] [(.int i0)])) rfl (hb hby at_6) _ ?_
    show Steps p.tables e below (T.setTop (mkF m 8 #[.val (.int i0), .val (.int (i0 &&& (127 : Int32))), .unset, .unset, .unset, .unset] [(.int (65535 : Int32)), (.int i0)])) _
    refine XS.iand X.here hx rfl (hb hby at_8) rfl ?_
    show Steps p.tables e below (T.setTop (mkF m 9 #[.val (.int i0), .val (.int (i0 &&& (127 : Int32))), .unset, .unset, .unset, .unset] [(.int (i0 &&& (65535 : Int32)))])) _
    refine XS.istoreN X.here hx rfl (hb hby at_9) rfl (l' := #[.val (.int i0), .val (.int (i0 &&& (127 : Int32))), .val (.int (i0 &&& (65535 : Int32))), .unset, .unset, .unset]) rfl ?_
    show Steps p.tables e below (T.setTop (mkF m 10 #[.val (.int i0), .val (.int (i0 &&& (127 : Int32))), .val (.int (i0 &&& (65535 : Int32))), .unset, .unset, .unset] [])) _
    refine XS.iloadN X.here hx rfl (hb hby at_10) rfl ?_
    exact kt
  obtain ⟨_, _, ⟨T11, L11, k11, n11⟩, -, X11, ⟨Lc11, hQ11, l11, y11, z11⟩, st11⟩ := Jvm.LawKit.callS X hx (y := (⟨"com/example/araucaria/araucaria/names/PercentEncoding", "isUnreserved", "(I)Z"⟩ : MethodName)) hown (mvT hZ (hw _ (List.mem_of_getElem? (i := 1) rfl))) (mvT hZ (hw _ (List.mem_of_getElem? (i := 2) rfl))) (mvT hZ (hw _ (List.mem_of_getElem? (i := 3) rfl))) (mvT hZ (hw _ (List.mem_of_getElem? (i := 4) rfl))) (by decide) (backOf (W := 0) (rm1 l Z a0 hw [] i0 h0 n0) hZ (hw _ (List.mem_of_getElem? (i := 4) rfl)) (hw _ (List.mem_of_getElem? (i := 3) rfl)) (by decide) (by decide)) (g := (mkF m 11 #[.val (.int i0), .val (.int (i0 &&& (127 : Int32))), .val (.int (i0 &&& (65535 : Int32))), .unset, .unset, .unset] [(.int i0)])) rfl (by rw [hml]; rfl) (argsL := [(.int i0)]) (rest := []) (lenOf pd0_46 rfl) rfl (by show 2 * 0 + _ ≤ _; exact Nat.le_of_eq rfl) (hb hby at_11) (fun _ _ => ⟨rfl, eT, (by decide : 0 + 0 ≤ _), (by decide : 0 + 0 ≤ _)⟩)
  dsimp only [Pt.U, Pt.locs, Pt.cells, Pt.slots] at X11 l11 y11 z11 st11 hQ11
  subst l11 y11 z11
  obtain ⟨rfl, N11q, e11⟩ := hQ11
  have N11 := Fr.app NL N11q
  refine Go.pre st11 ?_
  show Go p e below s 0 0 _ (T11.setTop (mkF m 14 #[.val (.int i0), .val (.int (i0 &&& (127 : Int32))), .val (.int (i0 &&& (65535 : Int32))), .unset, .unset, .unset] [(.int (f1_0 i0))]))
  refine Go.pre (st' := T11.setTop (mkF m 15 #[.val (.int i0), .val (.int (i0 &&& (127 : Int32))), .val (.int (i0 &&& (65535 : Int32))), .unset, .unset, .unset] [(.int i0), (.int (f1_0 i0))])) (fun target kt => ?_) ?_
  · show Steps p.tables e below (T11.setTop (mkF m 14 #[.val (.int i0), .val (.int (i0 &&& (127 : Int32))), .val (.int (i0 &&& (65535 : Int32))), .unset, .unset, .unset] [(.int (f1_0 i0))])) _
    refine XS.iloadN X11.here hx rfl (hb hby at_14) rfl ?_
    exact kt
  obtain ⟨_, _, ⟨T15, L15, k15, n15⟩, -, X15, ⟨Lc15, hQ15, l15, y15, z15⟩, st15⟩ := Jvm.LawKit.callS X11 hx (y := (⟨"com/example/araucaria/araucaria/names/PercentEncodingIsUnreservedPinLaw", "reference", "(I)Z"⟩ : MethodName)) hown (mvT hZ (hw _ (List.mem_of_getElem? (i := 5) rfl))) (mvT hZ (hw _ (List.mem_of_getElem? (i := 6) rfl))) (mvT hZ (hw _ (List.mem_of_getElem? (i := 7) rfl))) (mvT hZ (hw _ (List.mem_of_getElem? (i := 8) rfl))) (by decide) (backOf (W := 1) (rm2 l Z a0 hw [] i0 h0 n0) hZ (hw _ (List.mem_of_getElem? (i := 8) rfl)) (hw _ (List.mem_of_getElem? (i := 7) rfl)) (by decide) (by decide)) (g := (mkF m 15 #[.val (.int i0), .val (.int (i0 &&& (127 : Int32))), .val (.int (i0 &&& (65535 : Int32))), .unset, .unset, .unset] [(.int i0), (.int (f1_0 i0))])) rfl (by rw [hml]; rfl) (argsL := [(.int i0)]) (rest := [(.int (f1_0 i0))]) (lenOf pd0_46 rfl) rfl (by show 2 * 0 + _ ≤ _; exact Nat.le_of_eq rfl) (hb hby at_15) (fun _ _ => ⟨rfl, e11, (by decide : 0 + 0 ≤ _), (by decide : 0 + 0 ≤ _)⟩)
  dsimp only [Pt.U, Pt.locs, Pt.cells, Pt.slots] at X15 l15 y15 z15 st15 hQ15
  subst l15 y15 z15
  obtain ⟨rfl, N15q, e15⟩ := hQ15
  have N15 := Fr.app N11 N15q
  refine Go.pre st15 ?_
  show Go p e below s 0 0 _ (T15.setTop (mkF m 18 #[.val (.int i0), .val (.int (i0 &&& (127 : Int32))), .val (.int (i0 &&& (65535 : Int32))), .unset, .unset, .unset] [(.int (f2_0 i0)), (.int (f1_0 i0))]))
  by_cases h18 : (f1_0 i0) = (f2_0 i0)
  · rw [if_pos h18]
    refine Go.pre (st' := T15.setTop (mkF m 21 #[.val (.int i0), .val (.int (i0 &&& (127 : Int32))), .val (.int (i0 &&& (65535 : Int32))), .unset, .unset, .unset] [])) (fun target kt => ?_) ?_
    · show Steps p.tables e below (T15.setTop (mkF m 18 #[.val (.int i0), .val (.int (i0 &&& (127 : Int32))), .val (.int (i0 &&& (65535 : Int32))), .unset, .unset, .unset] [(.int (f2_0 i0)), (.int (f1_0 i0))])) _
      refine XS.icmpNo X15.here hx rfl (hb hby at_18) rfl (teq h18).2 ?_
      exact kt
    refine Go.pre (st' := T15.setTop (mkF m 26 #[.val (.int i0), .val (.int (i0 &&& (127 : Int32))), .val (.int (i0 &&& (65535 : Int32))), .unset, .unset, .unset] [(.int (1 : Int32))])) (fun target kt => ?_) ?_
    · show Steps p.tables e below (T15.setTop (mkF m 21 #[.val (.int i0), .val (.int (i0 &&& (127 : Int32))), .val (.int (i0 &&& (65535 : Int32))), .unset, .unset, .unset] [])) _
      refine XS.iconst X15.here hx rfl (hb hby at_21) ?_
      show Steps p.tables e below (T15.setTop (mkF m 22 #[.val (.int i0), .val (.int (i0 &&& (127 : Int32))), .val (.int (i0 &&& (65535 : Int32))), .unset, .unset, .unset] [(.int (1 : Int32))])) _
      refine XS.goto X15.here hx rfl (pc0 := 22) (pc' := 26) rfl (hb hby at_22) (by decide) (by decide) ?_
      exact kt
    exact b0_26 C hw X15 e15 N15 i0 (i0 &&& (127 : Int32)) (i0 &&& (65535 : Int32)) (1 : Int32)
  · rw [if_neg h18]
    refine Go.pre (st' := T15.setTop (mkF m 25 #[.val (.int i0), .val (.int (i0 &&& (127 : Int32))), .val (.int (i0 &&& (65535 : Int32))), .unset, .unset, .unset] [])) (fun target kt => ?_) ?_
    · show Steps p.tables e below (T15.setTop (mkF m 18 #[.val (.int i0), .val (.int (i0 &&& (127 : Int32))), .val (.int (i0 &&& (65535 : Int32))), .unset, .unset, .unset] [(.int (f2_0 i0)), (.int (f1_0 i0))])) _
      refine XS.icmpYes X15.here hx rfl (pc0 := 18) (pc' := 25) rfl (hb hby at_18) rfl (feq h18).2 (by decide) (by decide) ?_
      exact kt
    refine Go.pre (st' := T15.setTop (mkF m 26 #[.val (.int i0), .val (.int (i0 &&& (127 : Int32))), .val (.int (i0 &&& (65535 : Int32))), .unset, .unset, .unset] [(.int (0 : Int32))])) (fun target kt => ?_) ?_
    · show Steps p.tables e below (T15.setTop (mkF m 25 #[.val (.int i0), .val (.int (i0 &&& (127 : Int32))), .val (.int (i0 &&& (65535 : Int32))), .unset, .unset, .unset] [])) _
      refine XS.iconst X15.here hx rfl (hb hby at_25) ?_
      exact kt
    exact b0_26 C hw X15 e15 N15 i0 (i0 &&& (127 : Int32)) (i0 &&& (65535 : Int32)) (0 : Int32)
set_option maxRecDepth 65536 in
set_option maxHeartbeats 40000000 in
theorem rm0 (l : Launch) (Z : State) (a0 : Array Value) (hw : ∀ d ∈ tables_1, d.before a0 Z = true) (ws : List Jvm.Cond) (x0 : Int32) (h0 : Heap) (n0 : Nat) :
    MetFree l x (head1 (Jvm.Cond.code x code maxLocals ret :: ws) room_1) (fun a U => a = #[(.int x0)] ∧ Z.Warmed39 U.vm ∧ U.heap = h0) (fun _ _ _ _ _ => True) (fun _ U o U' => ∃ v L, o = .returned v ∧ QV (.int (f0_0 x0)) h0 n0 v U'.heap L ∧ FrameEnd U o U' L 0 0) := by
  refine MetFree.of_bodySF (plainFor_of_name pn_0) hisR ?_
  intro p e s m args below meth c s₁ Bd hml0 hP hK
  obtain ⟨rfl, hZ, hh⟩ := hP
  have C : Ctx p s m meth c Z code 6 "com/example/araucaria/araucaria/names/PercentEncodingIsUnreservedPinLaw" (some .boolean) := ⟨Bd.exec, hZ, Bd.bytes, hml0, findClass_of_methodNamed Bd.named, Bd.returns, Bd.notSynchronized⟩
  have X0 : Stand p l e room_1 s m #[(.int x0)] below meth c s₁ [] 0 0 := Stand.of_body Bd
  have e0 : s₁.heap = h0 := by rw [← hh, Bd.state]; rfl
  rw [ef_0 m x0]
  exact b0_0 C hw X0 e0 (Fr.nil n0) x0
/-! the plain law -/
theorem own_small : ∀ n : Fin 128, f1_0 (Int32.ofInt (n.1 : Int)) = f2_0 (Int32.ofInt (n.1 : Int)) := by decide +kernel
theorem own_bit (t : Int32) (h : t = 0 ∨ t = 1) : t &&& 1 = t := by rcases h with rfl | rfl <;> decide
theorem own_out (c : Int32) (h : c.toInt < 0 ∨ 127 < c.toInt) : f1_0 c = f2_0 c := by
  have e2 : f2_0 c = 0 := by
    unfold f2_0 f2_19 f2_71
    by_cases h0 : c < (0 : Int32)
    · rw [if_pos h0]; decide
    · rw [if_neg h0]
      have h1 : ¬ c < (128 : Int32) := by
        rw [Int32.lt_iff_toInt_lt] at h0 ⊢
        have : (0 : Int32).toInt = 0 := by decide
        have : (128 : Int32).toInt = 128 := by decide
        omega
      rw [if_neg h1]; decide
  rw [e2]
  have k : ∀ z : Int32, 0 ≤ z.toInt → z.toInt ≤ 127 → ¬ c = z := fun z h1 h2 e => by subst e; omega
  have n45 : ¬ c = (45 : Int32) := k _ (by decide) (by decide)
  have n46 : ¬ c = (46 : Int32) := k _ (by decide) (by decide)
  have n95 : ¬ c = (95 : Int32) := k _ (by decide) (by decide)
  have n126 : ¬ c = (126 : Int32) := k _ (by decide) (by decide)
  have e36 : f1_36 c = 0 := by
    unfold f1_36 f1_65
    rw [if_neg n45, if_neg n46, if_neg n95, if_neg n126]; decide
  have l : ∀ a b : Int32, 0 ≤ a.toInt → b.toInt ≤ 127 → ¬ (c < a) → b < c := fun a b h1 h2 h3 => by
    rw [Int32.lt_iff_toInt_lt] at h3 ⊢; omega
  have e24 : f1_24 c = 0 := by
    unfold f1_24
    by_cases h1 : c < (48 : Int32)
    · rw [if_pos h1, e36]
    · rw [if_neg h1, if_pos (l 48 57 (by decide) (by decide) h1), e36]
  have e12 : f1_12 c = 0 := by
    unfold f1_12
    by_cases h1 : c < (97 : Int32)
    · rw [if_pos h1, e24]
    · rw [if_neg h1, if_pos (l 97 122 (by decide) (by decide) h1), e24]
  unfold f1_0
  by_cases h1 : c < (65 : Int32)
  · rw [if_pos h1, e12]
  · rw [if_neg h1, if_pos (l 65 90 (by decide) (by decide) h1), e12]
theorem own_same (c : Int32) : f1_0 c = f2_0 c := by
  by_cases h : c.toInt < 0 ∨ 127 < c.toInt
  · exact own_out c h
  · have h1 : 0 ≤ c.toInt := by omega
    have h2 : c.toInt.toNat < 128 := by omega
    have e : Int32.ofInt ((⟨c.toInt.toNat, h2⟩ : Fin 128).1 : Int) = c := by
      show Int32.ofInt ((c.toInt.toNat : Nat) : Int) = c
      rw [Int.toNat_of_nonneg h1, Int32.ofInt_toInt]
    have := own_small ⟨c.toInt.toNat, h2⟩
    rw [e] at this
    exact this
theorem law_eq (a : Int32) : f0_0 a = 1 := by
  unfold f0_0 f0_26 f0_43 f0_61 f0_82
  rw [if_pos (own_same a), if_pos (own_same _), if_pos (own_same _), if_neg (by decide), if_neg (by decide), if_neg (by decide)]
  decide

set_option maxRecDepth 65536 in
set_option maxHeartbeats 40000000 in
theorem comes_1 {Post : Tables → Env → Array Value → State → Outcome → State → Prop} (hpost : ∀ tb e args s v u, (limb_1_1.after args s (.returned v) u = true ∧ limb_1_2.after args s (.returned v) u = true ∧ True) → FrameEnd s (.returned v) u (Jvm.fieldLocs frame_1_writes args s ++ Jvm.arrayLocs frame_1_arrays args s ++ Jvm.staticLocs frame_1_statics s) 0 0 → Post tb e args s (.returned v) u) :
    ArmFor flags0 classFile x code maxLocals ret World_1 tables_1 room_1 Calls_1 rest_1 Pre_1 Post := by
  intro l hfl _ _ p e ha hc hk s m args below hf hA hF happ hP
  obtain ⟨hcalls, hrest, hpre⟩ := hP
  obtain ⟨-, -, -, hnamed, -, -, -, hat⟩ := (Spec.applies_iff hf).mp happ
  obtain ⟨hg, hn⟩ := and_e (Cond.before_iff.mp (show (Jvm.Cond.and given_1 narrow_1).before args s = true from hpre))
  obtain ⟨g0, hg1⟩ := and_e hg
  obtain ⟨w0, rfl⟩ : ∃ w0 : Value, args = #[w0] := by
    have hs : args.size = 1 := by simpa [Cond.value, given_1] using g0
    obtain ⟨L⟩ := args
    match L, hs with
    | [w0], _ => exact ⟨w0, rfl⟩
  have hw := fun d (hd : d ∈ tables_1) => atoms_spec (ws := Jvm.Cond.code x code maxLocals ret :: tables_1) hat d (List.mem_cons_of_mem _ hd)
  obtain ⟨i0, ei0⟩ := is_v hg1
  obtain rfl : w0 = (.int i0) := Option.some.inj ei0
  obtain ⟨n, o, h1, h2, h3, _, L, rfl, ⟨rfl, N, -⟩, hq⟩ := rm0 l s _ hw tables_1 i0 s.heap s.heap.size p e ha hc hk s m _ below hf ((Spec.applies_iff_loose hf).mp happ).1 ⟨rfl, State.Warmed39.refl s, rfl⟩ trivial
  refine ⟨n, _, h1, h2, h3, hpost _ _ _ _ _ _ ⟨Cond.after_iff.mpr rfl, Cond.after_iff.mpr (eq_i res_at (Term.int_eval (1)) (congrArg Value.int (law_eq i0))), trivial⟩ ⟨hq.1, hq.2.1, (hq.2.2.sift fun y hy => Or.inr (N y hy)).mono (by decide) (by decide)⟩⟩
theorem main_1_1 : Claimed_1_1 := comes_1 fun _ _ _ _ _ _ h hF => ⟨h.1, hF⟩
theorem main_1_2 : Claimed_1_2 := comes_1 fun _ _ _ _ _ _ h hF => ⟨h.2.1, hF⟩
end Jvm.Pilot.@@N@@
namespace Jvm.Pilot.@@N@@
open Jvm Jvm.ClassFile Sem Op Lib Jvm.Free Jvm.Stand Jvm.Pilot.@@N@@.Jvm.D
/-! MADE BY PROGRAM (witnessworld.py) out of the Statement's table words and the real class files: 9 classes; the members and pool entries that the words name. The judged class is class 1, her method 2. -/
namespace start1
open Jvm.ClassFile
def u (s : String) : CpInfo := .utf8 (stringToUtf16 s)
/-- a pool by its gaps: so many unusable entries, then the entry; so many at the end -/
def gap : Nat → List CpInfo → List CpInfo
  | 0, r => r
  | n + 1, r => .unusable :: gap n r
def poolList (es : List (Nat × CpInfo)) (last : Nat) : List CpInfo := es.foldr (fun e r => gap e.1 (e.2 :: r)) (gap last [])
def pool (es : List (Nat × CpInfo)) (last : Nat) : Array CpInfo := ⟨poolList es last⟩
def fileOf (pool : Array CpInfo) (this : Nat) (attrs : Array Attribute := #[]) (ms : Array MethodInfo := #[]) (fl : Nat := 33) (sup : Nat := 0) (ifs : Array Nat := #[]) (fds : Array FieldInfo := #[]) : ClassFile where
  minorVersion := 0
  majorVersion := 65
  constantPool := pool
  accessFlags := fl
  thisClass := this
  superClass := sup
  interfaces := ifs
  fields := fds
  methods := ms
  attributes := attrs
def plain (name : String) (sup : Option ClassId) : Class where
  name := name
  kind := .ordinary
  loader := none
  accessFlags := 33
  super := sup
  interfaces := #[]
  cf := none
  fields := #[]
  methods := #[]
  instanceTypes := #[]
  staticTypes := #[]
  resolved := #[]
  callSites := []
  init := .initialized
  statics := none
  mirror := none

def pool0 : Array CpInfo := pool [(5, u "<init>"), (0, u "()V"), (1, .class_ 10), (1, u "java/lang/Object")] 113

def k0m0 : Method := { name := "<init>", desc := "()V", sig := { parameters := [], returnType := none }, accessFlags := 1, code := none }
/-- java/lang/Object -/
def k0 : Class := { plain "java/lang/Object" none with
  accessFlags := 33
  interfaces := #[]
  cf := some (fileOf pool0 8 #[] #[{ accessFlags := 1, nameIndex := 5, descriptorIndex := 6, attributes := #[] }] 33 0 #[] #[])
  fields := #[]
  methods := #[k0m0]
  instanceTypes := #[]
  staticTypes := #[]
  resolved := Array.replicate 124 none
  statics := none }

def pool1 : Array CpInfo := pool [(2, .class_ 4), (1, u "java/lang/Object"), (0, u "<init>"), (0, u "()V"), (0, .long 288054454291267584), (1, .long 5188146764422578174), (1, .integer 65535), (0, .methodref 13 14), (0, .class_ 15), (0, .nameAndType 16 17), (0, u "com/example/araucaria/araucaria/names/PercentEncoding"), (0, u "isUnreserved"), (0, u "(I)Z"), (0, .methodref 19 20), (0, .class_ 21), (0, .nameAndType 22 17), (0, u "com/example/araucaria/araucaria/names/PercentEncodingIsUnreservedPinLaw"), (0, u "reference"), (3, u "law")] 2

def k1m0 : Method := { name := "<init>", desc := "()V", sig := { parameters := [], returnType := none }, accessFlags := 2, code := none }
def k1c1 : Code := { maxStack := 4, maxLocals := 6, code := method_2_code, exceptionTable := #[], attributes := #[] }
def k1m1 : Method := { name := "reference", desc := "(I)Z", sig := { parameters := [.int], returnType := some .boolean }, accessFlags := 10, code := some k1c1 }
def k1c2 : Code := { maxStack := 2, maxLocals := 6, code := code, exceptionTable := #[], attributes := #[] }
def k1m2 : Method := { name := "law", desc := "(I)Z", sig := { parameters := [.int], returnType := some .boolean }, accessFlags := 9, code := some k1c2 }
/-- com/example/araucaria/araucaria/names/PercentEncodingIsUnreservedPinLaw -/
def k1 : Class := { plain "com/example/araucaria/araucaria/names/PercentEncodingIsUnreservedPinLaw" (some 0) with
  accessFlags := 49
  interfaces := #[]
  cf := some (fileOf pool1 19 #[] #[{ accessFlags := 2, nameIndex := 5, descriptorIndex := 6, attributes := #[] }, { accessFlags := 10, nameIndex := 22, descriptorIndex := 17, attributes := #[] }, { accessFlags := 9, nameIndex := 26, descriptorIndex := 17, attributes := #[] }] 49 2 #[] #[])
  fields := #[]
  methods := #[k1m0, k1m1, k1m2]
  instanceTypes := #[]
  staticTypes := #[]
  resolved := Array.replicate 29 none
  statics := none }

def pool2 : Array CpInfo := pool [(2, .class_ 4), (1, u "java/lang/Object"), (0, u "<init>"), (0, u "()V"), (1, .class_ 10), (1, u "com/example/araucaria/araucaria/names/PercentEncoding$Slash"), (3, .class_ 16), (1, u "com/example/araucaria/araucaria/names/PercentEncoding"), (19, u "isUnreserved"), (0, u "(I)Z"), (13, u "HEX_DIGITS"), (0, u "[C")] 163

def k2m0 : Method := { name := "<init>", desc := "()V", sig := { parameters := [], returnType := none }, accessFlags := 2, code := none }
def k2c1 : Code := { maxStack := 2, maxLocals := 1, code := prog_50_method_11_code, exceptionTable := #[], attributes := #[] }
def k2m1 : Method := { name := "isUnreserved", desc := "(I)Z", sig := { parameters := [.int], returnType := some .boolean }, accessFlags := 8, code := some k2c1 }
/-- com/example/araucaria/araucaria/names/PercentEncoding -/
def k2 : Class := { plain "com/example/araucaria/araucaria/names/PercentEncoding" (some 0) with
  accessFlags := 33
  interfaces := #[]
  cf := some (fileOf pool2 14 #[.nestMembers #[8]] #[{ accessFlags := 2, nameIndex := 5, descriptorIndex := 6, attributes := #[] }, { accessFlags := 8, nameIndex := 36, descriptorIndex := 37, attributes := #[] }] 33 2 #[] #[{ accessFlags := 26, nameIndex := 51, descriptorIndex := 52, attributes := #[] }])
  fields := #[{ name := "HEX_DIGITS", type := (.array .char), accessFlags := 26, slot := 0, constantValue := 0 }]
  methods := #[k2m0, k2m1]
  instanceTypes := #[]
  staticTypes := #[(.array .char)]
  resolved := Array.replicate 216 none
  statics := none }

def pool3 : Array CpInfo := pool [(1, u "java/lang/Cloneable"), (0, .class_ 1), (0, u "java/lang/Object"), (0, .class_ 3)] 3

/-- java/lang/Cloneable -/
def k3 : Class := { plain "java/lang/Cloneable" (some 0) with
  accessFlags := 1537
  interfaces := #[]
  cf := some (fileOf pool3 2 #[] #[] 1537 4 #[] #[])
  fields := #[]
  methods := #[]
  instanceTypes := #[]
  staticTypes := #[]
  resolved := Array.replicate 8 none
  statics := none }

def pool4 : Array CpInfo := pool [(1, u "java/io/Serializable"), (0, .class_ 1), (0, u "java/lang/Object"), (0, .class_ 3)] 3

/-- java/io/Serializable -/
def k4 : Class := { plain "java/io/Serializable" (some 0) with
  accessFlags := 1537
  interfaces := #[]
  cf := some (fileOf pool4 2 #[] #[] 1537 4 #[] #[])
  fields := #[]
  methods := #[]
  instanceTypes := #[]
  staticTypes := #[]
  resolved := Array.replicate 8 none
  statics := none }

/-- the primitive byte -/
def k5 : Class := { plain "byte" none with kind := .primitive 'B', accessFlags := 0x411 }
/-- [B -/
def k6 : Class := { plain "[B" (some 0) with kind := .array 5 .byte, interfaces := #[3, 4], accessFlags := 1041 }

/-- the primitive int -/
def k7 : Class := { plain "int" none with kind := .primitive 'I', accessFlags := 0x411 }
/-- [I -/
def k8 : Class := { plain "[I" (some 0) with kind := .array 7 .int, interfaces := #[3, 4], accessFlags := 1041 }

def heap : Heap := #[]
def classes : Array Class := #[k0, k1, k2, k3, k4, k5, k6, k7, k8]
def interned : List (Array UInt16 × Addr) := []
def slotsUsed : Nat := 0
def theMethod : MethodId := ⟨1, 2⟩
def args0 : Array Value := #[.int 65]
def aboutOver (below : List Frame) : State where
  vm := { classes := classes, interned := interned.toArray }
  heap := heap
  slotsUsed := slotsUsed
  threads := #[{ frames := .invoking theMethod args0 :: below }]
def below0 : List Frame := [.native { method := ⟨0, 0⟩, args := #[] }]
def about1 : State := aboutOver below0
def p0 : Program := .bare "" "" ""
def e0 : Env := launch0.env 0 0 0
theorem w_frames : about1.frames = Frame.invoking theMethod args0 :: below0 := rfl
set_option maxRecDepth 65536 in
theorem w_args : argsFit about1.vm theMethod args0 = true := by decide +kernel
set_option maxRecDepth 65536 in
theorem w_heap : heapFits about1 = true := by decide +kernel
set_option maxRecDepth 65536 in
theorem w_runnable : about1.curStatus? = some .runnable := by decide +kernel
set_option maxRecDepth 65536 in
theorem w_alone : about1.alone = true := by decide +kernel
set_option maxRecDepth 65536 in
theorem w_named : about1.methodNamed? x = some theMethod := by decide +kernel
set_option maxRecDepth 65536 in
theorem w_hears : about1.hears theMethod below0 = true := by decide +kernel
set_option maxRecDepth 65536 in
theorem w_ripe : about1.ripe theMethod args0 below0 = true := by decide +kernel
theorem w_running : about1.status = .running := rfl
set_option maxRecDepth 65536 in
theorem w_room : about1.hasRoom e0.platform room_1 = true :=
  launch0.hasRoom_least _ room_1 (by decide +kernel) (by decide +kernel) (by decide +kernel) (by decide +kernel) (by decide +kernel) (by decide +kernel)
theorem allAtoms_all (ts : List Jvm.Cond) (a : Array Jvm.Value) (st : Jvm.State) : (allAtoms ts).before a st = ts.all (fun c => c.before a st) := by
  induction ts with
  | nil => rfl
  | cons c t ih =>
    show (Jvm.Cond.and c (allAtoms t)).before a st = _
    rw [Jvm.Cond.before_and, ih, List.all_cons]
def words1 : List Jvm.Cond := Jvm.Cond.code x code maxLocals ret :: tables_1
/-- a 'code' word, met by the world's own term for the bytes: nothing is compared byte by byte -/
theorem code_word {y : MethodName} {bytes : ByteArray} {mx : Nat} {rt : Option FieldType} {a : Array Value} {s : State} {m : MethodId} {meth : Method} {c : Code} (h1 : s.methodNamed? y = some m) (h2 : s.vm.method? m = some meth) (h3 : meth.code = some c) (h4 : c.code = bytes)
    (h5 : (c.maxLocals == mx && c.exceptionTable.isEmpty && decide (c.maxStack ≤ mostOperands) && decide (meth.sig.returnType = rt) && !meth.locks && decide (parseMethodDescriptor y.desc = some meth.sig)) = true) : (Jvm.Cond.code y bytes mx rt).before a s = true := by
  simp only [Bool.and_eq_true, beq_iff_eq, Bool.not_eq_true', decide_eq_true_eq] at h5
  obtain ⟨⟨⟨⟨⟨g1, g2⟩, g3⟩, g4⟩, g5⟩, g6⟩ := h5
  simp [Cond.before, Cond.holds, Cond.value, h1, h2, h3, h4, g1, g2, g3, g4, g5, g6]
def isCode : Jvm.Cond → Bool
  | .code _ _ _ _ => true
  | _ => false
theorem all_split {L : List Jvm.Cond} {P : Jvm.Cond → Bool} (h1 : L.all (fun c => isCode c || P c) = true) (h2 : ∀ c ∈ L.filter isCode, P c = true) : L.all P = true := by
  refine List.all_eq_true.mpr fun c hc => ?_
  have h := List.all_eq_true.mp h1 c hc
  rcases Bool.eq_false_or_eq_true (isCode c) with hi | hi
  · exact h2 c (List.mem_filter.mpr ⟨hc, hi⟩)
  · simpa [hi] using h
set_option maxRecDepth 65536 in
theorem w_c0 : (Jvm.Cond.code x code maxLocals ret).before args0 about1 = true := code_word (m := ⟨1, 2⟩) (meth := k1m2) (c := k1c2) (by decide +kernel) rfl rfl rfl (by decide +kernel)
set_option maxRecDepth 65536 in
theorem w_c1 : (Jvm.Cond.code ({ cls := "com/example/araucaria/araucaria/names/PercentEncoding", name := "isUnreserved", desc := "(I)Z" } : Jvm.MethodName) prog_50_method_11_code (1 : Nat) (Option.some Jvm.ClassFile.FieldType.boolean)).before args0 about1 = true := code_word (m := ⟨2, 1⟩) (meth := k2m1) (c := k2c1) (by decide +kernel) rfl rfl rfl (by decide +kernel)
set_option maxRecDepth 65536 in
theorem w_c2 : (Jvm.Cond.code ({ cls := "com/example/araucaria/araucaria/names/PercentEncodingIsUnreservedPinLaw", name := "reference", desc := "(I)Z" } : Jvm.MethodName) method_2_code (6 : Nat) (Option.some Jvm.ClassFile.FieldType.boolean)).before args0 about1 = true := code_word (m := ⟨1, 1⟩) (meth := k1m1) (c := k1c1) (by decide +kernel) rfl rfl rfl (by decide +kernel)
def codes1 : List Jvm.Cond := [Jvm.Cond.code x code maxLocals ret, Jvm.Cond.code ({ cls := "com/example/araucaria/araucaria/names/PercentEncoding", name := "isUnreserved", desc := "(I)Z" } : Jvm.MethodName) prog_50_method_11_code (1 : Nat) (Option.some Jvm.ClassFile.FieldType.boolean), Jvm.Cond.code ({ cls := "com/example/araucaria/araucaria/names/PercentEncodingIsUnreservedPinLaw", name := "reference", desc := "(I)Z" } : Jvm.MethodName) method_2_code (6 : Nat) (Option.some Jvm.ClassFile.FieldType.boolean)]
set_option maxRecDepth 65536 in
theorem codes_eq : words1.filter isCode = codes1 := rfl
theorem w_codes : ∀ c ∈ words1.filter isCode, c.before args0 about1 = true := by
  rw [codes_eq]
  intro c hc
  simp only [codes1, List.mem_cons, List.not_mem_nil, or_false] at hc
  rcases hc with rfl | rfl | rfl
  · exact w_c0
  · exact w_c1
  · exact w_c2
set_option maxRecDepth 65536 in
theorem w_t1 : words1.all (fun c => isCode c || c.before args0 about1) = true := by decide +kernel
theorem w_tables : (allAtoms (Jvm.Cond.code x code maxLocals ret :: tables_1)).before args0 about1 = true := by
  rw [allAtoms_all]
  show words1.all (fun c => c.before args0 about1) = true
  refine all_split ?_ w_codes
  rw [w_t1]
set_option maxRecDepth 65536 in
theorem w_case : (Jvm.Cond.and given_1 narrow_1).before args0 about1 = true := by decide +kernel
theorem w_applies : (headSpec (Jvm.Cond.code x code maxLocals ret :: tables_1) room_1).applies x e0.platform about1 = true :=
  (Spec.applies_iff w_frames).mpr ⟨w_running, w_runnable, w_alone, w_named, w_hears, w_ripe, w_room, w_tables⟩
theorem atStart : AtStart classFile x code maxLocals ret World_1 tables_1 room_1 Calls_1 rest_1 Pre_1 launch0 p0 e0 about1 theMethod args0 below0 :=
  ⟨lists_1, trivial, launch0.admits_env _ _ _, launch0.least_env, fairChoices_fair.cas, fairChoices_fair.clock, w_frames, w_args, w_heap, w_applies, trivial, trivial, w_case⟩
end start1
theorem witness_1 : WitnessClaimed_1 := ⟨start1.p0, start1.e0, start1.about1, start1.theMethod, start1.args0, start1.below0, start1.atStart⟩
end Jvm.Pilot.@@N@@
