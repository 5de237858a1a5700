import JvmDerived
import JvmDerived.Pilot.@@N@@Statement
import JvmDerived.Pilot.@@N@@Code
set_option linter.unusedVariables false
set_option linter.unusedSimpArgs false
namespace Jvm.Pilot.@@N@@
open Jvm Jvm.ClassFile Sem Op Lib Jvm.Free Jvm.Stand Jvm.LawKit Jvm.RoadKit Bundle Jvm.Pilot.@@N@@.Jvm.D
/-! 0. the run from a state on, said once: it ends, and how -/
def Go (p : Program) (e : Env) (below : List Frame) (s : State) (K N : Nat) (Q : Option Value → Heap → List Loc → Prop) (st : State) : Prop :=
  ∃ s₂ o, Steps p.tables e below st s₂ ∧ s₂.status = .running ∧ Ended s₂ below o ∧ ∃ v L, o = .returned v ∧ Q v s₂.heap L ∧ FrameEnd s o s₂ L K N
/-- what is known of the walk all along -/
def Ctx (p : Program) (s : State) (m : MethodId) (meth : Method) (c : Code) (Z : State) (bytes : ByteArray) (maxl : Nat) (own : String) (ret : Option FieldType) : Prop :=
  p.tables.exec = Jvm.exec ∧ Z.Warmed39 s.vm ∧ c.code = bytes ∧ c.maxLocals = maxl ∧ s.vm.findClass own = some m.cls ∧ meth.sig.returnType = ret ∧ meth.locks = false
/-- a value comes back, the heap is as it was -/
def QV (w : Value) (h0 : Heap) (n0 : Nat) (v : Option Value) (h : Heap) (L : List Loc) : Prop := v = some w ∧ Fr n0 L ∧ h = h0
section Own
variable {p : Program} {l : Launch} {e : Env} {R : Room} {s : State} {m : MethodId} {args : Array Value} {below : List Frame} {meth : Method} {c : Code} {T : State} {locs : List Loc} {cells slots K N : Nat} {Q : Option Value → Heap → List Loc → Prop} {st st' : State}
theorem Go.pre (h : ∀ t, Steps p.tables e below st' t → Steps p.tables e below st t) (k : Go p e below s K N Q st') : Go p e below s K N Q st := by
  obtain ⟨s₂, o, h1, h2⟩ := k; exact ⟨s₂, o, h _ h1, h2⟩
theorem Go.trans (h : Steps p.tables e below st st') (k : Go p e below s K N Q st') : Go p e below s K N Q st := by
  obtain ⟨s₂, o, h1, h2⟩ := k; exact ⟨s₂, o, h.trans h1, h2⟩
theorem Go.mono {Q' : Option Value → Heap → List Loc → Prop} (k : Go p e below s K N Q st) (h : ∀ v h L, Q v h L → Q' v h L) : Go p e below s K N Q' st := by
  obtain ⟨s₂, o, h1, h2, h3, v, L, h4, h5, h6⟩ := k; exact ⟨s₂, o, h1, h2, h3, v, L, h4, h _ _ _ h5, h6⟩
theorem Go.retN (X : Stand p l e R s m args below meth c T locs cells slots) (hx : p.tables.exec = Jvm.exec) (hlk : meth.locks = false) {pc : Nat} {Ls : Array Slot} {z z' : Int32} {t : FieldType} {rest : List Value} (hret : meth.sig.returnType = some t) (ht : t = .boolean ∨ t = .byte ∨ t = .char ∨ t = .short)
    (hd : decode c.code pc = .ok (.ireturn, 1)) (hz : nar t z = z') (hk : cells ≤ K) (hn : slots ≤ N) (hQ : Q (some (.int z')) T.heap locs) : Go p e below s K N Q (T.setTop (mkF m pc Ls (.int z :: rest))) := by
  subst hz
  obtain ⟨fs, hr, hrun, hended, hW, hsame⟩ := X.leave (v := some (.int (nar t z))) (fun h => by rw [hret] at h; cases h) hlk
  exact ⟨_, _, Jvm.RoadKit.retN X hx hret ht hd hr, hrun, hended, _, _, rfl, hQ, ⟨_, rfl⟩, hW, hsame.mono hk hn⟩
theorem Go.retV (X : Stand p l e R s m args below meth c T locs cells slots) (hx : p.tables.exec = Jvm.exec) (hlk : meth.locks = false) {pc : Nat} {Ls : Array Slot} {w : Value} {t : FieldType} {i : Instr} {rest : List Value} (hret : meth.sig.returnType = some t) (hnr : narrow t w = w)
    (hi : (i = .ireturn ∧ (t = .int ∨ t = .boolean ∨ t = .byte ∨ t = .char ∨ t = .short) ∧ ∃ z, w = .int z) ∨ (i = .lreturn ∧ t = .long ∧ ∃ z, w = .long z) ∨ (i = .dreturn ∧ t = .double ∧ ∃ z, w = .double z) ∨ (i = .freturn ∧ t = .float ∧ ∃ z, w = .float z) ∨ (i = .areturn ∧ t.isReference = true ∧ w.isRef = true))
    (hd : decode c.code pc = .ok (i, 1)) (hk : cells ≤ K) (hn : slots ≤ N) (hQ : Q (some w) T.heap locs) : Go p e below s K N Q (T.setTop (mkF m pc Ls (w :: rest))) := by
  obtain ⟨fs, hr, hrun, hended, hW, hsame⟩ := X.leave (v := some w) (fun h => by rw [hret] at h; cases h) hlk
  exact ⟨_, _, retOut X hx hret hnr hi hd hr, hrun, hended, _, _, rfl, hQ, ⟨_, rfl⟩, hW, hsame.mono hk hn⟩
theorem Go.ret0 (X : Stand p l e R s m args below meth c T locs cells slots) (hx : p.tables.exec = Jvm.exec) (hlk : meth.locks = false) {pc : Nat} {Ls : Array Slot} (hret : meth.sig.returnType = none)
    (hd : decode c.code pc = .ok (.return_, 1)) (hk : cells ≤ K) (hn : slots ≤ N) (hQ : Q none T.heap locs) : Go p e below s K N Q (T.setTop (mkF m pc Ls [])) := by
  obtain ⟨fs, hr, hrun, hended, hW, hsame⟩ := X.leave (v := none) (fun _ => rfl) hlk
  exact ⟨_, _, X.returnOut hx hret hd hr, hrun, hended, _, _, rfl, hQ, ⟨_, rfl⟩, hW, hsame.mono hk hn⟩
end Own

/-! more of the kit's kind -/
/-- every field keeps what it held, but for the places in ps -/
def KF (Z : State) (h0 h : Heap) (ps : List (Addr × Nat)) : Prop := ∀ (b : Addr) (O n d : String) (w : Value), Fld Z h0 b O n d w → (∀ p ∈ ps, b ≠ p.1 ∨ Jvm.RoadKit.slotOf Z O n d ≠ p.2) → Fld Z h b O n d w
theorem KF.refl (Z : State) (h0 : Heap) (ps : List (Addr × Nat)) : KF Z h0 h0 ps := fun _ _ _ _ _ F _ => F
theorem KF.ext {Z : State} {h0 h h' : Heap} {ps : List (Addr × Nat)} (K : KF Z h0 h ps) (E : Ext h h') : KF Z h0 h' ps := fun b O n d w F q => (K b O n d w F q).ext E
theorem KF.wr {Z : State} {h0 h h' : Heap} {ps : List (Addr × Nat)} {a : Addr} {sl : Nat} {v : Value} (K : KF Z h0 h ps) (W : Wr h h' a sl v) (q : (a, sl) ∈ ps ∨ h0.size ≤ a) : KF Z h0 h' ps := fun b O n d w F r => by
  refine (K b O n d w F r).other W ?_
  rcases q with q | q
  · exact r _ q
  · exact Or.inl (Nat.ne_of_lt (Nat.lt_of_lt_of_le F.lt q))
theorem KF.trans {Z : State} {h0 h h' : Heap} {ps ps' : List (Addr × Nat)} (K : KF Z h0 h ps) (K' : KF Z h h' ps') (q : ∀ p ∈ ps', p ∈ ps ∨ h0.size ≤ p.1) : KF Z h0 h' ps := fun b O n d w F r => by
  refine K' b O n d w (K b O n d w F r) fun p hp => ?_
  rcases q p hp with q | q
  · exact r _ q
  · exact Or.inl (Nat.ne_of_lt (Nat.lt_of_lt_of_le F.lt q))
theorem pall0 {P : Addr × Nat → Prop} : ∀ x ∈ ([] : List (Addr × Nat)), P x := fun _ q => nomatch q
theorem pallS {P : Addr × Nat → Prop} {y : Addr × Nat} {L : List (Addr × Nat)} (q : P y) (r : ∀ x ∈ L, P x) : ∀ x ∈ y :: L, P x := fun x z => (List.mem_cons.mp z).elim (fun u => u ▸ q) (r x)
theorem padS {p : Program} {l : Launch} {e : Env} {R : Room} {s : State} {m : MethodId} {args : Array Value} {below : List Frame} {meth : Method} {c : Code} {T : State} {locs : List Loc} {k n k' n' : Nat} (X : Stand p l e R s m args below meth c T locs k n) (h1 : k ≤ k') (h2 : n ≤ n') : Stand p l e R s m args below meth c T locs k' n' :=
  ⟨X.admits, X.cas, X.clock, X.frames, X.room, X.hears, X.method, X.code, X.here, X.tail, X.warmed, X.limits, X.bytes, X.same.mono h1 h2⟩
theorem and11 (x : Int32) : nar .boolean (x &&& 1) = x &&& 1 := by
  show x &&& 1 &&& 1 = x &&& 1
  rw [Int32.and_assoc]; rfl
theorem fits_and1 (x : Int32) : fits .boolean (.int (x &&& 1)) = true := fits_nar_bool x
theorem narV {C : String} {v : Value} (h : v.isRef = true) : narrow (.object C) v = v := by rcases ref_cases h with rfl | ⟨a, rfl⟩ <;> rfl
theorem fitV {C : String} {v : Value} (h : v.isRef = true) : fits (.object C) v = true := by rcases ref_cases h with rfl | ⟨a, rfl⟩ <;> rfl

def own_sel (k : Int32) (z0 z1 z2 z3 z4 z5 z6 z7 z8 z9 z10 z11 z12 z13 z14 : Addr) : Addr := if k = (0 : Int32) then z0 else if k = (1 : Int32) then z1 else if k = (2 : Int32) then z2 else if k = (3 : Int32) then z3 else if k = (4 : Int32) then z4 else if k = (5 : Int32) then z5 else if k = (6 : Int32) then z6 else if k = (7 : Int32) then z7 else if k = (8 : Int32) then z8 else if k = (9 : Int32) then z9 else if k = (10 : Int32) then z10 else if k = (11 : Int32) then z11 else if k = (12 : Int32) then z12 else if k = (13 : Int32) then z13 else z14
def own_key (a zD zF zB : Addr) : Int32 := if a = zD then 0 else if a = zF then 0 else if a = zB then 0 else 1
theorem own_selE {Z : State} {h : Heap} {C : String} (k : Int32) (z0 z1 z2 z3 z4 z5 z6 z7 z8 z9 z10 z11 z12 z13 z14 : Addr) (e0 : Exa Z h z0 C) (e1 : Exa Z h z1 C) (e2 : Exa Z h z2 C) (e3 : Exa Z h z3 C) (e4 : Exa Z h z4 C) (e5 : Exa Z h z5 C) (e6 : Exa Z h z6 C) (e7 : Exa Z h z7 C) (e8 : Exa Z h z8 C) (e9 : Exa Z h z9 C) (e10 : Exa Z h z10 C) (e11 : Exa Z h z11 C) (e12 : Exa Z h z12 C) (e13 : Exa Z h z13 C) (e14 : Exa Z h z14 C) : Exa Z h (own_sel k z0 z1 z2 z3 z4 z5 z6 z7 z8 z9 z10 z11 z12 z13 z14) C := by
  unfold own_sel
  by_cases h0 : k = (0 : Int32)
  · rw [if_pos h0]; exact e0
  rw [if_neg h0]
  by_cases h1 : k = (1 : Int32)
  · rw [if_pos h1]; exact e1
  rw [if_neg h1]
  by_cases h2 : k = (2 : Int32)
  · rw [if_pos h2]; exact e2
  rw [if_neg h2]
  by_cases h3 : k = (3 : Int32)
  · rw [if_pos h3]; exact e3
  rw [if_neg h3]
  by_cases h4 : k = (4 : Int32)
  · rw [if_pos h4]; exact e4
  rw [if_neg h4]
  by_cases h5 : k = (5 : Int32)
  · rw [if_pos h5]; exact e5
  rw [if_neg h5]
  by_cases h6 : k = (6 : Int32)
  · rw [if_pos h6]; exact e6
  rw [if_neg h6]
  by_cases h7 : k = (7 : Int32)
  · rw [if_pos h7]; exact e7
  rw [if_neg h7]
  by_cases h8 : k = (8 : Int32)
  · rw [if_pos h8]; exact e8
  rw [if_neg h8]
  by_cases h9 : k = (9 : Int32)
  · rw [if_pos h9]; exact e9
  rw [if_neg h9]
  by_cases h10 : k = (10 : Int32)
  · rw [if_pos h10]; exact e10
  rw [if_neg h10]
  by_cases h11 : k = (11 : Int32)
  · rw [if_pos h11]; exact e11
  rw [if_neg h11]
  by_cases h12 : k = (12 : Int32)
  · rw [if_pos h12]; exact e12
  rw [if_neg h12]
  by_cases h13 : k = (13 : Int32)
  · rw [if_pos h13]; exact e13
  rw [if_neg h13]
  exact e14
/-! ScalarTypeIsMapKeyPinLaw.pick (1) -/
theorem d1_0 : decode method_2_code 0 = .ok (.iload_n 0, 1) := by decide +kernel
theorem d1_1 : decode method_2_code 1 = .ok (.ifCond .ne 7, 3) := by decide +kernel
theorem d1_4 : decode method_2_code 4 = .ok (.getstatic 7, 3) := by decide +kernel
theorem d1_7 : decode method_2_code 7 = .ok (.areturn, 1) := by decide +kernel
theorem d1_8 : decode method_2_code 8 = .ok (.iload_n 0, 1) := by decide +kernel
theorem d1_9 : decode method_2_code 9 = .ok (.iconst 1, 1) := by decide +kernel
theorem d1_10 : decode method_2_code 10 = .ok (.if_icmp .ne 7, 3) := by decide +kernel
theorem d1_13 : decode method_2_code 13 = .ok (.getstatic 13, 3) := by decide +kernel
theorem d1_16 : decode method_2_code 16 = .ok (.areturn, 1) := by decide +kernel
theorem d1_17 : decode method_2_code 17 = .ok (.iload_n 0, 1) := by decide +kernel
theorem d1_18 : decode method_2_code 18 = .ok (.iconst 2, 1) := by decide +kernel
theorem d1_19 : decode method_2_code 19 = .ok (.if_icmp .ne 7, 3) := by decide +kernel
theorem d1_22 : decode method_2_code 22 = .ok (.getstatic 16, 3) := by decide +kernel
theorem d1_25 : decode method_2_code 25 = .ok (.areturn, 1) := by decide +kernel
theorem d1_26 : decode method_2_code 26 = .ok (.iload_n 0, 1) := by decide +kernel
theorem d1_27 : decode method_2_code 27 = .ok (.iconst 3, 1) := by decide +kernel
theorem d1_28 : decode method_2_code 28 = .ok (.if_icmp .ne 7, 3) := by decide +kernel
theorem d1_31 : decode method_2_code 31 = .ok (.getstatic 19, 3) := by decide +kernel
theorem d1_34 : decode method_2_code 34 = .ok (.areturn, 1) := by decide +kernel
theorem d1_35 : decode method_2_code 35 = .ok (.iload_n 0, 1) := by decide +kernel
theorem d1_36 : decode method_2_code 36 = .ok (.iconst 4, 1) := by decide +kernel
theorem d1_37 : decode method_2_code 37 = .ok (.if_icmp .ne 7, 3) := by decide +kernel
theorem d1_40 : decode method_2_code 40 = .ok (.getstatic 22, 3) := by decide +kernel
theorem d1_43 : decode method_2_code 43 = .ok (.areturn, 1) := by decide +kernel
theorem d1_44 : decode method_2_code 44 = .ok (.iload_n 0, 1) := by decide +kernel
theorem d1_45 : decode method_2_code 45 = .ok (.iconst 5, 1) := by decide +kernel
theorem d1_46 : decode method_2_code 46 = .ok (.if_icmp .ne 7, 3) := by decide +kernel
theorem d1_49 : decode method_2_code 49 = .ok (.getstatic 25, 3) := by decide +kernel
theorem d1_52 : decode method_2_code 52 = .ok (.areturn, 1) := by decide +kernel
theorem d1_53 : decode method_2_code 53 = .ok (.iload_n 0, 1) := by decide +kernel
theorem d1_54 : decode method_2_code 54 = .ok (.bipush 6, 2) := by decide +kernel
theorem d1_56 : decode method_2_code 56 = .ok (.if_icmp .ne 7, 3) := by decide +kernel
theorem d1_59 : decode method_2_code 59 = .ok (.getstatic 28, 3) := by decide +kernel
theorem d1_62 : decode method_2_code 62 = .ok (.areturn, 1) := by decide +kernel
theorem d1_63 : decode method_2_code 63 = .ok (.iload_n 0, 1) := by decide +kernel
theorem d1_64 : decode method_2_code 64 = .ok (.bipush 7, 2) := by decide +kernel
theorem d1_66 : decode method_2_code 66 = .ok (.if_icmp .ne 7, 3) := by decide +kernel
theorem d1_69 : decode method_2_code 69 = .ok (.getstatic 31, 3) := by decide +kernel
theorem d1_72 : decode method_2_code 72 = .ok (.areturn, 1) := by decide +kernel
theorem d1_73 : decode method_2_code 73 = .ok (.iload_n 0, 1) := by decide +kernel
theorem d1_74 : decode method_2_code 74 = .ok (.bipush 8, 2) := by decide +kernel
theorem d1_76 : decode method_2_code 76 = .ok (.if_icmp .ne 7, 3) := by decide +kernel
theorem d1_79 : decode method_2_code 79 = .ok (.getstatic 34, 3) := by decide +kernel
theorem d1_82 : decode method_2_code 82 = .ok (.areturn, 1) := by decide +kernel
theorem d1_83 : decode method_2_code 83 = .ok (.iload_n 0, 1) := by decide +kernel
theorem d1_84 : decode method_2_code 84 = .ok (.bipush 9, 2) := by decide +kernel
theorem d1_86 : decode method_2_code 86 = .ok (.if_icmp .ne 7, 3) := by decide +kernel
theorem d1_89 : decode method_2_code 89 = .ok (.getstatic 37, 3) := by decide +kernel
theorem d1_92 : decode method_2_code 92 = .ok (.areturn, 1) := by decide +kernel
theorem d1_93 : decode method_2_code 93 = .ok (.iload_n 0, 1) := by decide +kernel
theorem d1_94 : decode method_2_code 94 = .ok (.bipush 10, 2) := by decide +kernel
theorem d1_96 : decode method_2_code 96 = .ok (.if_icmp .ne 7, 3) := by decide +kernel
theorem d1_99 : decode method_2_code 99 = .ok (.getstatic 40, 3) := by decide +kernel
theorem d1_102 : decode method_2_code 102 = .ok (.areturn, 1) := by decide +kernel
theorem d1_103 : decode method_2_code 103 = .ok (.iload_n 0, 1) := by decide +kernel
theorem d1_104 : decode method_2_code 104 = .ok (.bipush 11, 2) := by decide +kernel
theorem d1_106 : decode method_2_code 106 = .ok (.if_icmp .ne 7, 3) := by decide +kernel
theorem d1_109 : decode method_2_code 109 = .ok (.getstatic 43, 3) := by decide +kernel
theorem d1_112 : decode method_2_code 112 = .ok (.areturn, 1) := by decide +kernel
theorem d1_113 : decode method_2_code 113 = .ok (.iload_n 0, 1) := by decide +kernel
theorem d1_114 : decode method_2_code 114 = .ok (.bipush 12, 2) := by decide +kernel
theorem d1_116 : decode method_2_code 116 = .ok (.if_icmp .ne 7, 3) := by decide +kernel
theorem d1_119 : decode method_2_code 119 = .ok (.getstatic 46, 3) := by decide +kernel
theorem d1_122 : decode method_2_code 122 = .ok (.areturn, 1) := by decide +kernel
theorem d1_123 : decode method_2_code 123 = .ok (.iload_n 0, 1) := by decide +kernel
theorem d1_124 : decode method_2_code 124 = .ok (.bipush 13, 2) := by decide +kernel
theorem d1_126 : decode method_2_code 126 = .ok (.if_icmp .ne 7, 3) := by decide +kernel
theorem d1_129 : decode method_2_code 129 = .ok (.getstatic 49, 3) := by decide +kernel
theorem d1_132 : decode method_2_code 132 = .ok (.areturn, 1) := by decide +kernel
theorem d1_133 : decode method_2_code 133 = .ok (.getstatic 52, 3) := by decide +kernel
theorem d1_136 : decode method_2_code 136 = .ok (.areturn, 1) := by decide +kernel
theorem pn_1 : plainName "com/example/araucaria/araucaria/proto/ScalarTypeIsMapKeyPinLaw" = true := by first | (simp [plainName, overriddenIn]; done) | decide +kernel
theorem ef_1 (m : MethodId) (p0 : Int32) : entryFrame m #[(.int p0)] 1 = (mkF m 0 #[.val (.int p0)] []) := by first | (simp [entryFrame, mkF, argsToLocals, Value.category]; done) | rfl
def Q1 (Z : State) (p0 : Int32) (z2 : Addr) (z5 : Addr) (z8 : Addr) (z11 : Addr) (z14 : Addr) (z17 : Addr) (z20 : Addr) (z23 : Addr) (z26 : Addr) (z29 : Addr) (z32 : Addr) (z35 : Addr) (z38 : Addr) (z41 : Addr) (z43 : Addr) (h0 : Heap) (n0 : Nat) (v : Option Value) (h : Heap) (L : List Loc) : Prop := v = some (.ref (own_sel p0 z2 z5 z8 z11 z14 z17 z20 z23 z26 z29 z32 z35 z38 z41 z43)) ∧ Fr n0 L ∧ h = h0
set_option maxRecDepth 65536 in
set_option maxHeartbeats 40000000 in
theorem rm1 (l : Launch) (Z : State) (a0 : Array Value) (hw : ∀ d ∈ tables_1, d.before a0 Z = true) (ws : List Jvm.Cond) (p0 : Int32) (z2 : Addr) (z5 : Addr) (z8 : Addr) (z11 : Addr) (z14 : Addr) (z17 : Addr) (z20 : Addr) (z23 : Addr) (z26 : Addr) (z29 : Addr) (z32 : Addr) (z35 : Addr) (z38 : Addr) (z41 : Addr) (z43 : Addr) (h0 : Heap) (n0 : Nat) (Z0 : n0 ≤ h0.size) (S_DOUBLE : Sta Z Z.heap "com/example/araucaria/araucaria/proto/ScalarType" "DOUBLE" "Lcom/example/araucaria/araucaria/proto/ScalarType;" (.ref z2)) (Ol : Old Z n0 h0) (S_FLOAT : Sta Z Z.heap "com/example/araucaria/araucaria/proto/ScalarType" "FLOAT" "Lcom/example/araucaria/araucaria/proto/ScalarType;" (.ref z5)) (S_INT32 : Sta Z Z.heap "com/example/araucaria/araucaria/proto/ScalarType" "INT32" "Lcom/example/araucaria/araucaria/proto/ScalarType;" (.ref z8)) (S_UINT32 : Sta Z Z.heap "com/example/araucaria/araucaria/proto/ScalarType" "UINT32" "Lcom/example/araucaria/araucaria/proto/ScalarType;" (.ref z11)) (S_SINT32 : Sta Z Z.heap "com/example/araucaria/araucaria/proto/ScalarType" "SINT32" "Lcom/example/araucaria/araucaria/proto/ScalarType;" (.ref z14)) (S_FIXED32 : Sta Z Z.heap "com/example/araucaria/araucaria/proto/ScalarType" "FIXED32" "Lcom/example/araucaria/araucaria/proto/ScalarType;" (.ref z17)) (S_SFIXED32 : Sta Z Z.heap "com/example/araucaria/araucaria/proto/ScalarType" "SFIXED32" "Lcom/example/araucaria/araucaria/proto/ScalarType;" (.ref z20)) (S_INT64 : Sta Z Z.heap "com/example/araucaria/araucaria/proto/ScalarType" "INT64" "Lcom/example/araucaria/araucaria/proto/ScalarType;" (.ref z23)) (S_UINT64 : Sta Z Z.heap "com/example/araucaria/araucaria/proto/ScalarType" "UINT64" "Lcom/example/araucaria/araucaria/proto/ScalarType;" (.ref z26)) (S_SINT64 : Sta Z Z.heap "com/example/araucaria/araucaria/proto/ScalarType" "SINT64" "Lcom/example/araucaria/araucaria/proto/ScalarType;" (.ref z29)) (S_FIXED64 : Sta Z Z.heap "com/example/araucaria/araucaria/proto/ScalarType" "FIXED64" "Lcom/example/araucaria/araucaria/proto/ScalarType;" (.ref z32)) (S_SFIXED64 : Sta Z Z.heap "com/example/araucaria/araucaria/proto/ScalarType" "SFIXED64" "Lcom/example/araucaria/araucaria/proto/ScalarType;" (.ref z35)) (S_BOOL : Sta Z Z.heap "com/example/araucaria/araucaria/proto/ScalarType" "BOOL" "Lcom/example/araucaria/araucaria/proto/ScalarType;" (.ref z38)) (S_STRING : Sta Z Z.heap "com/example/araucaria/araucaria/proto/ScalarType" "STRING" "Lcom/example/araucaria/araucaria/proto/ScalarType;" (.ref z41)) (S_BYTES : Sta Z Z.heap "com/example/araucaria/araucaria/proto/ScalarType" "BYTES" "Lcom/example/araucaria/araucaria/proto/ScalarType;" (.ref z43)) :
    MetFree l (⟨"com/example/araucaria/araucaria/proto/ScalarTypeIsMapKeyPinLaw", "pick", "(I)Lcom/example/araucaria/araucaria/proto/ScalarType;"⟩ : MethodName) (head1 (Jvm.Cond.code (⟨"com/example/araucaria/araucaria/proto/ScalarTypeIsMapKeyPinLaw", "pick", "(I)Lcom/example/araucaria/araucaria/proto/ScalarType;"⟩ : MethodName) method_2_code 1 (some (.object "com/example/araucaria/araucaria/proto/ScalarType")) :: ws) ({ frames := 0, cells := 0, slots := 0, locals := 0 } : Room)) (fun a U => a = #[(.int p0)] ∧ Z.Warmed39 U.vm ∧ U.heap = h0) (fun _ _ _ _ _ => True) (fun _ U o U' => ∃ v L, o = .returned v ∧ Q1 Z p0 z2 z5 z8 z11 z14 z17 z20 z23 z26 z29 z32 z35 z38 z41 z43 h0 n0 v U'.heap L ∧ FrameEnd U o U' L ({ frames := 0, cells := 0, slots := 0, locals := 0 } : Room).cells ({ frames := 0, cells := 0, slots := 0, locals := 0 } : Room).slots) := by
  refine MetFree.of_bodySF (plainFor_of_name pn_1) hisR ?_
  intro p e s m args below meth c s₁ Bd hml0 hP hK
  obtain ⟨rfl, hZ, hh⟩ := hP
  have hx := Bd.exec
  have hby := Bd.bytes
  have hml : c.maxLocals = 1 := hml0
  have hown : s.vm.findClass "com/example/araucaria/araucaria/proto/ScalarTypeIsMapKeyPinLaw" = some m.cls := findClass_of_methodNamed Bd.named
  have hnm := (name_of_methodNamed Bd.named Bd.method).1
  have hrt := Bd.returns
  have hlk := Bd.notSynchronized
  have X0 : Stand p l e ({ frames := 0, cells := 0, slots := 0, locals := 0 } : Room) s m #[(.int p0)] below meth c s₁ [] 0 0 := Stand.of_body Bd
  have e0 : s₁.heap = h0 := by rw [← hh, Bd.state]; rfl
  have N0 := Fr.nil n0
  show Go p e below s 0 0 (Q1 Z p0 z2 z5 z8 z11 z14 z17 z20 z23 z26 z29 z32 z35 z38 z41 z43 h0 n0) (s₁.setTop (entryFrame m #[(.int p0)] 1))
  rw [ef_1 m p0]
  refine Go.pre (st' := s₁.setTop (mkF m 1 #[.val (.int p0)] [(.int p0)])) (fun target kt => ?_) ?_
  · show Steps p.tables e below (s₁.setTop (mkF m 0 #[.val (.int p0)] [])) _
    refine XS.iloadN X0.here hx rfl (hb hby d1_0) rfl ?_
    exact kt
  by_cases h1_1 : p0 = (0 : Int32)
  · refine Go.pre (st' := s₁.setTop (mkF m 4 #[.val (.int p0)] [])) (fun target kt => ?_) ?_
    · show Steps p.tables e below (s₁.setTop (mkF m 1 #[.val (.int p0)] [(.int p0)])) _
      refine XS.ifNo X0.here hx rfl (hb hby d1_1) rfl ((if0 _ _).trans (teq h1_1).2) ?_
      exact kt
    obtain ⟨T3, X3, e3, st3⟩ := getS2 X0 hx hZ hown (host := "") (Or.inl (hw _ (List.mem_of_getElem? (i := 5) rfl))) Via.refl e0 (S_DOUBLE.ext Ol.2) (g := (mkF m 4 #[.val (.int p0)] [])) rfl (hb hby d1_4)
    refine Go.pre st3 ?_
    show Go p e below s _ _ _ (T3.setTop (mkF m 7 #[.val (.int p0)] [(.ref z2)]))
    exact Go.retV X3 hx hlk hrt rfl (Or.inr (Or.inr (Or.inr (Or.inr ⟨rfl, rfl, rfl⟩)))) (hb hby d1_7) (by decide) (by decide) (by rw [e3]; exact ⟨by rw [own_sel, if_pos h1_1], N0, rfl⟩)
  · refine Go.pre (st' := s₁.setTop (mkF m 8 #[.val (.int p0)] [])) (fun target kt => ?_) ?_
    · show Steps p.tables e below (s₁.setTop (mkF m 1 #[.val (.int p0)] [(.int p0)])) _
      refine XS.ifYes X0.here hx rfl (pc0 := 1) (pc' := 8) rfl (hb hby d1_1) rfl ((if0 _ _).trans (feq h1_1).2) (by decide) (by decide) ?_
      exact kt
    refine Go.pre (st' := s₁.setTop (mkF m 10 #[.val (.int p0)] [(.int (1 : Int32)), (.int p0)])) (fun target kt => ?_) ?_
    · show Steps p.tables e below (s₁.setTop (mkF m 8 #[.val (.int p0)] [])) _
      refine XS.iloadN X0.here hx rfl (hb hby d1_8) rfl ?_
      show Steps p.tables e below (s₁.setTop (mkF m 9 #[.val (.int p0)] [(.int p0)])) _
      refine XS.iconst X0.here hx rfl (hb hby d1_9) ?_
      exact kt
    by_cases h10_4 : p0 = (1 : Int32)
    · refine Go.pre (st' := s₁.setTop (mkF m 13 #[.val (.int p0)] [])) (fun target kt => ?_) ?_
      · show Steps p.tables e below (s₁.setTop (mkF m 10 #[.val (.int p0)] [(.int (1 : Int32)), (.int p0)])) _
        refine XS.icmpNo X0.here hx rfl (hb hby d1_10) rfl (teq h10_4).2 ?_
        exact kt
      obtain ⟨T6, X6, e6, st6⟩ := getS2 X0 hx hZ hown (host := "") (Or.inl (hw _ (List.mem_of_getElem? (i := 37) rfl))) Via.refl e0 (S_FLOAT.ext Ol.2) (g := (mkF m 13 #[.val (.int p0)] [])) rfl (hb hby d1_13)
      refine Go.pre st6 ?_
      show Go p e below s _ _ _ (T6.setTop (mkF m 16 #[.val (.int p0)] [(.ref z5)]))
      exact Go.retV X6 hx hlk hrt rfl (Or.inr (Or.inr (Or.inr (Or.inr ⟨rfl, rfl, rfl⟩)))) (hb hby d1_16) (by decide) (by decide) (by rw [e6]; exact ⟨by rw [own_sel, if_neg h1_1, if_pos h10_4], N0, rfl⟩)
    · refine Go.pre (st' := s₁.setTop (mkF m 17 #[.val (.int p0)] [])) (fun target kt => ?_) ?_
      · show Steps p.tables e below (s₁.setTop (mkF m 10 #[.val (.int p0)] [(.int (1 : Int32)), (.int p0)])) _
        refine XS.icmpYes X0.here hx rfl (pc0 := 10) (pc' := 17) rfl (hb hby d1_10) rfl (feq h10_4).2 (by decide) (by decide) ?_
        exact kt
      refine Go.pre (st' := s₁.setTop (mkF m 19 #[.val (.int p0)] [(.int (2 : Int32)), (.int p0)])) (fun target kt => ?_) ?_
      · show Steps p.tables e below (s₁.setTop (mkF m 17 #[.val (.int p0)] [])) _
        refine XS.iloadN X0.here hx rfl (hb hby d1_17) rfl ?_
        show Steps p.tables e below (s₁.setTop (mkF m 18 #[.val (.int p0)] [(.int p0)])) _
        refine XS.iconst X0.here hx rfl (hb hby d1_18) ?_
        exact kt
      by_cases h19_7 : p0 = (2 : Int32)
      · refine Go.pre (st' := s₁.setTop (mkF m 22 #[.val (.int p0)] [])) (fun target kt => ?_) ?_
        · show Steps p.tables e below (s₁.setTop (mkF m 19 #[.val (.int p0)] [(.int (2 : Int32)), (.int p0)])) _
          refine XS.icmpNo X0.here hx rfl (hb hby d1_19) rfl (teq h19_7).2 ?_
          exact kt
        obtain ⟨T9, X9, e9, st9⟩ := getS2 X0 hx hZ hown (host := "") (Or.inl (hw _ (List.mem_of_getElem? (i := 29) rfl))) Via.refl e0 (S_INT32.ext Ol.2) (g := (mkF m 22 #[.val (.int p0)] [])) rfl (hb hby d1_22)
        refine Go.pre st9 ?_
        show Go p e below s _ _ _ (T9.setTop (mkF m 25 #[.val (.int p0)] [(.ref z8)]))
        exact Go.retV X9 hx hlk hrt rfl (Or.inr (Or.inr (Or.inr (Or.inr ⟨rfl, rfl, rfl⟩)))) (hb hby d1_25) (by decide) (by decide) (by rw [e9]; exact ⟨by rw [own_sel, if_neg h1_1, if_neg h10_4, if_pos h19_7], N0, rfl⟩)
      · refine Go.pre (st' := s₁.setTop (mkF m 26 #[.val (.int p0)] [])) (fun target kt => ?_) ?_
        · show Steps p.tables e below (s₁.setTop (mkF m 19 #[.val (.int p0)] [(.int (2 : Int32)), (.int p0)])) _
          refine XS.icmpYes X0.here hx rfl (pc0 := 19) (pc' := 26) rfl (hb hby d1_19) rfl (feq h19_7).2 (by decide) (by decide) ?_
          exact kt
        refine Go.pre (st' := s₁.setTop (mkF m 28 #[.val (.int p0)] [(.int (3 : Int32)), (.int p0)])) (fun target kt => ?_) ?_
        · show Steps p.tables e below (s₁.setTop (mkF m 26 #[.val (.int p0)] [])) _
          refine XS.iloadN X0.here hx rfl (hb hby d1_26) rfl ?_
          show Steps p.tables e below (s₁.setTop (mkF m 27 #[.val (.int p0)] [(.int p0)])) _
          refine XS.iconst X0.here hx rfl (hb hby d1_27) ?_
          exact kt
        by_cases h28_10 : p0 = (3 : Int32)
        · refine Go.pre (st' := s₁.setTop (mkF m 31 #[.val (.int p0)] [])) (fun target kt => ?_) ?_
          · show Steps p.tables e below (s₁.setTop (mkF m 28 #[.val (.int p0)] [(.int (3 : Int32)), (.int p0)])) _
            refine XS.icmpNo X0.here hx rfl (hb hby d1_28) rfl (teq h28_10).2 ?_
            exact kt
          obtain ⟨T12, X12, e12, st12⟩ := getS2 X0 hx hZ hown (host := "") (Or.inl (hw _ (List.mem_of_getElem? (i := 14) rfl))) Via.refl e0 (S_UINT32.ext Ol.2) (g := (mkF m 31 #[.val (.int p0)] [])) rfl (hb hby d1_31)
          refine Go.pre st12 ?_
          show Go p e below s _ _ _ (T12.setTop (mkF m 34 #[.val (.int p0)] [(.ref z11)]))
          exact Go.retV X12 hx hlk hrt rfl (Or.inr (Or.inr (Or.inr (Or.inr ⟨rfl, rfl, rfl⟩)))) (hb hby d1_34) (by decide) (by decide) (by rw [e12]; exact ⟨by rw [own_sel, if_neg h1_1, if_neg h10_4, if_neg h19_7, if_pos h28_10], N0, rfl⟩)
        · refine Go.pre (st' := s₁.setTop (mkF m 35 #[.val (.int p0)] [])) (fun target kt => ?_) ?_
          · show Steps p.tables e below (s₁.setTop (mkF m 28 #[.val (.int p0)] [(.int (3 : Int32)), (.int p0)])) _
            refine XS.icmpYes X0.here hx rfl (pc0 := 28) (pc' := 35) rfl (hb hby d1_28) rfl (feq h28_10).2 (by decide) (by decide) ?_
            exact kt
          refine Go.pre (st' := s₁.setTop (mkF m 37 #[.val (.int p0)] [(.int (4 : Int32)), (.int p0)])) (fun target kt => ?_) ?_
          · show Steps p.tables e below (s₁.setTop (mkF m 35 #[.val (.int p0)] [])) _
            refine XS.iloadN X0.here hx rfl (hb hby d1_35) rfl ?_
            show Steps p.tables e below (s₁.setTop (mkF m 36 #[.val (.int p0)] [(.int p0)])) _
            refine XS.iconst X0.here hx rfl (hb hby d1_36) ?_
            exact kt
          by_cases h37_13 : p0 = (4 : Int32)
          · refine Go.pre (st' := s₁.setTop (mkF m 40 #[.val (.int p0)] [])) (fun target kt => ?_) ?_
            · show Steps p.tables e below (s₁.setTop (mkF m 37 #[.val (.int p0)] [(.int (4 : Int32)), (.int p0)])) _
              refine XS.icmpNo X0.here hx rfl (hb hby d1_37) rfl (teq h37_13).2 ?_
              exact kt
            obtain ⟨T15, X15, e15, st15⟩ := getS2 X0 hx hZ hown (host := "") (Or.inl (hw _ (List.mem_of_getElem? (i := 40) rfl))) Via.refl e0 (S_SINT32.ext Ol.2) (g := (mkF m 40 #[.val (.int p0)] [])) rfl (hb hby d1_40)
            refine Go.pre st15 ?_
            show Go p e below s _ _ _ (T15.setTop (mkF m 43 #[.val (.int p0)] [(.ref z14)]))
            exact Go.retV X15 hx hlk hrt rfl (Or.inr (Or.inr (Or.inr (Or.inr ⟨rfl, rfl, rfl⟩)))) (hb hby d1_43) (by decide) (by decide) (by rw [e15]; exact ⟨by rw [own_sel, if_neg h1_1, if_neg h10_4, if_neg h19_7, if_neg h28_10, if_pos h37_13], N0, rfl⟩)
          · refine Go.pre (st' := s₁.setTop (mkF m 44 #[.val (.int p0)] [])) (fun target kt => ?_) ?_
            · show Steps p.tables e below (s₁.setTop (mkF m 37 #[.val (.int p0)] [(.int (4 : Int32)), (.int p0)])) _
              refine XS.icmpYes X0.here hx rfl (pc0 := 37) (pc' := 44) rfl (hb hby d1_37) rfl (feq h37_13).2 (by decide) (by decide) ?_
              exact kt
            refine Go.pre (st' := s₁.setTop (mkF m 46 #[.val (.int p0)] [(.int (5 : Int32)), (.int p0)])) (fun target kt => ?_) ?_
            · show Steps p.tables e below (s₁.setTop (mkF m 44 #[.val (.int p0)] [])) _
              refine XS.iloadN X0.here hx rfl (hb hby d1_44) rfl ?_
              show Steps p.tables e below (s₁.setTop (mkF m 45 #[.val (.int p0)] [(.int p0)])) _
              refine XS.iconst X0.here hx rfl (hb hby d1_45) ?_
              exact kt
            by_cases h46_16 : p0 = (5 : Int32)
            · refine Go.pre (st' := s₁.setTop (mkF m 49 #[.val (.int p0)] [])) (fun target kt => ?_) ?_
              · show Steps p.tables e below (s₁.setTop (mkF m 46 #[.val (.int p0)] [(.int (5 : Int32)), (.int p0)])) _
                refine XS.icmpNo X0.here hx rfl (hb hby d1_46) rfl (teq h46_16).2 ?_
                exact kt
              obtain ⟨T18, X18, e18, st18⟩ := getS2 X0 hx hZ hown (host := "") (Or.inl (hw _ (List.mem_of_getElem? (i := 20) rfl))) Via.refl e0 (S_FIXED32.ext Ol.2) (g := (mkF m 49 #[.val (.int p0)] [])) rfl (hb hby d1_49)
              refine Go.pre st18 ?_
              show Go p e below s _ _ _ (T18.setTop (mkF m 52 #[.val (.int p0)] [(.ref z17)]))
              exact Go.retV X18 hx hlk hrt rfl (Or.inr (Or.inr (Or.inr (Or.inr ⟨rfl, rfl, rfl⟩)))) (hb hby d1_52) (by decide) (by decide) (by rw [e18]; exact ⟨by rw [own_sel, if_neg h1_1, if_neg h10_4, if_neg h19_7, if_neg h28_10, if_neg h37_13, if_pos h46_16], N0, rfl⟩)
            · refine Go.pre (st' := s₁.setTop (mkF m 53 #[.val (.int p0)] [])) (fun target kt => ?_) ?_
              · show Steps p.tables e below (s₁.setTop (mkF m 46 #[.val (.int p0)] [(.int (5 : Int32)), (.int p0)])) _
                refine XS.icmpYes X0.here hx rfl (pc0 := 46) (pc' := 53) rfl (hb hby d1_46) rfl (feq h46_16).2 (by decide) (by decide) ?_
                exact kt
              refine Go.pre (st' := s₁.setTop (mkF m 56 #[.val (.int p0)] [(.int (6 : Int32)), (.int p0)])) (fun target kt => ?_) ?_
              · show Steps p.tables e below (s₁.setTop (mkF m 53 #[.val (.int p0)] [])) _
                refine XS.iloadN X0.here hx rfl (hb hby d1_53) rfl ?_
                show Steps p.tables e below (s₁.setTop (mkF m 54 #[.val (.int p0)] [(.int p0)])) _
                refine XS.bipush X0.here hx rfl (hb hby d1_54) ?_
                exact kt
              by_cases h56_19 : p0 = (6 : Int32)
              · refine Go.pre (st' := s₁.setTop (mkF m 59 #[.val (.int p0)] [])) (fun target kt => ?_) ?_
                · show Steps p.tables e below (s₁.setTop (mkF m 56 #[.val (.int p0)] [(.int (6 : Int32)), (.int p0)])) _
                  refine XS.icmpNo X0.here hx rfl (hb hby d1_56) rfl (teq h56_19).2 ?_
                  exact kt
                obtain ⟨T21, X21, e21, st21⟩ := getS2 X0 hx hZ hown (host := "") (Or.inl (hw _ (List.mem_of_getElem? (i := 24) rfl))) Via.refl e0 (S_SFIXED32.ext Ol.2) (g := (mkF m 59 #[.val (.int p0)] [])) rfl (hb hby d1_59)
                refine Go.pre st21 ?_
                show Go p e below s _ _ _ (T21.setTop (mkF m 62 #[.val (.int p0)] [(.ref z20)]))
                exact Go.retV X21 hx hlk hrt rfl (Or.inr (Or.inr (Or.inr (Or.inr ⟨rfl, rfl, rfl⟩)))) (hb hby d1_62) (by decide) (by decide) (by rw [e21]; exact ⟨by rw [own_sel, if_neg h1_1, if_neg h10_4, if_neg h19_7, if_neg h28_10, if_neg h37_13, if_neg h46_16, if_pos h56_19], N0, rfl⟩)
              · refine Go.pre (st' := s₁.setTop (mkF m 63 #[.val (.int p0)] [])) (fun target kt => ?_) ?_
                · show Steps p.tables e below (s₁.setTop (mkF m 56 #[.val (.int p0)] [(.int (6 : Int32)), (.int p0)])) _
                  refine XS.icmpYes X0.here hx rfl (pc0 := 56) (pc' := 63) rfl (hb hby d1_56) rfl (feq h56_19).2 (by decide) (by decide) ?_
                  exact kt
                refine Go.pre (st' := s₁.setTop (mkF m 66 #[.val (.int p0)] [(.int (7 : Int32)), (.int p0)])) (fun target kt => ?_) ?_
                · show Steps p.tables e below (s₁.setTop (mkF m 63 #[.val (.int p0)] [])) _
                  refine XS.iloadN X0.here hx rfl (hb hby d1_63) rfl ?_
                  show Steps p.tables e below (s₁.setTop (mkF m 64 #[.val (.int p0)] [(.int p0)])) _
                  refine XS.bipush X0.here hx rfl (hb hby d1_64) ?_
                  exact kt
                by_cases h66_22 : p0 = (7 : Int32)
                · refine Go.pre (st' := s₁.setTop (mkF m 69 #[.val (.int p0)] [])) (fun target kt => ?_) ?_
                  · show Steps p.tables e below (s₁.setTop (mkF m 66 #[.val (.int p0)] [(.int (7 : Int32)), (.int p0)])) _
                    refine XS.icmpNo X0.here hx rfl (hb hby d1_66) rfl (teq h66_22).2 ?_
                    exact kt
                  obtain ⟨T24, X24, e24, st24⟩ := getS2 X0 hx hZ hown (host := "") (Or.inl (hw _ (List.mem_of_getElem? (i := 27) rfl))) Via.refl e0 (S_INT64.ext Ol.2) (g := (mkF m 69 #[.val (.int p0)] [])) rfl (hb hby d1_69)
                  refine Go.pre st24 ?_
                  show Go p e below s _ _ _ (T24.setTop (mkF m 72 #[.val (.int p0)] [(.ref z23)]))
                  exact Go.retV X24 hx hlk hrt rfl (Or.inr (Or.inr (Or.inr (Or.inr ⟨rfl, rfl, rfl⟩)))) (hb hby d1_72) (by decide) (by decide) (by rw [e24]; exact ⟨by rw [own_sel, if_neg h1_1, if_neg h10_4, if_neg h19_7, if_neg h28_10, if_neg h37_13, if_neg h46_16, if_neg h56_19, if_pos h66_22], N0, rfl⟩)
                · refine Go.pre (st' := s₁.setTop (mkF m 73 #[.val (.int p0)] [])) (fun target kt => ?_) ?_
                  · show Steps p.tables e below (s₁.setTop (mkF m 66 #[.val (.int p0)] [(.int (7 : Int32)), (.int p0)])) _
                    refine XS.icmpYes X0.here hx rfl (pc0 := 66) (pc' := 73) rfl (hb hby d1_66) rfl (feq h66_22).2 (by decide) (by decide) ?_
                    exact kt
                  refine Go.pre (st' := s₁.setTop (mkF m 76 #[.val (.int p0)] [(.int (8 : Int32)), (.int p0)])) (fun target kt => ?_) ?_
                  · show Steps p.tables e below (s₁.setTop (mkF m 73 #[.val (.int p0)] [])) _
                    refine XS.iloadN X0.here hx rfl (hb hby d1_73) rfl ?_
                    show Steps p.tables e below (s₁.setTop (mkF m 74 #[.val (.int p0)] [(.int p0)])) _
                    refine XS.bipush X0.here hx rfl (hb hby d1_74) ?_
                    exact kt
                  by_cases h76_25 : p0 = (8 : Int32)
                  · refine Go.pre (st' := s₁.setTop (mkF m 79 #[.val (.int p0)] [])) (fun target kt => ?_) ?_
                    · show Steps p.tables e below (s₁.setTop (mkF m 76 #[.val (.int p0)] [(.int (8 : Int32)), (.int p0)])) _
                      refine XS.icmpNo X0.here hx rfl (hb hby d1_76) rfl (teq h76_25).2 ?_
                      exact kt
                    obtain ⟨T27, X27, e27, st27⟩ := getS2 X0 hx hZ hown (host := "") (Or.inl (hw _ (List.mem_of_getElem? (i := 35) rfl))) Via.refl e0 (S_UINT64.ext Ol.2) (g := (mkF m 79 #[.val (.int p0)] [])) rfl (hb hby d1_79)
                    refine Go.pre st27 ?_
                    show Go p e below s _ _ _ (T27.setTop (mkF m 82 #[.val (.int p0)] [(.ref z26)]))
                    exact Go.retV X27 hx hlk hrt rfl (Or.inr (Or.inr (Or.inr (Or.inr ⟨rfl, rfl, rfl⟩)))) (hb hby d1_82) (by decide) (by decide) (by rw [e27]; exact ⟨by rw [own_sel, if_neg h1_1, if_neg h10_4, if_neg h19_7, if_neg h28_10, if_neg h37_13, if_neg h46_16, if_neg h56_19, if_neg h66_22, if_pos h76_25], N0, rfl⟩)
                  · refine Go.pre (st' := s₁.setTop (mkF m 83 #[.val (.int p0)] [])) (fun target kt => ?_) ?_
                    · show Steps p.tables e below (s₁.setTop (mkF m 76 #[.val (.int p0)] [(.int (8 : Int32)), (.int p0)])) _
                      refine XS.icmpYes X0.here hx rfl (pc0 := 76) (pc' := 83) rfl (hb hby d1_76) rfl (feq h76_25).2 (by decide) (by decide) ?_
                      exact kt
                    refine Go.pre (st' := s₁.setTop (mkF m 86 #[.val (.int p0)] [(.int (9 : Int32)), (.int p0)])) (fun target kt => ?_) ?_
                    · show Steps p.tables e below (s₁.setTop (mkF m 83 #[.val (.int p0)] [])) _
                      refine XS.iloadN X0.here hx rfl (hb hby d1_83) rfl ?_
                      show Steps p.tables e below (s₁.setTop (mkF m 84 #[.val (.int p0)] [(.int p0)])) _
                      refine XS.bipush X0.here hx rfl (hb hby d1_84) ?_
                      exact kt
                    by_cases h86_28 : p0 = (9 : Int32)
                    · refine Go.pre (st' := s₁.setTop (mkF m 89 #[.val (.int p0)] [])) (fun target kt => ?_) ?_
                      · show Steps p.tables e below (s₁.setTop (mkF m 86 #[.val (.int p0)] [(.int (9 : Int32)), (.int p0)])) _
                        refine XS.icmpNo X0.here hx rfl (hb hby d1_86) rfl (teq h86_28).2 ?_
                        exact kt
                      obtain ⟨T30, X30, e30, st30⟩ := getS2 X0 hx hZ hown (host := "") (Or.inl (hw _ (List.mem_of_getElem? (i := 42) rfl))) Via.refl e0 (S_SINT64.ext Ol.2) (g := (mkF m 89 #[.val (.int p0)] [])) rfl (hb hby d1_89)
                      refine Go.pre st30 ?_
                      show Go p e below s _ _ _ (T30.setTop (mkF m 92 #[.val (.int p0)] [(.ref z29)]))
                      exact Go.retV X30 hx hlk hrt rfl (Or.inr (Or.inr (Or.inr (Or.inr ⟨rfl, rfl, rfl⟩)))) (hb hby d1_92) (by decide) (by decide) (by rw [e30]; exact ⟨by rw [own_sel, if_neg h1_1, if_neg h10_4, if_neg h19_7, if_neg h28_10, if_neg h37_13, if_neg h46_16, if_neg h56_19, if_neg h66_22, if_neg h76_25, if_pos h86_28], N0, rfl⟩)
                    · refine Go.pre (st' := s₁.setTop (mkF m 93 #[.val (.int p0)] [])) (fun target kt => ?_) ?_
                      · show Steps p.tables e below (s₁.setTop (mkF m 86 #[.val (.int p0)] [(.int (9 : Int32)), (.int p0)])) _
                        refine XS.icmpYes X0.here hx rfl (pc0 := 86) (pc' := 93) rfl (hb hby d1_86) rfl (feq h86_28).2 (by decide) (by decide) ?_
                        exact kt
                      refine Go.pre (st' := s₁.setTop (mkF m 96 #[.val (.int p0)] [(.int (10 : Int32)), (.int p0)])) (fun target kt => ?_) ?_
                      · show Steps p.tables e below (s₁.setTop (mkF m 93 #[.val (.int p0)] [])) _
                        refine XS.iloadN X0.here hx rfl (hb hby d1_93) rfl ?_
                        show Steps p.tables e below (s₁.setTop (mkF m 94 #[.val (.int p0)] [(.int p0)])) _
                        refine XS.bipush X0.here hx rfl (hb hby d1_94) ?_
                        exact kt
                      by_cases h96_31 : p0 = (10 : Int32)
                      · refine Go.pre (st' := s₁.setTop (mkF m 99 #[.val (.int p0)] [])) (fun target kt => ?_) ?_
                        · show Steps p.tables e below (s₁.setTop (mkF m 96 #[.val (.int p0)] [(.int (10 : Int32)), (.int p0)])) _
                          refine XS.icmpNo X0.here hx rfl (hb hby d1_96) rfl (teq h96_31).2 ?_
                          exact kt
                        obtain ⟨T33, X33, e33, st33⟩ := getS2 X0 hx hZ hown (host := "") (Or.inl (hw _ (List.mem_of_getElem? (i := 33) rfl))) Via.refl e0 (S_FIXED64.ext Ol.2) (g := (mkF m 99 #[.val (.int p0)] [])) rfl (hb hby d1_99)
                        refine Go.pre st33 ?_
                        show Go p e below s _ _ _ (T33.setTop (mkF m 102 #[.val (.int p0)] [(.ref z32)]))
                        exact Go.retV X33 hx hlk hrt rfl (Or.inr (Or.inr (Or.inr (Or.inr ⟨rfl, rfl, rfl⟩)))) (hb hby d1_102) (by decide) (by decide) (by rw [e33]; exact ⟨by rw [own_sel, if_neg h1_1, if_neg h10_4, if_neg h19_7, if_neg h28_10, if_neg h37_13, if_neg h46_16, if_neg h56_19, if_neg h66_22, if_neg h76_25, if_neg h86_28, if_pos h96_31], N0, rfl⟩)
                      · refine Go.pre (st' := s₁.setTop (mkF m 103 #[.val (.int p0)] [])) (fun target kt => ?_) ?_
                        · show Steps p.tables e below (s₁.setTop (mkF m 96 #[.val (.int p0)] [(.int (10 : Int32)), (.int p0)])) _
                          refine XS.icmpYes X0.here hx rfl (pc0 := 96) (pc' := 103) rfl (hb hby d1_96) rfl (feq h96_31).2 (by decide) (by decide) ?_
                          exact kt
                        refine Go.pre (st' := s₁.setTop (mkF m 106 #[.val (.int p0)] [(.int (11 : Int32)), (.int p0)])) (fun target kt => ?_) ?_
                        · show Steps p.tables e below (s₁.setTop (mkF m 103 #[.val (.int p0)] [])) _
                          refine XS.iloadN X0.here hx rfl (hb hby d1_103) rfl ?_
                          show Steps p.tables e below (s₁.setTop (mkF m 104 #[.val (.int p0)] [(.int p0)])) _
                          refine XS.bipush X0.here hx rfl (hb hby d1_104) ?_
                          exact kt
                        by_cases h106_34 : p0 = (11 : Int32)
                        · refine Go.pre (st' := s₁.setTop (mkF m 109 #[.val (.int p0)] [])) (fun target kt => ?_) ?_
                          · show Steps p.tables e below (s₁.setTop (mkF m 106 #[.val (.int p0)] [(.int (11 : Int32)), (.int p0)])) _
                            refine XS.icmpNo X0.here hx rfl (hb hby d1_106) rfl (teq h106_34).2 ?_
                            exact kt
                          obtain ⟨T36, X36, e36, st36⟩ := getS2 X0 hx hZ hown (host := "") (Or.inl (hw _ (List.mem_of_getElem? (i := 31) rfl))) Via.refl e0 (S_SFIXED64.ext Ol.2) (g := (mkF m 109 #[.val (.int p0)] [])) rfl (hb hby d1_109)
                          refine Go.pre st36 ?_
                          show Go p e below s _ _ _ (T36.setTop (mkF m 112 #[.val (.int p0)] [(.ref z35)]))
                          exact Go.retV X36 hx hlk hrt rfl (Or.inr (Or.inr (Or.inr (Or.inr ⟨rfl, rfl, rfl⟩)))) (hb hby d1_112) (by decide) (by decide) (by rw [e36]; exact ⟨by rw [own_sel, if_neg h1_1, if_neg h10_4, if_neg h19_7, if_neg h28_10, if_neg h37_13, if_neg h46_16, if_neg h56_19, if_neg h66_22, if_neg h76_25, if_neg h86_28, if_neg h96_31, if_pos h106_34], N0, rfl⟩)
                        · refine Go.pre (st' := s₁.setTop (mkF m 113 #[.val (.int p0)] [])) (fun target kt => ?_) ?_
                          · show Steps p.tables e below (s₁.setTop (mkF m 106 #[.val (.int p0)] [(.int (11 : Int32)), (.int p0)])) _
                            refine XS.icmpYes X0.here hx rfl (pc0 := 106) (pc' := 113) rfl (hb hby d1_106) rfl (feq h106_34).2 (by decide) (by decide) ?_
                            exact kt
                          refine Go.pre (st' := s₁.setTop (mkF m 116 #[.val (.int p0)] [(.int (12 : Int32)), (.int p0)])) (fun target kt => ?_) ?_
                          · show Steps p.tables e below (s₁.setTop (mkF m 113 #[.val (.int p0)] [])) _
                            refine XS.iloadN X0.here hx rfl (hb hby d1_113) rfl ?_
                            show Steps p.tables e below (s₁.setTop (mkF m 114 #[.val (.int p0)] [(.int p0)])) _
                            refine XS.bipush X0.here hx rfl (hb hby d1_114) ?_
                            exact kt
                          by_cases h116_37 : p0 = (12 : Int32)
                          · refine Go.pre (st' := s₁.setTop (mkF m 119 #[.val (.int p0)] [])) (fun target kt => ?_) ?_
                            · show Steps p.tables e below (s₁.setTop (mkF m 116 #[.val (.int p0)] [(.int (12 : Int32)), (.int p0)])) _
                              refine XS.icmpNo X0.here hx rfl (hb hby d1_116) rfl (teq h116_37).2 ?_
                              exact kt
                            obtain ⟨T39, X39, e39, st39⟩ := getS2 X0 hx hZ hown (host := "") (Or.inl (hw _ (List.mem_of_getElem? (i := 38) rfl))) Via.refl e0 (S_BOOL.ext Ol.2) (g := (mkF m 119 #[.val (.int p0)] [])) rfl (hb hby d1_119)
                            refine Go.pre st39 ?_
                            show Go p e below s _ _ _ (T39.setTop (mkF m 122 #[.val (.int p0)] [(.ref z38)]))
                            exact Go.retV X39 hx hlk hrt rfl (Or.inr (Or.inr (Or.inr (Or.inr ⟨rfl, rfl, rfl⟩)))) (hb hby d1_122) (by decide) (by decide) (by rw [e39]; exact ⟨by rw [own_sel, if_neg h1_1, if_neg h10_4, if_neg h19_7, if_neg h28_10, if_neg h37_13, if_neg h46_16, if_neg h56_19, if_neg h66_22, if_neg h76_25, if_neg h86_28, if_neg h96_31, if_neg h106_34, if_pos h116_37], N0, rfl⟩)
                          · refine Go.pre (st' := s₁.setTop (mkF m 123 #[.val (.int p0)] [])) (fun target kt => ?_) ?_
                            · show Steps p.tables e below (s₁.setTop (mkF m 116 #[.val (.int p0)] [(.int (12 : Int32)), (.int p0)])) _
                              refine XS.icmpYes X0.here hx rfl (pc0 := 116) (pc' := 123) rfl (hb hby d1_116) rfl (feq h116_37).2 (by decide) (by decide) ?_
                              exact kt
                            refine Go.pre (st' := s₁.setTop (mkF m 126 #[.val (.int p0)] [(.int (13 : Int32)), (.int p0)])) (fun target kt => ?_) ?_
                            · show Steps p.tables e below (s₁.setTop (mkF m 123 #[.val (.int p0)] [])) _
                              refine XS.iloadN X0.here hx rfl (hb hby d1_123) rfl ?_
                              show Steps p.tables e below (s₁.setTop (mkF m 124 #[.val (.int p0)] [(.int p0)])) _
                              refine XS.bipush X0.here hx rfl (hb hby d1_124) ?_
                              exact kt
                            by_cases h126_40 : p0 = (13 : Int32)
                            · refine Go.pre (st' := s₁.setTop (mkF m 129 #[.val (.int p0)] [])) (fun target kt => ?_) ?_
                              · show Steps p.tables e below (s₁.setTop (mkF m 126 #[.val (.int p0)] [(.int (13 : Int32)), (.int p0)])) _
                                refine XS.icmpNo X0.here hx rfl (hb hby d1_126) rfl (teq h126_40).2 ?_
                                exact kt
                              obtain ⟨T42, X42, e42, st42⟩ := getS2 X0 hx hZ hown (host := "") (Or.inl (hw _ (List.mem_of_getElem? (i := 22) rfl))) Via.refl e0 (S_STRING.ext Ol.2) (g := (mkF m 129 #[.val (.int p0)] [])) rfl (hb hby d1_129)
                              refine Go.pre st42 ?_
                              show Go p e below s _ _ _ (T42.setTop (mkF m 132 #[.val (.int p0)] [(.ref z41)]))
                              exact Go.retV X42 hx hlk hrt rfl (Or.inr (Or.inr (Or.inr (Or.inr ⟨rfl, rfl, rfl⟩)))) (hb hby d1_132) (by decide) (by decide) (by rw [e42]; exact ⟨by rw [own_sel, if_neg h1_1, if_neg h10_4, if_neg h19_7, if_neg h28_10, if_neg h37_13, if_neg h46_16, if_neg h56_19, if_neg h66_22, if_neg h76_25, if_neg h86_28, if_neg h96_31, if_neg h106_34, if_neg h116_37, if_pos h126_40], N0, rfl⟩)
                            · refine Go.pre (st' := s₁.setTop (mkF m 133 #[.val (.int p0)] [])) (fun target kt => ?_) ?_
                              · show Steps p.tables e below (s₁.setTop (mkF m 126 #[.val (.int p0)] [(.int (13 : Int32)), (.int p0)])) _
                                refine XS.icmpYes X0.here hx rfl (pc0 := 126) (pc' := 133) rfl (hb hby d1_126) rfl (feq h126_40).2 (by decide) (by decide) ?_
                                exact kt
                              obtain ⟨T44, X44, e44, st44⟩ := getS2 X0 hx hZ hown (host := "") (Or.inl (hw _ (List.mem_of_getElem? (i := 26) rfl))) Via.refl e0 (S_BYTES.ext Ol.2) (g := (mkF m 133 #[.val (.int p0)] [])) rfl (hb hby d1_133)
                              refine Go.pre st44 ?_
                              show Go p e below s _ _ _ (T44.setTop (mkF m 136 #[.val (.int p0)] [(.ref z43)]))
                              exact Go.retV X44 hx hlk hrt rfl (Or.inr (Or.inr (Or.inr (Or.inr ⟨rfl, rfl, rfl⟩)))) (hb hby d1_136) (by decide) (by decide) (by rw [e44]; exact ⟨by rw [own_sel, if_neg h1_1, if_neg h10_4, if_neg h19_7, if_neg h28_10, if_neg h37_13, if_neg h46_16, if_neg h56_19, if_neg h66_22, if_neg h76_25, if_neg h86_28, if_neg h96_31, if_neg h106_34, if_neg h116_37, if_neg h126_40], N0, rfl⟩)
/-! ScalarType.isMapKey (2) -/
theorem d2_0 : decode prog_114_method_5_code 0 = .ok (.aload_n 0, 1) := by decide +kernel
theorem d2_1 : decode prog_114_method_5_code 1 = .ok (.getstatic 3, 3) := by decide +kernel
theorem d2_4 : decode prog_114_method_5_code 4 = .ok (.if_acmp .eq 21, 3) := by decide +kernel
theorem d2_7 : decode prog_114_method_5_code 7 = .ok (.aload_n 0, 1) := by decide +kernel
theorem d2_8 : decode prog_114_method_5_code 8 = .ok (.getstatic 7, 3) := by decide +kernel
theorem d2_11 : decode prog_114_method_5_code 11 = .ok (.if_acmp .eq 14, 3) := by decide +kernel
theorem d2_14 : decode prog_114_method_5_code 14 = .ok (.aload_n 0, 1) := by decide +kernel
theorem d2_15 : decode prog_114_method_5_code 15 = .ok (.getstatic 46, 3) := by decide +kernel
theorem d2_18 : decode prog_114_method_5_code 18 = .ok (.if_acmp .eq 7, 3) := by decide +kernel
theorem d2_21 : decode prog_114_method_5_code 21 = .ok (.iconst 1, 1) := by decide +kernel
theorem d2_22 : decode prog_114_method_5_code 22 = .ok (.goto 4, 3) := by decide +kernel
theorem d2_25 : decode prog_114_method_5_code 25 = .ok (.iconst 0, 1) := by decide +kernel
theorem d2_26 : decode prog_114_method_5_code 26 = .ok (.ireturn, 1) := by decide +kernel
theorem pn_2 : plainName "com/example/araucaria/araucaria/proto/ScalarType" = true := by first | (simp [plainName, overriddenIn]; done) | decide +kernel
theorem ef_2 (m : MethodId) (o0 : Addr) : entryFrame m #[(.ref o0)] 1 = (mkF m 0 #[.val (.ref o0)] []) := by first | (simp [entryFrame, mkF, argsToLocals, Value.category]; done) | rfl
def Q2 (Z : State) (o0 : Addr) (z1 : Addr) (z4 : Addr) (z7 : Addr) (h0 : Heap) (n0 : Nat) (v : Option Value) (h : Heap) (L : List Loc) : Prop := v = some (.int (own_key o0 z1 z4 z7)) ∧ Fr n0 L ∧ h = h0
set_option maxRecDepth 65536 in
set_option maxHeartbeats 40000000 in
theorem rm2 (l : Launch) (Z : State) (a0 : Array Value) (hw : ∀ d ∈ tables_1, d.before a0 Z = true) (ws : List Jvm.Cond) (o0 : Addr) (z1 : Addr) (z4 : Addr) (z7 : Addr) (h0 : Heap) (n0 : Nat) (Z0 : n0 ≤ h0.size) (S_DOUBLE : Sta Z Z.heap "com/example/araucaria/araucaria/proto/ScalarType" "DOUBLE" "Lcom/example/araucaria/araucaria/proto/ScalarType;" (.ref z1)) (Ol : Old Z n0 h0) (S_FLOAT : Sta Z Z.heap "com/example/araucaria/araucaria/proto/ScalarType" "FLOAT" "Lcom/example/araucaria/araucaria/proto/ScalarType;" (.ref z4)) (S_BYTES : Sta Z Z.heap "com/example/araucaria/araucaria/proto/ScalarType" "BYTES" "Lcom/example/araucaria/araucaria/proto/ScalarType;" (.ref z7)) :
    MetFree l (⟨"com/example/araucaria/araucaria/proto/ScalarType", "isMapKey", "()Z"⟩ : MethodName) (head1 (Jvm.Cond.code (⟨"com/example/araucaria/araucaria/proto/ScalarType", "isMapKey", "()Z"⟩ : MethodName) prog_114_method_5_code 1 (some .boolean) :: ws) ({ frames := 0, cells := 0, slots := 0, locals := 0 } : Room)) (fun a U => a = #[(.ref o0)] ∧ Z.Warmed39 U.vm ∧ U.heap = h0) (fun _ _ _ _ _ => True) (fun _ U o U' => ∃ v L, o = .returned v ∧ Q2 Z o0 z1 z4 z7 h0 n0 v U'.heap L ∧ FrameEnd U o U' L ({ frames := 0, cells := 0, slots := 0, locals := 0 } : Room).cells ({ frames := 0, cells := 0, slots := 0, locals := 0 } : Room).slots) := by
  refine MetFree.of_bodySF (plainFor_of_name pn_2) hisR ?_
  intro p e s m args below meth c s₁ Bd hml0 hP hK
  obtain ⟨rfl, hZ, hh⟩ := hP
  have hx := Bd.exec
  have hby := Bd.bytes
  have hml : c.maxLocals = 1 := hml0
  have hown : s.vm.findClass "com/example/araucaria/araucaria/proto/ScalarType" = some m.cls := findClass_of_methodNamed Bd.named
  have hnm := (name_of_methodNamed Bd.named Bd.method).1
  have hrt := Bd.returns
  have hlk := Bd.notSynchronized
  have X0 : Stand p l e ({ frames := 0, cells := 0, slots := 0, locals := 0 } : Room) s m #[(.ref o0)] below meth c s₁ [] 0 0 := Stand.of_body Bd
  have e0 : s₁.heap = h0 := by rw [← hh, Bd.state]; rfl
  have N0 := Fr.nil n0
  show Go p e below s 0 0 (Q2 Z o0 z1 z4 z7 h0 n0) (s₁.setTop (entryFrame m #[(.ref o0)] 1))
  rw [ef_2 m o0]
  refine Go.pre (st' := s₁.setTop (mkF m 1 #[.val (.ref o0)] [(.ref o0)])) (fun target kt => ?_) ?_
  · show Steps p.tables e below (s₁.setTop (mkF m 0 #[.val (.ref o0)] [])) _
    refine XS.aloadN X0.here hx rfl (hb hby d2_0) rfl rfl ?_
    exact kt
  obtain ⟨T2, X2, e2, st2⟩ := getS2 X0 hx hZ hown (host := "") (Or.inl (hw _ (List.mem_of_getElem? (i := 13) rfl))) Via.refl e0 (S_DOUBLE.ext Ol.2) (g := (mkF m 1 #[.val (.ref o0)] [(.ref o0)])) rfl (hb hby d2_1)
  refine Go.pre st2 ?_
  show Go p e below s _ _ _ (T2.setTop (mkF m 4 #[.val (.ref o0)] [(.ref z1), (.ref o0)]))
  by_cases ha4_3 : o0 = z1
  · refine Go.pre (st' := T2.setTop (mkF m 25 #[.val (.ref o0)] [])) (fun target kt => ?_) ?_
    · show Steps p.tables e below (T2.setTop (mkF m 4 #[.val (.ref o0)] [(.ref z1), (.ref o0)])) _
      refine Jvm.RoadKit.acmp (g := (mkF m 4 #[.val (.ref o0)] [(.ref z1), (.ref o0)])) X2 hx rfl rfl rfl (pc0 := 4) (pc' := 25) (same := true) rfl (hb hby d2_4) rfl (decide_eq_true (congrArg Value.ref ha4_3)) (by decide) (by decide) ?_
      exact kt
    refine Go.pre (st' := T2.setTop (mkF m 26 #[.val (.ref o0)] [(.int (0 : Int32))])) (fun target kt => ?_) ?_
    · show Steps p.tables e below (T2.setTop (mkF m 25 #[.val (.ref o0)] [])) _
      refine XS.iconst X2.here hx rfl (hb hby d2_25) ?_
      exact kt
    exact Go.retN X2 hx hlk hrt (z' := (0 : Int32)) (by simp) (hb hby d2_26) rfl (by decide) (by decide) (by rw [e2]; exact ⟨by rw [own_key, if_pos ha4_3], N0, rfl⟩)
  · refine Go.pre (st' := T2.setTop (mkF m 7 #[.val (.ref o0)] [])) (fun target kt => ?_) ?_
    · show Steps p.tables e below (T2.setTop (mkF m 4 #[.val (.ref o0)] [(.ref z1), (.ref o0)])) _
      refine Jvm.RoadKit.acmp (g := (mkF m 4 #[.val (.ref o0)] [(.ref z1), (.ref o0)])) X2 hx rfl rfl rfl (pc0 := 4) (pc' := 7) (same := false) rfl (hb hby d2_4) rfl (decide_eq_false fun q => ha4_3 (Value.ref.inj q)) (by decide) (by decide) ?_
      exact kt
    refine Go.pre (st' := T2.setTop (mkF m 8 #[.val (.ref o0)] [(.ref o0)])) (fun target kt => ?_) ?_
    · show Steps p.tables e below (T2.setTop (mkF m 7 #[.val (.ref o0)] [])) _
      refine XS.aloadN X2.here hx rfl (hb hby d2_7) rfl rfl ?_
      exact kt
    obtain ⟨T5, X5, e5, st5⟩ := getS2 X2 hx hZ hown (host := "") (Or.inl (hw _ (List.mem_of_getElem? (i := 16) rfl))) Via.refl e2 (S_FLOAT.ext Ol.2) (g := (mkF m 8 #[.val (.ref o0)] [(.ref o0)])) rfl (hb hby d2_8)
    refine Go.pre st5 ?_
    show Go p e below s _ _ _ (T5.setTop (mkF m 11 #[.val (.ref o0)] [(.ref z4), (.ref o0)]))
    by_cases ha11_6 : o0 = z4
    · refine Go.pre (st' := T5.setTop (mkF m 25 #[.val (.ref o0)] [])) (fun target kt => ?_) ?_
      · show Steps p.tables e below (T5.setTop (mkF m 11 #[.val (.ref o0)] [(.ref z4), (.ref o0)])) _
        refine Jvm.RoadKit.acmp (g := (mkF m 11 #[.val (.ref o0)] [(.ref z4), (.ref o0)])) X5 hx rfl rfl rfl (pc0 := 11) (pc' := 25) (same := true) rfl (hb hby d2_11) rfl (decide_eq_true (congrArg Value.ref ha11_6)) (by decide) (by decide) ?_
        exact kt
      refine Go.pre (st' := T5.setTop (mkF m 26 #[.val (.ref o0)] [(.int (0 : Int32))])) (fun target kt => ?_) ?_
      · show Steps p.tables e below (T5.setTop (mkF m 25 #[.val (.ref o0)] [])) _
        refine XS.iconst X5.here hx rfl (hb hby d2_25) ?_
        exact kt
      exact Go.retN X5 hx hlk hrt (z' := (0 : Int32)) (by simp) (hb hby d2_26) rfl (by decide) (by decide) (by rw [e5]; exact ⟨by rw [own_key, if_neg ha4_3, if_pos ha11_6], N0, rfl⟩)
    · refine Go.pre (st' := T5.setTop (mkF m 14 #[.val (.ref o0)] [])) (fun target kt => ?_) ?_
      · show Steps p.tables e below (T5.setTop (mkF m 11 #[.val (.ref o0)] [(.ref z4), (.ref o0)])) _
        refine Jvm.RoadKit.acmp (g := (mkF m 11 #[.val (.ref o0)] [(.ref z4), (.ref o0)])) X5 hx rfl rfl rfl (pc0 := 11) (pc' := 14) (same := false) rfl (hb hby d2_11) rfl (decide_eq_false fun q => ha11_6 (Value.ref.inj q)) (by decide) (by decide) ?_
        exact kt
      refine Go.pre (st' := T5.setTop (mkF m 15 #[.val (.ref o0)] [(.ref o0)])) (fun target kt => ?_) ?_
      · show Steps p.tables e below (T5.setTop (mkF m 14 #[.val (.ref o0)] [])) _
        refine XS.aloadN X5.here hx rfl (hb hby d2_14) rfl rfl ?_
        exact kt
      obtain ⟨T8, X8, e8, st8⟩ := getS2 X5 hx hZ hown (host := "") (Or.inl (hw _ (List.mem_of_getElem? (i := 18) rfl))) Via.refl e5 (S_BYTES.ext Ol.2) (g := (mkF m 15 #[.val (.ref o0)] [(.ref o0)])) rfl (hb hby d2_15)
      refine Go.pre st8 ?_
      show Go p e below s _ _ _ (T8.setTop (mkF m 18 #[.val (.ref o0)] [(.ref z7), (.ref o0)]))
      by_cases ha18_9 : o0 = z7
      · refine Go.pre (st' := T8.setTop (mkF m 25 #[.val (.ref o0)] [])) (fun target kt => ?_) ?_
        · show Steps p.tables e below (T8.setTop (mkF m 18 #[.val (.ref o0)] [(.ref z7), (.ref o0)])) _
          refine Jvm.RoadKit.acmp (g := (mkF m 18 #[.val (.ref o0)] [(.ref z7), (.ref o0)])) X8 hx rfl rfl rfl (pc0 := 18) (pc' := 25) (same := true) rfl (hb hby d2_18) rfl (decide_eq_true (congrArg Value.ref ha18_9)) (by decide) (by decide) ?_
          exact kt
        refine Go.pre (st' := T8.setTop (mkF m 26 #[.val (.ref o0)] [(.int (0 : Int32))])) (fun target kt => ?_) ?_
        · show Steps p.tables e below (T8.setTop (mkF m 25 #[.val (.ref o0)] [])) _
          refine XS.iconst X8.here hx rfl (hb hby d2_25) ?_
          exact kt
        exact Go.retN X8 hx hlk hrt (z' := (0 : Int32)) (by simp) (hb hby d2_26) rfl (by decide) (by decide) (by rw [e8]; exact ⟨by rw [own_key, if_neg ha4_3, if_neg ha11_6, if_pos ha18_9], N0, rfl⟩)
      · refine Go.pre (st' := T8.setTop (mkF m 21 #[.val (.ref o0)] [])) (fun target kt => ?_) ?_
        · show Steps p.tables e below (T8.setTop (mkF m 18 #[.val (.ref o0)] [(.ref z7), (.ref o0)])) _
          refine Jvm.RoadKit.acmp (g := (mkF m 18 #[.val (.ref o0)] [(.ref z7), (.ref o0)])) X8 hx rfl rfl rfl (pc0 := 18) (pc' := 21) (same := false) rfl (hb hby d2_18) rfl (decide_eq_false fun q => ha18_9 (Value.ref.inj q)) (by decide) (by decide) ?_
          exact kt
        refine Go.pre (st' := T8.setTop (mkF m 26 #[.val (.ref o0)] [(.int (1 : Int32))])) (fun target kt => ?_) ?_
        · show Steps p.tables e below (T8.setTop (mkF m 21 #[.val (.ref o0)] [])) _
          refine XS.iconst X8.here hx rfl (hb hby d2_21) ?_
          show Steps p.tables e below (T8.setTop (mkF m 22 #[.val (.ref o0)] [(.int (1 : Int32))])) _
          refine XS.goto X8.here hx rfl (pc0 := 22) (pc' := 26) rfl (hb hby d2_22) (by decide) (by decide) ?_
          exact kt
        exact Go.retN X8 hx hlk hrt (z' := (1 : Int32)) (by simp) (hb hby d2_26) rfl (by decide) (by decide) (by rw [e8]; exact ⟨by rw [own_key, if_neg ha4_3, if_neg ha11_6, if_neg ha18_9], N0, rfl⟩)
theorem own_rng (x : Int32) : 0 ≤ ((x &&& (2147483647 : Int32)) - (x &&& (2147483647 : Int32)) / (15 : Int32) * (15 : Int32)).toInt ∧ ((x &&& (2147483647 : Int32)) - (x &&& (2147483647 : Int32)) / (15 : Int32) * (15 : Int32)).toInt ≤ 14 := by
  have h1 := c_mask x (2147483647 : Int32) 31 (by decide) (by decide)
  have h2 : 0 ≤ (x &&& (2147483647 : Int32)).toInt := by rw [h1]; exact Int.emod_nonneg _ (by decide)
  generalize (x &&& (2147483647 : Int32)) = y at *
  rw [irem_eq_mod]
  have h3 := (c_irem y (15 : Int32) 15 (by decide)).1 h2
  omega
theorem own_cases (k : Int32) (h : 0 ≤ k.toInt ∧ k.toInt ≤ 14) : k = (0 : Int32) ∨ k = (1 : Int32) ∨ k = (2 : Int32) ∨ k = (3 : Int32) ∨ k = (4 : Int32) ∨ k = (5 : Int32) ∨ k = (6 : Int32) ∨ k = (7 : Int32) ∨ k = (8 : Int32) ∨ k = (9 : Int32) ∨ k = (10 : Int32) ∨ k = (11 : Int32) ∨ k = (12 : Int32) ∨ k = (13 : Int32) ∨ k = (14 : Int32) := by
  have q : ∀ z : Int32, k.toInt = z.toInt → k = z := fun z e => Int32.toInt_inj.mp e
  have hk : k.toInt = 0 ∨ k.toInt = 1 ∨ k.toInt = 2 ∨ k.toInt = 3 ∨ k.toInt = 4 ∨ k.toInt = 5 ∨ k.toInt = 6 ∨ k.toInt = 7 ∨ k.toInt = 8 ∨ k.toInt = 9 ∨ k.toInt = 10 ∨ k.toInt = 11 ∨ k.toInt = 12 ∨ k.toInt = 13 ∨ k.toInt = 14 := by omega
  rcases hk with e | e | e | e | e | e | e | e | e | e | e | e | e | e | e
  · exact Or.inl (q 0 (by rw [e]; decide))
  · exact Or.inr (Or.inl (q 1 (by rw [e]; decide)))
  · exact Or.inr (Or.inr (Or.inl (q 2 (by rw [e]; decide))))
  · exact Or.inr (Or.inr (Or.inr (Or.inl (q 3 (by rw [e]; decide)))))
  · exact Or.inr (Or.inr (Or.inr (Or.inr (Or.inl (q 4 (by rw [e]; decide))))))
  · exact Or.inr (Or.inr (Or.inr (Or.inr (Or.inr (Or.inl (q 5 (by rw [e]; decide)))))))
  · exact Or.inr (Or.inr (Or.inr (Or.inr (Or.inr (Or.inr (Or.inl (q 6 (by rw [e]; decide))))))))
  · exact Or.inr (Or.inr (Or.inr (Or.inr (Or.inr (Or.inr (Or.inr (Or.inl (q 7 (by rw [e]; decide)))))))))
  · exact Or.inr (Or.inr (Or.inr (Or.inr (Or.inr (Or.inr (Or.inr (Or.inr (Or.inl (q 8 (by rw [e]; decide))))))))))
  · exact Or.inr (Or.inr (Or.inr (Or.inr (Or.inr (Or.inr (Or.inr (Or.inr (Or.inr (Or.inl (q 9 (by rw [e]; decide)))))))))))
  · exact Or.inr (Or.inr (Or.inr (Or.inr (Or.inr (Or.inr (Or.inr (Or.inr (Or.inr (Or.inr (Or.inl (q 10 (by rw [e]; decide))))))))))))
  · exact Or.inr (Or.inr (Or.inr (Or.inr (Or.inr (Or.inr (Or.inr (Or.inr (Or.inr (Or.inr (Or.inr (Or.inl (q 11 (by rw [e]; decide)))))))))))))
  · exact Or.inr (Or.inr (Or.inr (Or.inr (Or.inr (Or.inr (Or.inr (Or.inr (Or.inr (Or.inr (Or.inr (Or.inr (Or.inl (q 12 (by rw [e]; decide))))))))))))))
  · exact Or.inr (Or.inr (Or.inr (Or.inr (Or.inr (Or.inr (Or.inr (Or.inr (Or.inr (Or.inr (Or.inr (Or.inr (Or.inr (Or.inl (q 13 (by rw [e]; decide)))))))))))))))
  · exact Or.inr (Or.inr (Or.inr (Or.inr (Or.inr (Or.inr (Or.inr (Or.inr (Or.inr (Or.inr (Or.inr (Or.inr (Or.inr (Or.inr (q 14 (by rw [e]; decide)))))))))))))))
theorem own_low (k : Int32) (z0 z1 z2 z3 z4 z5 z6 z7 z8 z9 z10 z11 z12 z13 z14 : Addr) (h : 0 ≤ k.toInt ∧ k.toInt ≤ 14) (hk : k < (2 : Int32)) : own_key (own_sel k z0 z1 z2 z3 z4 z5 z6 z7 z8 z9 z10 z11 z12 z13 z14) z0 z1 z14 = (0 : Int32) := by
  rcases own_cases k h with rfl | rfl | rfl | rfl | rfl | rfl | rfl | rfl | rfl | rfl | rfl | rfl | rfl | rfl | rfl
  · rw [show own_sel (0 : Int32) z0 z1 z2 z3 z4 z5 z6 z7 z8 z9 z10 z11 z12 z13 z14 = z0 from rfl, own_key]; rw [if_pos rfl]
  · rw [show own_sel (1 : Int32) z0 z1 z2 z3 z4 z5 z6 z7 z8 z9 z10 z11 z12 z13 z14 = z1 from rfl, own_key]; by_cases q : z1 = z0 <;> simp [q]
  · exact absurd hk (by decide)
  · exact absurd hk (by decide)
  · exact absurd hk (by decide)
  · exact absurd hk (by decide)
  · exact absurd hk (by decide)
  · exact absurd hk (by decide)
  · exact absurd hk (by decide)
  · exact absurd hk (by decide)
  · exact absurd hk (by decide)
  · exact absurd hk (by decide)
  · exact absurd hk (by decide)
  · exact absurd hk (by decide)
  · exact absurd hk (by decide)
theorem own_high (k : Int32) (z0 z1 z2 z3 z4 z5 z6 z7 z8 z9 z10 z11 z12 z13 z14 : Addr) (h : 0 ≤ k.toInt ∧ k.toInt ≤ 14) (hk : (13 : Int32) < k) : own_key (own_sel k z0 z1 z2 z3 z4 z5 z6 z7 z8 z9 z10 z11 z12 z13 z14) z0 z1 z14 = (0 : Int32) := by
  rcases own_cases k h with rfl | rfl | rfl | rfl | rfl | rfl | rfl | rfl | rfl | rfl | rfl | rfl | rfl | rfl | rfl
  · exact absurd hk (by decide)
  · exact absurd hk (by decide)
  · exact absurd hk (by decide)
  · exact absurd hk (by decide)
  · exact absurd hk (by decide)
  · exact absurd hk (by decide)
  · exact absurd hk (by decide)
  · exact absurd hk (by decide)
  · exact absurd hk (by decide)
  · exact absurd hk (by decide)
  · exact absurd hk (by decide)
  · exact absurd hk (by decide)
  · exact absurd hk (by decide)
  · exact absurd hk (by decide)
  · rw [show own_sel (14 : Int32) z0 z1 z2 z3 z4 z5 z6 z7 z8 z9 z10 z11 z12 z13 z14 = z14 from rfl, own_key]; by_cases q : z14 = z0 <;> by_cases q' : z14 = z1 <;> simp [q, q']
theorem own_mid {Z : State} {h : Heap} (k : Int32) (z0 z1 z2 z3 z4 z5 z6 z7 z8 z9 z10 z11 z12 z13 z14 : Addr) (o0 : Fld Z h z0 "java/lang/Enum" "ordinal" "I" (.int (0 : Int32))) (o1 : Fld Z h z1 "java/lang/Enum" "ordinal" "I" (.int (1 : Int32))) (o2 : Fld Z h z2 "java/lang/Enum" "ordinal" "I" (.int (2 : Int32))) (o3 : Fld Z h z3 "java/lang/Enum" "ordinal" "I" (.int (3 : Int32))) (o4 : Fld Z h z4 "java/lang/Enum" "ordinal" "I" (.int (4 : Int32))) (o5 : Fld Z h z5 "java/lang/Enum" "ordinal" "I" (.int (5 : Int32))) (o6 : Fld Z h z6 "java/lang/Enum" "ordinal" "I" (.int (6 : Int32))) (o7 : Fld Z h z7 "java/lang/Enum" "ordinal" "I" (.int (7 : Int32))) (o8 : Fld Z h z8 "java/lang/Enum" "ordinal" "I" (.int (8 : Int32))) (o9 : Fld Z h z9 "java/lang/Enum" "ordinal" "I" (.int (9 : Int32))) (o10 : Fld Z h z10 "java/lang/Enum" "ordinal" "I" (.int (10 : Int32))) (o11 : Fld Z h z11 "java/lang/Enum" "ordinal" "I" (.int (11 : Int32))) (o12 : Fld Z h z12 "java/lang/Enum" "ordinal" "I" (.int (12 : Int32))) (o13 : Fld Z h z13 "java/lang/Enum" "ordinal" "I" (.int (13 : Int32))) (o14 : Fld Z h z14 "java/lang/Enum" "ordinal" "I" (.int (14 : Int32))) (h : 0 ≤ k.toInt ∧ k.toInt ≤ 14) (hk : ¬ k < (2 : Int32) ∧ ¬ (13 : Int32) < k) : own_key (own_sel k z0 z1 z2 z3 z4 z5 z6 z7 z8 z9 z10 z11 z12 z13 z14) z0 z1 z14 = (1 : Int32) := by
  rcases own_cases k h with rfl | rfl | rfl | rfl | rfl | rfl | rfl | rfl | rfl | rfl | rfl | rfl | rfl | rfl | rfl
  · exact absurd hk (by decide)
  · exact absurd hk (by decide)
  · rw [show own_sel (2 : Int32) z0 z1 z2 z3 z4 z5 z6 z7 z8 z9 z10 z11 z12 z13 z14 = z2 from rfl, own_key, if_neg (o2.ne o0 (by decide)), if_neg (o2.ne o1 (by decide)), if_neg (o2.ne o14 (by decide))]
  · rw [show own_sel (3 : Int32) z0 z1 z2 z3 z4 z5 z6 z7 z8 z9 z10 z11 z12 z13 z14 = z3 from rfl, own_key, if_neg (o3.ne o0 (by decide)), if_neg (o3.ne o1 (by decide)), if_neg (o3.ne o14 (by decide))]
  · rw [show own_sel (4 : Int32) z0 z1 z2 z3 z4 z5 z6 z7 z8 z9 z10 z11 z12 z13 z14 = z4 from rfl, own_key, if_neg (o4.ne o0 (by decide)), if_neg (o4.ne o1 (by decide)), if_neg (o4.ne o14 (by decide))]
  · rw [show own_sel (5 : Int32) z0 z1 z2 z3 z4 z5 z6 z7 z8 z9 z10 z11 z12 z13 z14 = z5 from rfl, own_key, if_neg (o5.ne o0 (by decide)), if_neg (o5.ne o1 (by decide)), if_neg (o5.ne o14 (by decide))]
  · rw [show own_sel (6 : Int32) z0 z1 z2 z3 z4 z5 z6 z7 z8 z9 z10 z11 z12 z13 z14 = z6 from rfl, own_key, if_neg (o6.ne o0 (by decide)), if_neg (o6.ne o1 (by decide)), if_neg (o6.ne o14 (by decide))]
  · rw [show own_sel (7 : Int32) z0 z1 z2 z3 z4 z5 z6 z7 z8 z9 z10 z11 z12 z13 z14 = z7 from rfl, own_key, if_neg (o7.ne o0 (by decide)), if_neg (o7.ne o1 (by decide)), if_neg (o7.ne o14 (by decide))]
  · rw [show own_sel (8 : Int32) z0 z1 z2 z3 z4 z5 z6 z7 z8 z9 z10 z11 z12 z13 z14 = z8 from rfl, own_key, if_neg (o8.ne o0 (by decide)), if_neg (o8.ne o1 (by decide)), if_neg (o8.ne o14 (by decide))]
  · rw [show own_sel (9 : Int32) z0 z1 z2 z3 z4 z5 z6 z7 z8 z9 z10 z11 z12 z13 z14 = z9 from rfl, own_key, if_neg (o9.ne o0 (by decide)), if_neg (o9.ne o1 (by decide)), if_neg (o9.ne o14 (by decide))]
  · rw [show own_sel (10 : Int32) z0 z1 z2 z3 z4 z5 z6 z7 z8 z9 z10 z11 z12 z13 z14 = z10 from rfl, own_key, if_neg (o10.ne o0 (by decide)), if_neg (o10.ne o1 (by decide)), if_neg (o10.ne o14 (by decide))]
  · rw [show own_sel (11 : Int32) z0 z1 z2 z3 z4 z5 z6 z7 z8 z9 z10 z11 z12 z13 z14 = z11 from rfl, own_key, if_neg (o11.ne o0 (by decide)), if_neg (o11.ne o1 (by decide)), if_neg (o11.ne o14 (by decide))]
  · rw [show own_sel (12 : Int32) z0 z1 z2 z3 z4 z5 z6 z7 z8 z9 z10 z11 z12 z13 z14 = z12 from rfl, own_key, if_neg (o12.ne o0 (by decide)), if_neg (o12.ne o1 (by decide)), if_neg (o12.ne o14 (by decide))]
  · rw [show own_sel (13 : Int32) z0 z1 z2 z3 z4 z5 z6 z7 z8 z9 z10 z11 z12 z13 z14 = z13 from rfl, own_key, if_neg (o13.ne o0 (by decide)), if_neg (o13.ne o1 (by decide)), if_neg (o13.ne o14 (by decide))]
  · exact absurd hk (by decide)
/-! ScalarTypeIsMapKeyPinLaw.law (0) -/
theorem pn_0 : plainName "com/example/araucaria/araucaria/proto/ScalarTypeIsMapKeyPinLaw" = true := by first | (simp [plainName, overriddenIn]; done) | decide +kernel
theorem pd0_0 : parseMethodDescriptor "(I)Lcom/example/araucaria/araucaria/proto/ScalarType;" = some ⟨[.int], some (.object "com/example/araucaria/araucaria/proto/ScalarType")⟩ := by decide +kernel
theorem pd0_1 : parseMethodDescriptor "()Z" = some ⟨[], some .boolean⟩ := by decide +kernel
theorem ef_0 (m : MethodId) (p0 : Int32) : entryFrame m #[(.int p0)] maxLocals = (mkF m 0 #[.val (.int p0), .unset, .unset, .unset] []) := by first | (simp [entryFrame, mkF, argsToLocals, Value.category, maxLocals]; done) | rfl
def Q0 (Z : State) (p0 : Int32) (z2 : Addr) (z3 : Addr) (z4 : Addr) (z5 : Addr) (z6 : Addr) (z7 : Addr) (z8 : Addr) (z9 : Addr) (z10 : Addr) (z11 : Addr) (z12 : Addr) (z13 : Addr) (z14 : Addr) (z15 : Addr) (z16 : Addr) (h0 : Heap) (n0 : Nat) (v : Option Value) (h : Heap) (L : List Loc) : Prop := v = some (.int 1) ∧ Fr n0 L
set_option maxRecDepth 65536 in
set_option maxHeartbeats 40000000 in
theorem rm0 (l : Launch) (Z : State) (a0 : Array Value) (hw : ∀ d ∈ tables_1, d.before a0 Z = true) (ws : List Jvm.Cond) (p0 : Int32) (z2 : Addr) (z3 : Addr) (z4 : Addr) (z5 : Addr) (z6 : Addr) (z7 : Addr) (z8 : Addr) (z9 : Addr) (z10 : Addr) (z11 : Addr) (z12 : Addr) (z13 : Addr) (z14 : Addr) (z15 : Addr) (z16 : Addr) (h0 : Heap) (n0 : Nat) (Z0 : n0 ≤ h0.size) (S_DOUBLE : Sta Z Z.heap "com/example/araucaria/araucaria/proto/ScalarType" "DOUBLE" "Lcom/example/araucaria/araucaria/proto/ScalarType;" (.ref z2)) (Ol : Old Z n0 h0) (S_FLOAT : Sta Z Z.heap "com/example/araucaria/araucaria/proto/ScalarType" "FLOAT" "Lcom/example/araucaria/araucaria/proto/ScalarType;" (.ref z3)) (S_INT32 : Sta Z Z.heap "com/example/araucaria/araucaria/proto/ScalarType" "INT32" "Lcom/example/araucaria/araucaria/proto/ScalarType;" (.ref z4)) (S_UINT32 : Sta Z Z.heap "com/example/araucaria/araucaria/proto/ScalarType" "UINT32" "Lcom/example/araucaria/araucaria/proto/ScalarType;" (.ref z5)) (S_SINT32 : Sta Z Z.heap "com/example/araucaria/araucaria/proto/ScalarType" "SINT32" "Lcom/example/araucaria/araucaria/proto/ScalarType;" (.ref z6)) (S_FIXED32 : Sta Z Z.heap "com/example/araucaria/araucaria/proto/ScalarType" "FIXED32" "Lcom/example/araucaria/araucaria/proto/ScalarType;" (.ref z7)) (S_SFIXED32 : Sta Z Z.heap "com/example/araucaria/araucaria/proto/ScalarType" "SFIXED32" "Lcom/example/araucaria/araucaria/proto/ScalarType;" (.ref z8)) (S_INT64 : Sta Z Z.heap "com/example/araucaria/araucaria/proto/ScalarType" "INT64" "Lcom/example/araucaria/araucaria/proto/ScalarType;" (.ref z9)) (S_UINT64 : Sta Z Z.heap "com/example/araucaria/araucaria/proto/ScalarType" "UINT64" "Lcom/example/araucaria/araucaria/proto/ScalarType;" (.ref z10)) (S_SINT64 : Sta Z Z.heap "com/example/araucaria/araucaria/proto/ScalarType" "SINT64" "Lcom/example/araucaria/araucaria/proto/ScalarType;" (.ref z11)) (S_FIXED64 : Sta Z Z.heap "com/example/araucaria/araucaria/proto/ScalarType" "FIXED64" "Lcom/example/araucaria/araucaria/proto/ScalarType;" (.ref z12)) (S_SFIXED64 : Sta Z Z.heap "com/example/araucaria/araucaria/proto/ScalarType" "SFIXED64" "Lcom/example/araucaria/araucaria/proto/ScalarType;" (.ref z13)) (S_BOOL : Sta Z Z.heap "com/example/araucaria/araucaria/proto/ScalarType" "BOOL" "Lcom/example/araucaria/araucaria/proto/ScalarType;" (.ref z14)) (S_STRING : Sta Z Z.heap "com/example/araucaria/araucaria/proto/ScalarType" "STRING" "Lcom/example/araucaria/araucaria/proto/ScalarType;" (.ref z15)) (S_BYTES : Sta Z Z.heap "com/example/araucaria/araucaria/proto/ScalarType" "BYTES" "Lcom/example/araucaria/araucaria/proto/ScalarType;" (.ref z16)) (E_z2 : Exa Z h0 z2 "com/example/araucaria/araucaria/proto/ScalarType") (O_DOUBLE : Fld Z h0 z2 "java/lang/Enum" "ordinal" "I" (.int (0 : Int32))) (E_z3 : Exa Z h0 z3 "com/example/araucaria/araucaria/proto/ScalarType") (O_FLOAT : Fld Z h0 z3 "java/lang/Enum" "ordinal" "I" (.int (1 : Int32))) (E_z4 : Exa Z h0 z4 "com/example/araucaria/araucaria/proto/ScalarType") (O_INT32 : Fld Z h0 z4 "java/lang/Enum" "ordinal" "I" (.int (2 : Int32))) (E_z5 : Exa Z h0 z5 "com/example/araucaria/araucaria/proto/ScalarType") (O_UINT32 : Fld Z h0 z5 "java/lang/Enum" "ordinal" "I" (.int (3 : Int32))) (E_z6 : Exa Z h0 z6 "com/example/araucaria/araucaria/proto/ScalarType") (O_SINT32 : Fld Z h0 z6 "java/lang/Enum" "ordinal" "I" (.int (4 : Int32))) (E_z7 : Exa Z h0 z7 "com/example/araucaria/araucaria/proto/ScalarType") (O_FIXED32 : Fld Z h0 z7 "java/lang/Enum" "ordinal" "I" (.int (5 : Int32))) (E_z8 : Exa Z h0 z8 "com/example/araucaria/araucaria/proto/ScalarType") (O_SFIXED32 : Fld Z h0 z8 "java/lang/Enum" "ordinal" "I" (.int (6 : Int32))) (E_z9 : Exa Z h0 z9 "com/example/araucaria/araucaria/proto/ScalarType") (O_INT64 : Fld Z h0 z9 "java/lang/Enum" "ordinal" "I" (.int (7 : Int32))) (E_z10 : Exa Z h0 z10 "com/example/araucaria/araucaria/proto/ScalarType") (O_UINT64 : Fld Z h0 z10 "java/lang/Enum" "ordinal" "I" (.int (8 : Int32))) (E_z11 : Exa Z h0 z11 "com/example/araucaria/araucaria/proto/ScalarType") (O_SINT64 : Fld Z h0 z11 "java/lang/Enum" "ordinal" "I" (.int (9 : Int32))) (E_z12 : Exa Z h0 z12 "com/example/araucaria/araucaria/proto/ScalarType") (O_FIXED64 : Fld Z h0 z12 "java/lang/Enum" "ordinal" "I" (.int (10 : Int32))) (E_z13 : Exa Z h0 z13 "com/example/araucaria/araucaria/proto/ScalarType") (O_SFIXED64 : Fld Z h0 z13 "java/lang/Enum" "ordinal" "I" (.int (11 : Int32))) (E_z14 : Exa Z h0 z14 "com/example/araucaria/araucaria/proto/ScalarType") (O_BOOL : Fld Z h0 z14 "java/lang/Enum" "ordinal" "I" (.int (12 : Int32))) (E_z15 : Exa Z h0 z15 "com/example/araucaria/araucaria/proto/ScalarType") (O_STRING : Fld Z h0 z15 "java/lang/Enum" "ordinal" "I" (.int (13 : Int32))) (E_z16 : Exa Z h0 z16 "com/example/araucaria/araucaria/proto/ScalarType") (O_BYTES : Fld Z h0 z16 "java/lang/Enum" "ordinal" "I" (.int (14 : Int32))) :
    MetFree l x (head1 (Jvm.Cond.code x code maxLocals ret :: ws) room_1) (fun a U => a = #[(.int p0)] ∧ Z.Warmed39 U.vm ∧ U.heap = h0) (fun _ _ _ _ _ => True) (fun _ U o U' => ∃ v L, o = .returned v ∧ Q0 Z p0 z2 z3 z4 z5 z6 z7 z8 z9 z10 z11 z12 z13 z14 z15 z16 h0 n0 v U'.heap L ∧ FrameEnd U o U' L 0 0) := by
  refine MetFree.of_bodySF (plainFor_of_name pn_0) hisR ?_
  intro p e s m args below meth c s₁ Bd hml0 hP hK
  obtain ⟨rfl, hZ, hh⟩ := hP
  have hx := Bd.exec
  have hby := Bd.bytes
  have hml : c.maxLocals = 4 := hml0
  have hown : s.vm.findClass "com/example/araucaria/araucaria/proto/ScalarTypeIsMapKeyPinLaw" = some m.cls := findClass_of_methodNamed Bd.named
  have hnm := (name_of_methodNamed Bd.named Bd.method).1
  have hrt := Bd.returns
  have hlk := Bd.notSynchronized
  have X0 : Stand p l e room_1 s m #[(.int p0)] below meth c s₁ [] 0 0 := Stand.of_body Bd
  have e0 : s₁.heap = h0 := by rw [← hh, Bd.state]; rfl
  have N0 := Fr.nil n0
  have lt_E_z2 : LT.lt (α := Nat) z2 h0.size := E_z2.lt
  have lt_O_DOUBLE : LT.lt (α := Nat) z2 h0.size := O_DOUBLE.lt
  have lt_E_z3 : LT.lt (α := Nat) z3 h0.size := E_z3.lt
  have lt_O_FLOAT : LT.lt (α := Nat) z3 h0.size := O_FLOAT.lt
  have lt_E_z4 : LT.lt (α := Nat) z4 h0.size := E_z4.lt
  have lt_O_INT32 : LT.lt (α := Nat) z4 h0.size := O_INT32.lt
  have lt_E_z5 : LT.lt (α := Nat) z5 h0.size := E_z5.lt
  have lt_O_UINT32 : LT.lt (α := Nat) z5 h0.size := O_UINT32.lt
  have lt_E_z6 : LT.lt (α := Nat) z6 h0.size := E_z6.lt
  have lt_O_SINT32 : LT.lt (α := Nat) z6 h0.size := O_SINT32.lt
  have lt_E_z7 : LT.lt (α := Nat) z7 h0.size := E_z7.lt
  have lt_O_FIXED32 : LT.lt (α := Nat) z7 h0.size := O_FIXED32.lt
  have lt_E_z8 : LT.lt (α := Nat) z8 h0.size := E_z8.lt
  have lt_O_SFIXED32 : LT.lt (α := Nat) z8 h0.size := O_SFIXED32.lt
  have lt_E_z9 : LT.lt (α := Nat) z9 h0.size := E_z9.lt
  have lt_O_INT64 : LT.lt (α := Nat) z9 h0.size := O_INT64.lt
  have lt_E_z10 : LT.lt (α := Nat) z10 h0.size := E_z10.lt
  have lt_O_UINT64 : LT.lt (α := Nat) z10 h0.size := O_UINT64.lt
  have lt_E_z11 : LT.lt (α := Nat) z11 h0.size := E_z11.lt
  have lt_O_SINT64 : LT.lt (α := Nat) z11 h0.size := O_SINT64.lt
  have lt_E_z12 : LT.lt (α := Nat) z12 h0.size := E_z12.lt
  have lt_O_FIXED64 : LT.lt (α := Nat) z12 h0.size := O_FIXED64.lt
  have lt_E_z13 : LT.lt (α := Nat) z13 h0.size := E_z13.lt
  have lt_O_SFIXED64 : LT.lt (α := Nat) z13 h0.size := O_SFIXED64.lt
  have lt_E_z14 : LT.lt (α := Nat) z14 h0.size := E_z14.lt
  have lt_O_BOOL : LT.lt (α := Nat) z14 h0.size := O_BOOL.lt
  have lt_E_z15 : LT.lt (α := Nat) z15 h0.size := E_z15.lt
  have lt_O_STRING : LT.lt (α := Nat) z15 h0.size := O_STRING.lt
  have lt_E_z16 : LT.lt (α := Nat) z16 h0.size := E_z16.lt
  have lt_O_BYTES : LT.lt (α := Nat) z16 h0.size := O_BYTES.lt
  show Go p e below s 0 0 (Q0 Z p0 z2 z3 z4 z5 z6 z7 z8 z9 z10 z11 z12 z13 z14 z15 z16 h0 n0) (s₁.setTop (entryFrame m #[(.int p0)] maxLocals))
  rw [ef_0 m p0]
  refine Go.pre (st' := s₁.setTop (mkF m 8 #[.val (.int p0), .val (.int ((p0 &&& (2147483647 : Int32)) - (p0 &&& (2147483647 : Int32)) / (15 : Int32) * (15 : Int32))), .unset, .unset] [])) (fun target kt => ?_) ?_
  · show Steps p.tables e below (s₁.setTop (mkF m 0 #[.val (.int p0), .unset, .unset, .unset] [])) _
    refine XS.iloadN X0.here hx rfl (hb hby at_0) rfl ?_
    show Steps p.tables e below (s₁.setTop (mkF m 1 #[.val (.int p0), .unset, .unset, .unset] [(.int p0)])) _
    refine X0.ldcInt hx hown (mvT hZ (hw _ (List.mem_of_getElem? (i := 0) rfl))) (g := (mkF m 1 #[.val (.int p0), .unset, .unset, .unset] [(.int p0)])) rfl (hb hby at_1) _ ?_
    show Steps p.tables e below (s₁.setTop (mkF m 3 #[.val (.int p0), .unset, .unset, .unset] [(.int (2147483647 : Int32)), (.int p0)])) _
    refine XS.iand X0.here hx rfl (hb hby at_3) rfl ?_
    show Steps p.tables e below (s₁.setTop (mkF m 4 #[.val (.int p0), .unset, .unset, .unset] [(.int (p0 &&& (2147483647 : Int32)))])) _
    refine XS.bipush X0.here hx rfl (hb hby at_4) ?_
    show Steps p.tables e below (s₁.setTop (mkF m 6 #[.val (.int p0), .unset, .unset, .unset] [(.int (15 : Int32)), (.int (p0 &&& (2147483647 : Int32)))])) _
    refine XS.irem X0.here hx rfl (hb hby at_6) rfl (by decide) ?_
    show Steps p.tables e below (s₁.setTop (mkF m 7 #[.val (.int p0), .unset, .unset, .unset] [(.int ((p0 &&& (2147483647 : Int32)) - (p0 &&& (2147483647 : Int32)) / (15 : Int32) * (15 : Int32)))])) _
    refine XS.istoreN X0.here hx rfl (hb hby at_7) rfl (l' := #[.val (.int p0), .val (.int ((p0 &&& (2147483647 : Int32)) - (p0 &&& (2147483647 : Int32)) / (15 : Int32) * (15 : Int32))), .unset, .unset]) rfl ?_
    exact kt
  obtain ⟨kk, hkk⟩ : ∃ z, z = ((p0 &&& (2147483647 : Int32)) - (p0 &&& (2147483647 : Int32)) / (15 : Int32) * (15 : Int32)) := ⟨_, rfl⟩
  rw [← hkk]
  have rk : 0 ≤ kk.toInt ∧ kk.toInt ≤ 14 := by rw [hkk]; exact own_rng p0
  refine Go.pre (st' := s₁.setTop (mkF m 9 #[.val (.int p0), .val (.int kk), .unset, .unset] [(.int kk)])) (fun target kt => ?_) ?_
  · show Steps p.tables e below (s₁.setTop (mkF m 8 #[.val (.int p0), .val (.int kk), .unset, .unset] [])) _
    refine XS.iloadN X0.here hx rfl (hb hby at_8) rfl ?_
    exact kt
  obtain ⟨_, _, ⟨T1, L1, k1, n1⟩, -, X1, ⟨Lc1, hQ1, l1, y1, z1⟩, st1⟩ := Jvm.LawKit.callS X0 hx (y := (⟨"com/example/araucaria/araucaria/proto/ScalarTypeIsMapKeyPinLaw", "pick", "(I)Lcom/example/araucaria/araucaria/proto/ScalarType;"⟩ : MethodName)) hown (mvT hZ (hw _ (List.mem_of_getElem? (i := 1) rfl))) (mvT hZ (hw _ (List.mem_of_getElem? (i := 2) rfl))) (mvT hZ (hw _ (List.mem_of_getElem? (i := 3) rfl))) (mvT hZ (hw _ (List.mem_of_getElem? (i := 4) rfl))) (by decide) (backOf (W := 0) (rm1 l Z a0 hw [] kk z2 z3 z4 z5 z6 z7 z8 z9 z10 z11 z12 z13 z14 z15 z16 h0 n0 (by omega) S_DOUBLE Ol S_FLOAT S_INT32 S_UINT32 S_SINT32 S_FIXED32 S_SFIXED32 S_INT64 S_UINT64 S_SINT64 S_FIXED64 S_SFIXED64 S_BOOL S_STRING S_BYTES) hZ (hw _ (List.mem_of_getElem? (i := 4) rfl)) (hw _ (List.mem_of_getElem? (i := 3) rfl)) (by decide) (by decide)) (g := (mkF m 9 #[.val (.int p0), .val (.int kk), .unset, .unset] [(.int kk)])) rfl (by rw [hml]; rfl) (argsL := [(.int kk)]) (rest := []) (lenOf pd0_0 rfl) rfl (by show 2 * 0 + _ ≤ _; exact Nat.le_of_eq rfl) (hb hby at_9) (fun vm₁ hvm => ⟨rfl, e0, (by decide : 0 + 0 ≤ _), (by decide : 0 + 0 ≤ _)⟩)
  dsimp only [Pt.U, Pt.locs, Pt.cells, Pt.slots] at X1 l1 y1 z1 st1 hQ1
  subst l1 y1 z1
  obtain ⟨rfl, N1q, e1⟩ := hQ1
  have N1 := Fr.app N0 N1q
  refine Go.pre st1 ?_
  show Go p e below s _ _ _ (T1.setTop (mkF m 12 #[.val (.int p0), .val (.int kk), .unset, .unset] [(.ref (own_sel kk z2 z3 z4 z5 z6 z7 z8 z9 z10 z11 z12 z13 z14 z15 z16))]))
  refine Go.pre (st' := T1.setTop (mkF m 15 #[.val (.int p0), .val (.int kk), .val (.ref (own_sel kk z2 z3 z4 z5 z6 z7 z8 z9 z10 z11 z12 z13 z14 z15 z16)), .unset] [(.int (2 : Int32)), (.int kk)])) (fun target kt => ?_) ?_
  · show Steps p.tables e below (T1.setTop (mkF m 12 #[.val (.int p0), .val (.int kk), .unset, .unset] [(.ref (own_sel kk z2 z3 z4 z5 z6 z7 z8 z9 z10 z11 z12 z13 z14 z15 z16))])) _
    refine XS.astoreN X1.here hx rfl (hb hby at_12) rfl rfl (l' := #[.val (.int p0), .val (.int kk), .val (.ref (own_sel kk z2 z3 z4 z5 z6 z7 z8 z9 z10 z11 z12 z13 z14 z15 z16)), .unset]) rfl ?_
    show Steps p.tables e below (T1.setTop (mkF m 13 #[.val (.int p0), .val (.int kk), .val (.ref (own_sel kk z2 z3 z4 z5 z6 z7 z8 z9 z10 z11 z12 z13 z14 z15 z16)), .unset] [])) _
    refine XS.iloadN X1.here hx rfl (hb hby at_13) rfl ?_
    show Steps p.tables e below (T1.setTop (mkF m 14 #[.val (.int p0), .val (.int kk), .val (.ref (own_sel kk z2 z3 z4 z5 z6 z7 z8 z9 z10 z11 z12 z13 z14 z15 z16)), .unset] [(.int kk)])) _
    refine XS.iconst X1.here hx rfl (hb hby at_14) ?_
    exact kt
  by_cases h15_17 : kk < (2 : Int32)
  · refine Go.pre (st' := T1.setTop (mkF m 28 #[.val (.int p0), .val (.int kk), .val (.ref (own_sel kk z2 z3 z4 z5 z6 z7 z8 z9 z10 z11 z12 z13 z14 z15 z16)), .unset] [])) (fun target kt => ?_) ?_
    · show Steps p.tables e below (T1.setTop (mkF m 15 #[.val (.int p0), .val (.int kk), .val (.ref (own_sel kk z2 z3 z4 z5 z6 z7 z8 z9 z10 z11 z12 z13 z14 z15 z16)), .unset] [(.int (2 : Int32)), (.int kk)])) _
      refine XS.icmpYes X1.here hx rfl (pc0 := 15) (pc' := 28) rfl (hb hby at_15) rfl (tlt h15_17).1 (by decide) (by decide) ?_
      exact kt
    refine Go.pre (st' := T1.setTop (mkF m 31 #[.val (.int p0), .val (.int kk), .val (.ref (own_sel kk z2 z3 z4 z5 z6 z7 z8 z9 z10 z11 z12 z13 z14 z15 z16)), .val (.int (0 : Int32))] [(.ref (own_sel kk z2 z3 z4 z5 z6 z7 z8 z9 z10 z11 z12 z13 z14 z15 z16))])) (fun target kt => ?_) ?_
    · show Steps p.tables e below (T1.setTop (mkF m 28 #[.val (.int p0), .val (.int kk), .val (.ref (own_sel kk z2 z3 z4 z5 z6 z7 z8 z9 z10 z11 z12 z13 z14 z15 z16)), .unset] [])) _
      refine XS.iconst X1.here hx rfl (hb hby at_28) ?_
      show Steps p.tables e below (T1.setTop (mkF m 29 #[.val (.int p0), .val (.int kk), .val (.ref (own_sel kk z2 z3 z4 z5 z6 z7 z8 z9 z10 z11 z12 z13 z14 z15 z16)), .unset] [(.int (0 : Int32))])) _
      refine XS.istoreN X1.here hx rfl (hb hby at_29) rfl (l' := #[.val (.int p0), .val (.int kk), .val (.ref (own_sel kk z2 z3 z4 z5 z6 z7 z8 z9 z10 z11 z12 z13 z14 z15 z16)), .val (.int (0 : Int32))]) rfl ?_
      show Steps p.tables e below (T1.setTop (mkF m 30 #[.val (.int p0), .val (.int kk), .val (.ref (own_sel kk z2 z3 z4 z5 z6 z7 z8 z9 z10 z11 z12 z13 z14 z15 z16)), .val (.int (0 : Int32))] [])) _
      refine XS.aloadN X1.here hx rfl (hb hby at_30) rfl rfl ?_
      exact kt
    obtain ⟨cq18, kq18, q18a, q18b, q18c⟩ := isOf hZ e1 (own_selE _ z2 z3 z4 z5 z6 z7 z8 z9 z10 z11 z12 z13 z14 z15 z16 E_z2 E_z3 E_z4 E_z5 E_z6 E_z7 E_z8 E_z9 E_z10 E_z11 E_z12 E_z13 E_z14 E_z15 E_z16)
    obtain ⟨_, _, ⟨T18, L18, k18, n18⟩, -, X18, ⟨Lc18, hQ18, l18, y18, z18⟩, st18⟩ := X1.virtualBack hx (y := (⟨"com/example/araucaria/araucaria/proto/ScalarType", "isMapKey", "()Z"⟩ : MethodName)) (z := (⟨"com/example/araucaria/araucaria/proto/ScalarType", "isMapKey", "()Z"⟩ : MethodName)) hown (mvT hZ (hw _ (List.mem_of_getElem? (i := 8) rfl))) (mvT hZ (hw _ (List.mem_of_getElem? (i := 9) rfl))) (notFace_of_selects (args := #[]) (mvT hZ (hw _ (List.mem_of_getElem? (i := 11) rfl)))) (mvT hZ (hw _ (List.mem_of_getElem? (i := 11) rfl))) (mvT hZ (hw _ (List.mem_of_getElem? (i := 10) rfl))) (by decide) (backOf (W := 0) (rm2 l Z a0 hw [] (own_sel kk z2 z3 z4 z5 z6 z7 z8 z9 z10 z11 z12 z13 z14 z15 z16) z2 z3 z16 h0 n0 (by omega) S_DOUBLE Ol S_FLOAT S_BYTES) hZ (hw _ (List.mem_of_getElem? (i := 12) rfl)) (hw _ (List.mem_of_getElem? (i := 6) rfl)) (by decide) (by decide)) q18a q18c (g := (mkF m 31 #[.val (.int p0), .val (.int kk), .val (.ref (own_sel kk z2 z3 z4 z5 z6 z7 z8 z9 z10 z11 z12 z13 z14 z15 z16)), .val (.int (0 : Int32))] [(.ref (own_sel kk z2 z3 z4 z5 z6 z7 z8 z9 z10 z11 z12 z13 z14 z15 z16))])) rfl (by rw [hml]; rfl) (Steps.refl _) (argsL := []) (rest := []) (lenOf pd0_1 rfl) rfl (by show 2 * 0 + _ ≤ _; exact Nat.le_of_eq rfl) (hb hby at_31) (fun vm₁ hvm => ⟨rfl, e1, (by decide : 0 + 0 ≤ _), (by decide : 0 + 0 ≤ _)⟩)
    dsimp only [Pt.U, Pt.locs, Pt.cells, Pt.slots] at X18 l18 y18 z18 st18 hQ18
    subst l18 y18 z18
    obtain ⟨rfl, N18q, e18⟩ := hQ18
    have N18 := Fr.app N1 N18q
    refine Go.trans st18 ?_
    show Go p e below s _ _ _ (T18.setTop (mkF m 34 #[.val (.int p0), .val (.int kk), .val (.ref (own_sel kk z2 z3 z4 z5 z6 z7 z8 z9 z10 z11 z12 z13 z14 z15 z16)), .val (.int (0 : Int32))] [(.int (own_key (own_sel kk z2 z3 z4 z5 z6 z7 z8 z9 z10 z11 z12 z13 z14 z15 z16) z2 z3 z16))]))
    refine Go.pre (st' := T18.setTop (mkF m 43 #[.val (.int p0), .val (.int kk), .val (.ref (own_sel kk z2 z3 z4 z5 z6 z7 z8 z9 z10 z11 z12 z13 z14 z15 z16)), .val (.int (0 : Int32))] [(.int (1 : Int32))])) (fun target kt => ?_) ?_
    · show Steps p.tables e below (T18.setTop (mkF m 34 #[.val (.int p0), .val (.int kk), .val (.ref (own_sel kk z2 z3 z4 z5 z6 z7 z8 z9 z10 z11 z12 z13 z14 z15 z16)), .val (.int (0 : Int32))] [(.int (own_key (own_sel kk z2 z3 z4 z5 z6 z7 z8 z9 z10 z11 z12 z13 z14 z15 z16) z2 z3 z16))])) _
      refine XS.iloadN X18.here hx rfl (hb hby at_34) rfl ?_
      show Steps p.tables e below (T18.setTop (mkF m 35 #[.val (.int p0), .val (.int kk), .val (.ref (own_sel kk z2 z3 z4 z5 z6 z7 z8 z9 z10 z11 z12 z13 z14 z15 z16)), .val (.int (0 : Int32))] [(.int (0 : Int32)), (.int (own_key (own_sel kk z2 z3 z4 z5 z6 z7 z8 z9 z10 z11 z12 z13 z14 z15 z16) z2 z3 z16))])) _
      refine XS.icmpNo X18.here hx rfl (hb hby at_35) rfl (teq (own_low kk z2 z3 z4 z5 z6 z7 z8 z9 z10 z11 z12 z13 z14 z15 z16 rk h15_17)).2 ?_
      show Steps p.tables e below (T18.setTop (mkF m 38 #[.val (.int p0), .val (.int kk), .val (.ref (own_sel kk z2 z3 z4 z5 z6 z7 z8 z9 z10 z11 z12 z13 z14 z15 z16)), .val (.int (0 : Int32))] [])) _
      refine XS.iconst X18.here hx rfl (hb hby at_38) ?_
      show Steps p.tables e below (T18.setTop (mkF m 39 #[.val (.int p0), .val (.int kk), .val (.ref (own_sel kk z2 z3 z4 z5 z6 z7 z8 z9 z10 z11 z12 z13 z14 z15 z16)), .val (.int (0 : Int32))] [(.int (1 : Int32))])) _
      refine XS.goto X18.here hx rfl (pc0 := 39) (pc' := 43) rfl (hb hby at_39) (by decide) (by decide) ?_
      exact kt
    exact Go.retN X18 hx hlk hrt (z' := (1 : Int32)) (by simp) (hb hby at_43) rfl (by decide) (by decide) (by rw [e18]; exact ⟨rfl, N18⟩)
  · refine Go.pre (st' := T1.setTop (mkF m 18 #[.val (.int p0), .val (.int kk), .val (.ref (own_sel kk z2 z3 z4 z5 z6 z7 z8 z9 z10 z11 z12 z13 z14 z15 z16)), .unset] [])) (fun target kt => ?_) ?_
    · show Steps p.tables e below (T1.setTop (mkF m 15 #[.val (.int p0), .val (.int kk), .val (.ref (own_sel kk z2 z3 z4 z5 z6 z7 z8 z9 z10 z11 z12 z13 z14 z15 z16)), .unset] [(.int (2 : Int32)), (.int kk)])) _
      refine XS.icmpNo X1.here hx rfl (hb hby at_15) rfl (flt h15_17).1 ?_
      exact kt
    refine Go.pre (st' := T1.setTop (mkF m 21 #[.val (.int p0), .val (.int kk), .val (.ref (own_sel kk z2 z3 z4 z5 z6 z7 z8 z9 z10 z11 z12 z13 z14 z15 z16)), .unset] [(.int (13 : Int32)), (.int kk)])) (fun target kt => ?_) ?_
    · show Steps p.tables e below (T1.setTop (mkF m 18 #[.val (.int p0), .val (.int kk), .val (.ref (own_sel kk z2 z3 z4 z5 z6 z7 z8 z9 z10 z11 z12 z13 z14 z15 z16)), .unset] [])) _
      refine XS.iloadN X1.here hx rfl (hb hby at_18) rfl ?_
      show Steps p.tables e below (T1.setTop (mkF m 19 #[.val (.int p0), .val (.int kk), .val (.ref (own_sel kk z2 z3 z4 z5 z6 z7 z8 z9 z10 z11 z12 z13 z14 z15 z16)), .unset] [(.int kk)])) _
      refine XS.bipush X1.here hx rfl (hb hby at_19) ?_
      exact kt
    by_cases h21_19 : (13 : Int32) < kk
    · refine Go.pre (st' := T1.setTop (mkF m 28 #[.val (.int p0), .val (.int kk), .val (.ref (own_sel kk z2 z3 z4 z5 z6 z7 z8 z9 z10 z11 z12 z13 z14 z15 z16)), .unset] [])) (fun target kt => ?_) ?_
      · show Steps p.tables e below (T1.setTop (mkF m 21 #[.val (.int p0), .val (.int kk), .val (.ref (own_sel kk z2 z3 z4 z5 z6 z7 z8 z9 z10 z11 z12 z13 z14 z15 z16)), .unset] [(.int (13 : Int32)), (.int kk)])) _
        refine XS.icmpYes X1.here hx rfl (pc0 := 21) (pc' := 28) rfl (hb hby at_21) rfl (tlt h21_19).2.2.1 (by decide) (by decide) ?_
        exact kt
      refine Go.pre (st' := T1.setTop (mkF m 31 #[.val (.int p0), .val (.int kk), .val (.ref (own_sel kk z2 z3 z4 z5 z6 z7 z8 z9 z10 z11 z12 z13 z14 z15 z16)), .val (.int (0 : Int32))] [(.ref (own_sel kk z2 z3 z4 z5 z6 z7 z8 z9 z10 z11 z12 z13 z14 z15 z16))])) (fun target kt => ?_) ?_
      · show Steps p.tables e below (T1.setTop (mkF m 28 #[.val (.int p0), .val (.int kk), .val (.ref (own_sel kk z2 z3 z4 z5 z6 z7 z8 z9 z10 z11 z12 z13 z14 z15 z16)), .unset] [])) _
        refine XS.iconst X1.here hx rfl (hb hby at_28) ?_
        show Steps p.tables e below (T1.setTop (mkF m 29 #[.val (.int p0), .val (.int kk), .val (.ref (own_sel kk z2 z3 z4 z5 z6 z7 z8 z9 z10 z11 z12 z13 z14 z15 z16)), .unset] [(.int (0 : Int32))])) _
        refine XS.istoreN X1.here hx rfl (hb hby at_29) rfl (l' := #[.val (.int p0), .val (.int kk), .val (.ref (own_sel kk z2 z3 z4 z5 z6 z7 z8 z9 z10 z11 z12 z13 z14 z15 z16)), .val (.int (0 : Int32))]) rfl ?_
        show Steps p.tables e below (T1.setTop (mkF m 30 #[.val (.int p0), .val (.int kk), .val (.ref (own_sel kk z2 z3 z4 z5 z6 z7 z8 z9 z10 z11 z12 z13 z14 z15 z16)), .val (.int (0 : Int32))] [])) _
        refine XS.aloadN X1.here hx rfl (hb hby at_30) rfl rfl ?_
        exact kt
      obtain ⟨cq20, kq20, q20a, q20b, q20c⟩ := isOf hZ e1 (own_selE _ z2 z3 z4 z5 z6 z7 z8 z9 z10 z11 z12 z13 z14 z15 z16 E_z2 E_z3 E_z4 E_z5 E_z6 E_z7 E_z8 E_z9 E_z10 E_z11 E_z12 E_z13 E_z14 E_z15 E_z16)
      obtain ⟨_, _, ⟨T20, L20, k20, n20⟩, -, X20, ⟨Lc20, hQ20, l20, y20, z20⟩, st20⟩ := X1.virtualBack hx (y := (⟨"com/example/araucaria/araucaria/proto/ScalarType", "isMapKey", "()Z"⟩ : MethodName)) (z := (⟨"com/example/araucaria/araucaria/proto/ScalarType", "isMapKey", "()Z"⟩ : MethodName)) hown (mvT hZ (hw _ (List.mem_of_getElem? (i := 8) rfl))) (mvT hZ (hw _ (List.mem_of_getElem? (i := 9) rfl))) (notFace_of_selects (args := #[]) (mvT hZ (hw _ (List.mem_of_getElem? (i := 11) rfl)))) (mvT hZ (hw _ (List.mem_of_getElem? (i := 11) rfl))) (mvT hZ (hw _ (List.mem_of_getElem? (i := 10) rfl))) (by decide) (backOf (W := 0) (rm2 l Z a0 hw [] (own_sel kk z2 z3 z4 z5 z6 z7 z8 z9 z10 z11 z12 z13 z14 z15 z16) z2 z3 z16 h0 n0 (by omega) S_DOUBLE Ol S_FLOAT S_BYTES) hZ (hw _ (List.mem_of_getElem? (i := 12) rfl)) (hw _ (List.mem_of_getElem? (i := 6) rfl)) (by decide) (by decide)) q20a q20c (g := (mkF m 31 #[.val (.int p0), .val (.int kk), .val (.ref (own_sel kk z2 z3 z4 z5 z6 z7 z8 z9 z10 z11 z12 z13 z14 z15 z16)), .val (.int (0 : Int32))] [(.ref (own_sel kk z2 z3 z4 z5 z6 z7 z8 z9 z10 z11 z12 z13 z14 z15 z16))])) rfl (by rw [hml]; rfl) (Steps.refl _) (argsL := []) (rest := []) (lenOf pd0_1 rfl) rfl (by show 2 * 0 + _ ≤ _; exact Nat.le_of_eq rfl) (hb hby at_31) (fun vm₁ hvm => ⟨rfl, e1, (by decide : 0 + 0 ≤ _), (by decide : 0 + 0 ≤ _)⟩)
      dsimp only [Pt.U, Pt.locs, Pt.cells, Pt.slots] at X20 l20 y20 z20 st20 hQ20
      subst l20 y20 z20
      obtain ⟨rfl, N20q, e20⟩ := hQ20
      have N20 := Fr.app N1 N20q
      refine Go.trans st20 ?_
      show Go p e below s _ _ _ (T20.setTop (mkF m 34 #[.val (.int p0), .val (.int kk), .val (.ref (own_sel kk z2 z3 z4 z5 z6 z7 z8 z9 z10 z11 z12 z13 z14 z15 z16)), .val (.int (0 : Int32))] [(.int (own_key (own_sel kk z2 z3 z4 z5 z6 z7 z8 z9 z10 z11 z12 z13 z14 z15 z16) z2 z3 z16))]))
      refine Go.pre (st' := T20.setTop (mkF m 43 #[.val (.int p0), .val (.int kk), .val (.ref (own_sel kk z2 z3 z4 z5 z6 z7 z8 z9 z10 z11 z12 z13 z14 z15 z16)), .val (.int (0 : Int32))] [(.int (1 : Int32))])) (fun target kt => ?_) ?_
      · show Steps p.tables e below (T20.setTop (mkF m 34 #[.val (.int p0), .val (.int kk), .val (.ref (own_sel kk z2 z3 z4 z5 z6 z7 z8 z9 z10 z11 z12 z13 z14 z15 z16)), .val (.int (0 : Int32))] [(.int (own_key (own_sel kk z2 z3 z4 z5 z6 z7 z8 z9 z10 z11 z12 z13 z14 z15 z16) z2 z3 z16))])) _
        refine XS.iloadN X20.here hx rfl (hb hby at_34) rfl ?_
        show Steps p.tables e below (T20.setTop (mkF m 35 #[.val (.int p0), .val (.int kk), .val (.ref (own_sel kk z2 z3 z4 z5 z6 z7 z8 z9 z10 z11 z12 z13 z14 z15 z16)), .val (.int (0 : Int32))] [(.int (0 : Int32)), (.int (own_key (own_sel kk z2 z3 z4 z5 z6 z7 z8 z9 z10 z11 z12 z13 z14 z15 z16) z2 z3 z16))])) _
        refine XS.icmpNo X20.here hx rfl (hb hby at_35) rfl (teq (own_high kk z2 z3 z4 z5 z6 z7 z8 z9 z10 z11 z12 z13 z14 z15 z16 rk h21_19)).2 ?_
        show Steps p.tables e below (T20.setTop (mkF m 38 #[.val (.int p0), .val (.int kk), .val (.ref (own_sel kk z2 z3 z4 z5 z6 z7 z8 z9 z10 z11 z12 z13 z14 z15 z16)), .val (.int (0 : Int32))] [])) _
        refine XS.iconst X20.here hx rfl (hb hby at_38) ?_
        show Steps p.tables e below (T20.setTop (mkF m 39 #[.val (.int p0), .val (.int kk), .val (.ref (own_sel kk z2 z3 z4 z5 z6 z7 z8 z9 z10 z11 z12 z13 z14 z15 z16)), .val (.int (0 : Int32))] [(.int (1 : Int32))])) _
        refine XS.goto X20.here hx rfl (pc0 := 39) (pc' := 43) rfl (hb hby at_39) (by decide) (by decide) ?_
        exact kt
      exact Go.retN X20 hx hlk hrt (z' := (1 : Int32)) (by simp) (hb hby at_43) rfl (by decide) (by decide) (by rw [e20]; exact ⟨rfl, N20⟩)
    · refine Go.pre (st' := T1.setTop (mkF m 24 #[.val (.int p0), .val (.int kk), .val (.ref (own_sel kk z2 z3 z4 z5 z6 z7 z8 z9 z10 z11 z12 z13 z14 z15 z16)), .unset] [])) (fun target kt => ?_) ?_
      · show Steps p.tables e below (T1.setTop (mkF m 21 #[.val (.int p0), .val (.int kk), .val (.ref (own_sel kk z2 z3 z4 z5 z6 z7 z8 z9 z10 z11 z12 z13 z14 z15 z16)), .unset] [(.int (13 : Int32)), (.int kk)])) _
        refine XS.icmpNo X1.here hx rfl (hb hby at_21) rfl (flt h21_19).2.2.1 ?_
        exact kt
      refine Go.pre (st' := T1.setTop (mkF m 31 #[.val (.int p0), .val (.int kk), .val (.ref (own_sel kk z2 z3 z4 z5 z6 z7 z8 z9 z10 z11 z12 z13 z14 z15 z16)), .val (.int (1 : Int32))] [(.ref (own_sel kk z2 z3 z4 z5 z6 z7 z8 z9 z10 z11 z12 z13 z14 z15 z16))])) (fun target kt => ?_) ?_
      · show Steps p.tables e below (T1.setTop (mkF m 24 #[.val (.int p0), .val (.int kk), .val (.ref (own_sel kk z2 z3 z4 z5 z6 z7 z8 z9 z10 z11 z12 z13 z14 z15 z16)), .unset] [])) _
        refine XS.iconst X1.here hx rfl (hb hby at_24) ?_
        show Steps p.tables e below (T1.setTop (mkF m 25 #[.val (.int p0), .val (.int kk), .val (.ref (own_sel kk z2 z3 z4 z5 z6 z7 z8 z9 z10 z11 z12 z13 z14 z15 z16)), .unset] [(.int (1 : Int32))])) _
        refine XS.goto X1.here hx rfl (pc0 := 25) (pc' := 29) rfl (hb hby at_25) (by decide) (by decide) ?_
        show Steps p.tables e below (T1.setTop (mkF m 29 #[.val (.int p0), .val (.int kk), .val (.ref (own_sel kk z2 z3 z4 z5 z6 z7 z8 z9 z10 z11 z12 z13 z14 z15 z16)), .unset] [(.int (1 : Int32))])) _
        refine XS.istoreN X1.here hx rfl (hb hby at_29) rfl (l' := #[.val (.int p0), .val (.int kk), .val (.ref (own_sel kk z2 z3 z4 z5 z6 z7 z8 z9 z10 z11 z12 z13 z14 z15 z16)), .val (.int (1 : Int32))]) rfl ?_
        show Steps p.tables e below (T1.setTop (mkF m 30 #[.val (.int p0), .val (.int kk), .val (.ref (own_sel kk z2 z3 z4 z5 z6 z7 z8 z9 z10 z11 z12 z13 z14 z15 z16)), .val (.int (1 : Int32))] [])) _
        refine XS.aloadN X1.here hx rfl (hb hby at_30) rfl rfl ?_
        exact kt
      obtain ⟨cq21, kq21, q21a, q21b, q21c⟩ := isOf hZ e1 (own_selE _ z2 z3 z4 z5 z6 z7 z8 z9 z10 z11 z12 z13 z14 z15 z16 E_z2 E_z3 E_z4 E_z5 E_z6 E_z7 E_z8 E_z9 E_z10 E_z11 E_z12 E_z13 E_z14 E_z15 E_z16)
      obtain ⟨_, _, ⟨T21, L21, k21, n21⟩, -, X21, ⟨Lc21, hQ21, l21, y21, z21⟩, st21⟩ := X1.virtualBack hx (y := (⟨"com/example/araucaria/araucaria/proto/ScalarType", "isMapKey", "()Z"⟩ : MethodName)) (z := (⟨"com/example/araucaria/araucaria/proto/ScalarType", "isMapKey", "()Z"⟩ : MethodName)) hown (mvT hZ (hw _ (List.mem_of_getElem? (i := 8) rfl))) (mvT hZ (hw _ (List.mem_of_getElem? (i := 9) rfl))) (notFace_of_selects (args := #[]) (mvT hZ (hw _ (List.mem_of_getElem? (i := 11) rfl)))) (mvT hZ (hw _ (List.mem_of_getElem? (i := 11) rfl))) (mvT hZ (hw _ (List.mem_of_getElem? (i := 10) rfl))) (by decide) (backOf (W := 0) (rm2 l Z a0 hw [] (own_sel kk z2 z3 z4 z5 z6 z7 z8 z9 z10 z11 z12 z13 z14 z15 z16) z2 z3 z16 h0 n0 (by omega) S_DOUBLE Ol S_FLOAT S_BYTES) hZ (hw _ (List.mem_of_getElem? (i := 12) rfl)) (hw _ (List.mem_of_getElem? (i := 6) rfl)) (by decide) (by decide)) q21a q21c (g := (mkF m 31 #[.val (.int p0), .val (.int kk), .val (.ref (own_sel kk z2 z3 z4 z5 z6 z7 z8 z9 z10 z11 z12 z13 z14 z15 z16)), .val (.int (1 : Int32))] [(.ref (own_sel kk z2 z3 z4 z5 z6 z7 z8 z9 z10 z11 z12 z13 z14 z15 z16))])) rfl (by rw [hml]; rfl) (Steps.refl _) (argsL := []) (rest := []) (lenOf pd0_1 rfl) rfl (by show 2 * 0 + _ ≤ _; exact Nat.le_of_eq rfl) (hb hby at_31) (fun vm₁ hvm => ⟨rfl, e1, (by decide : 0 + 0 ≤ _), (by decide : 0 + 0 ≤ _)⟩)
      dsimp only [Pt.U, Pt.locs, Pt.cells, Pt.slots] at X21 l21 y21 z21 st21 hQ21
      subst l21 y21 z21
      obtain ⟨rfl, N21q, e21⟩ := hQ21
      have N21 := Fr.app N1 N21q
      refine Go.trans st21 ?_
      show Go p e below s _ _ _ (T21.setTop (mkF m 34 #[.val (.int p0), .val (.int kk), .val (.ref (own_sel kk z2 z3 z4 z5 z6 z7 z8 z9 z10 z11 z12 z13 z14 z15 z16)), .val (.int (1 : Int32))] [(.int (own_key (own_sel kk z2 z3 z4 z5 z6 z7 z8 z9 z10 z11 z12 z13 z14 z15 z16) z2 z3 z16))]))
      refine Go.pre (st' := T21.setTop (mkF m 43 #[.val (.int p0), .val (.int kk), .val (.ref (own_sel kk z2 z3 z4 z5 z6 z7 z8 z9 z10 z11 z12 z13 z14 z15 z16)), .val (.int (1 : Int32))] [(.int (1 : Int32))])) (fun target kt => ?_) ?_
      · show Steps p.tables e below (T21.setTop (mkF m 34 #[.val (.int p0), .val (.int kk), .val (.ref (own_sel kk z2 z3 z4 z5 z6 z7 z8 z9 z10 z11 z12 z13 z14 z15 z16)), .val (.int (1 : Int32))] [(.int (own_key (own_sel kk z2 z3 z4 z5 z6 z7 z8 z9 z10 z11 z12 z13 z14 z15 z16) z2 z3 z16))])) _
        refine XS.iloadN X21.here hx rfl (hb hby at_34) rfl ?_
        show Steps p.tables e below (T21.setTop (mkF m 35 #[.val (.int p0), .val (.int kk), .val (.ref (own_sel kk z2 z3 z4 z5 z6 z7 z8 z9 z10 z11 z12 z13 z14 z15 z16)), .val (.int (1 : Int32))] [(.int (1 : Int32)), (.int (own_key (own_sel kk z2 z3 z4 z5 z6 z7 z8 z9 z10 z11 z12 z13 z14 z15 z16) z2 z3 z16))])) _
        refine XS.icmpNo X21.here hx rfl (hb hby at_35) rfl (teq (own_mid kk z2 z3 z4 z5 z6 z7 z8 z9 z10 z11 z12 z13 z14 z15 z16 O_DOUBLE O_FLOAT O_INT32 O_UINT32 O_SINT32 O_FIXED32 O_SFIXED32 O_INT64 O_UINT64 O_SINT64 O_FIXED64 O_SFIXED64 O_BOOL O_STRING O_BYTES rk ⟨h15_17, h21_19⟩)).2 ?_
        show Steps p.tables e below (T21.setTop (mkF m 38 #[.val (.int p0), .val (.int kk), .val (.ref (own_sel kk z2 z3 z4 z5 z6 z7 z8 z9 z10 z11 z12 z13 z14 z15 z16)), .val (.int (1 : Int32))] [])) _
        refine XS.iconst X21.here hx rfl (hb hby at_38) ?_
        show Steps p.tables e below (T21.setTop (mkF m 39 #[.val (.int p0), .val (.int kk), .val (.ref (own_sel kk z2 z3 z4 z5 z6 z7 z8 z9 z10 z11 z12 z13 z14 z15 z16)), .val (.int (1 : Int32))] [(.int (1 : Int32))])) _
        refine XS.goto X21.here hx rfl (pc0 := 39) (pc' := 43) rfl (hb hby at_39) (by decide) (by decide) ?_
        exact kt
      exact Go.retN X21 hx hlk hrt (z' := (1 : Int32)) (by simp) (hb hby at_43) rfl (by decide) (by decide) (by rw [e21]; exact ⟨rfl, N21⟩)
set_option maxRecDepth 65536 in
set_option maxHeartbeats 40000000 in
theorem comes_1 {Post : Tables → Env → Array Value → State → Outcome → State → Prop} (hpost : ∀ tb e args s v u, (limb_1_1.after args s (.returned v) u = true ∧ limb_1_2.after args s (.returned v) u = true ∧ True) → FrameEnd s (.returned v) u (Jvm.fieldLocs frame_1_writes args s ++ Jvm.arrayLocs frame_1_arrays args s ++ Jvm.staticLocs frame_1_statics s) 0 0 → Post tb e args s (.returned v) u) :
    ArmFor flags0 classFile x code maxLocals ret World_1 tables_1 room_1 Calls_1 rest_1 Pre_1 Post := by
  intro l hfl _ _ p e ha hc hk s m args below hf hA hF happ hP
  obtain ⟨hcalls, hrest, hpre⟩ := hP
  obtain ⟨-, -, -, hnamed, -, -, -, hat⟩ := (Spec.applies_iff hf).mp happ
  obtain ⟨hg, hn⟩ := and_e (Cond.before_iff.mp (show (Jvm.Cond.and given_1 narrow_1).before args s = true from hpre))
  obtain ⟨g0, hg1⟩ := and_e hg
  obtain ⟨w0, rfl⟩ : ∃ w0 : Value, args = #[w0] := by
    have hs : args.size = 1 := by simpa [Cond.value, given_1] using g0
    obtain ⟨L⟩ := args
    match L, hs with
    | [w0], _ => exact ⟨w0, rfl⟩
  have hw := fun d (hd : d ∈ tables_1) => atoms_spec (ws := Jvm.Cond.code x code maxLocals ret :: tables_1) hat d (List.mem_cons_of_mem _ hd)
  obtain ⟨i0, ei0⟩ := is_v hg1
  obtain rfl : w0 = (.int i0) := Option.some.inj ei0
  obtain ⟨c0, hn0⟩ := and_e hn
  obtain ⟨v_DOUBLE, ev_DOUBLE⟩ := exa_v c0
  have E_DOUBLE := Exa.start ev_DOUBLE c0
  have S_DOUBLE := Sta.start ev_DOUBLE (Or.inr ⟨(hw _ (List.mem_of_getElem? (i := 6) rfl)), (hw _ (List.mem_of_getElem? (i := 7) rfl))⟩)
  obtain ⟨c1, hn1⟩ := and_e hn0
  obtain ⟨v_UINT32, ev_UINT32⟩ := exa_v c1
  have E_UINT32 := Exa.start ev_UINT32 c1
  have S_UINT32 := Sta.start ev_UINT32 (Or.inr ⟨(hw _ (List.mem_of_getElem? (i := 6) rfl)), (hw _ (List.mem_of_getElem? (i := 15) rfl))⟩)
  obtain ⟨c2, hn2⟩ := and_e hn1
  have O_UINT32 := Fld.start ((fld_at ev_UINT32).symm.trans (eqv_i (Term.int_eval _) c2))
  obtain ⟨c3, hn3⟩ := and_e hn2
  have O_DOUBLE := Fld.start ((fld_at ev_DOUBLE).symm.trans (eqv_i (Term.int_eval _) c3))
  obtain ⟨c4, hn4⟩ := and_e hn3
  obtain ⟨v_FLOAT, ev_FLOAT⟩ := exa_v c4
  have E_FLOAT := Exa.start ev_FLOAT c4
  have S_FLOAT := Sta.start ev_FLOAT (Or.inr ⟨(hw _ (List.mem_of_getElem? (i := 6) rfl)), (hw _ (List.mem_of_getElem? (i := 17) rfl))⟩)
  obtain ⟨c5, hn5⟩ := and_e hn4
  have O_FLOAT := Fld.start ((fld_at ev_FLOAT).symm.trans (eqv_i (Term.int_eval _) c5))
  obtain ⟨c6, hn6⟩ := and_e hn5
  obtain ⟨v_BYTES, ev_BYTES⟩ := exa_v c6
  have E_BYTES := Exa.start ev_BYTES c6
  have S_BYTES := Sta.start ev_BYTES (Or.inr ⟨(hw _ (List.mem_of_getElem? (i := 6) rfl)), (hw _ (List.mem_of_getElem? (i := 19) rfl))⟩)
  obtain ⟨c7, hn7⟩ := and_e hn6
  have O_BYTES := Fld.start ((fld_at ev_BYTES).symm.trans (eqv_i (Term.int_eval _) c7))
  obtain ⟨c8, hn8⟩ := and_e hn7
  obtain ⟨v_FIXED32, ev_FIXED32⟩ := exa_v c8
  have E_FIXED32 := Exa.start ev_FIXED32 c8
  have S_FIXED32 := Sta.start ev_FIXED32 (Or.inr ⟨(hw _ (List.mem_of_getElem? (i := 6) rfl)), (hw _ (List.mem_of_getElem? (i := 21) rfl))⟩)
  obtain ⟨c9, hn9⟩ := and_e hn8
  have O_FIXED32 := Fld.start ((fld_at ev_FIXED32).symm.trans (eqv_i (Term.int_eval _) c9))
  obtain ⟨c10, hn10⟩ := and_e hn9
  obtain ⟨v_STRING, ev_STRING⟩ := exa_v c10
  have E_STRING := Exa.start ev_STRING c10
  have S_STRING := Sta.start ev_STRING (Or.inr ⟨(hw _ (List.mem_of_getElem? (i := 6) rfl)), (hw _ (List.mem_of_getElem? (i := 23) rfl))⟩)
  obtain ⟨c11, hn11⟩ := and_e hn10
  have O_STRING := Fld.start ((fld_at ev_STRING).symm.trans (eqv_i (Term.int_eval _) c11))
  obtain ⟨c12, hn12⟩ := and_e hn11
  obtain ⟨v_SFIXED32, ev_SFIXED32⟩ := exa_v c12
  have E_SFIXED32 := Exa.start ev_SFIXED32 c12
  have S_SFIXED32 := Sta.start ev_SFIXED32 (Or.inr ⟨(hw _ (List.mem_of_getElem? (i := 6) rfl)), (hw _ (List.mem_of_getElem? (i := 25) rfl))⟩)
  obtain ⟨c13, hn13⟩ := and_e hn12
  have O_SFIXED32 := Fld.start ((fld_at ev_SFIXED32).symm.trans (eqv_i (Term.int_eval _) c13))
  obtain ⟨c14, hn14⟩ := and_e hn13
  obtain ⟨v_INT64, ev_INT64⟩ := exa_v c14
  have E_INT64 := Exa.start ev_INT64 c14
  have S_INT64 := Sta.start ev_INT64 (Or.inr ⟨(hw _ (List.mem_of_getElem? (i := 6) rfl)), (hw _ (List.mem_of_getElem? (i := 28) rfl))⟩)
  obtain ⟨c15, hn15⟩ := and_e hn14
  have O_INT64 := Fld.start ((fld_at ev_INT64).symm.trans (eqv_i (Term.int_eval _) c15))
  obtain ⟨c16, hn16⟩ := and_e hn15
  obtain ⟨v_INT32, ev_INT32⟩ := exa_v c16
  have E_INT32 := Exa.start ev_INT32 c16
  have S_INT32 := Sta.start ev_INT32 (Or.inr ⟨(hw _ (List.mem_of_getElem? (i := 6) rfl)), (hw _ (List.mem_of_getElem? (i := 30) rfl))⟩)
  obtain ⟨c17, hn17⟩ := and_e hn16
  have O_INT32 := Fld.start ((fld_at ev_INT32).symm.trans (eqv_i (Term.int_eval _) c17))
  obtain ⟨c18, hn18⟩ := and_e hn17
  obtain ⟨v_SFIXED64, ev_SFIXED64⟩ := exa_v c18
  have E_SFIXED64 := Exa.start ev_SFIXED64 c18
  have S_SFIXED64 := Sta.start ev_SFIXED64 (Or.inr ⟨(hw _ (List.mem_of_getElem? (i := 6) rfl)), (hw _ (List.mem_of_getElem? (i := 32) rfl))⟩)
  obtain ⟨c19, hn19⟩ := and_e hn18
  have O_SFIXED64 := Fld.start ((fld_at ev_SFIXED64).symm.trans (eqv_i (Term.int_eval _) c19))
  obtain ⟨c20, hn20⟩ := and_e hn19
  obtain ⟨v_FIXED64, ev_FIXED64⟩ := exa_v c20
  have E_FIXED64 := Exa.start ev_FIXED64 c20
  have S_FIXED64 := Sta.start ev_FIXED64 (Or.inr ⟨(hw _ (List.mem_of_getElem? (i := 6) rfl)), (hw _ (List.mem_of_getElem? (i := 34) rfl))⟩)
  obtain ⟨c21, hn21⟩ := and_e hn20
  have O_FIXED64 := Fld.start ((fld_at ev_FIXED64).symm.trans (eqv_i (Term.int_eval _) c21))
  obtain ⟨c22, hn22⟩ := and_e hn21
  obtain ⟨v_UINT64, ev_UINT64⟩ := exa_v c22
  have E_UINT64 := Exa.start ev_UINT64 c22
  have S_UINT64 := Sta.start ev_UINT64 (Or.inr ⟨(hw _ (List.mem_of_getElem? (i := 6) rfl)), (hw _ (List.mem_of_getElem? (i := 36) rfl))⟩)
  obtain ⟨c23, hn23⟩ := and_e hn22
  have O_UINT64 := Fld.start ((fld_at ev_UINT64).symm.trans (eqv_i (Term.int_eval _) c23))
  obtain ⟨c24, hn24⟩ := and_e hn23
  obtain ⟨v_BOOL, ev_BOOL⟩ := exa_v c24
  have E_BOOL := Exa.start ev_BOOL c24
  have S_BOOL := Sta.start ev_BOOL (Or.inr ⟨(hw _ (List.mem_of_getElem? (i := 6) rfl)), (hw _ (List.mem_of_getElem? (i := 39) rfl))⟩)
  obtain ⟨c25, hn25⟩ := and_e hn24
  have O_BOOL := Fld.start ((fld_at ev_BOOL).symm.trans (eqv_i (Term.int_eval _) c25))
  obtain ⟨c26, hn26⟩ := and_e hn25
  obtain ⟨v_SINT32, ev_SINT32⟩ := exa_v c26
  have E_SINT32 := Exa.start ev_SINT32 c26
  have S_SINT32 := Sta.start ev_SINT32 (Or.inr ⟨(hw _ (List.mem_of_getElem? (i := 6) rfl)), (hw _ (List.mem_of_getElem? (i := 41) rfl))⟩)
  obtain ⟨c27, hn27⟩ := and_e hn26
  have O_SINT32 := Fld.start ((fld_at ev_SINT32).symm.trans (eqv_i (Term.int_eval _) c27))
  obtain ⟨c28, hn28⟩ := and_e hn27
  obtain ⟨v_SINT64, ev_SINT64⟩ := exa_v c28
  have E_SINT64 := Exa.start ev_SINT64 c28
  have S_SINT64 := Sta.start ev_SINT64 (Or.inr ⟨(hw _ (List.mem_of_getElem? (i := 6) rfl)), (hw _ (List.mem_of_getElem? (i := 43) rfl))⟩)
  have O_SINT64 := Fld.start ((fld_at ev_SINT64).symm.trans (eqv_i (Term.int_eval _) hn28))
  obtain ⟨n, o, h1, h2, h3, _, L, rfl, ⟨rfl, N⟩, hq⟩ := rm0 l s _ hw tables_1 i0 v_DOUBLE v_FLOAT v_INT32 v_UINT32 v_SINT32 v_FIXED32 v_SFIXED32 v_INT64 v_UINT64 v_SINT64 v_FIXED64 v_SFIXED64 v_BOOL v_STRING v_BYTES s.heap s.heap.size (Nat.le_refl _) S_DOUBLE (Old.start s) S_FLOAT S_INT32 S_UINT32 S_SINT32 S_FIXED32 S_SFIXED32 S_INT64 S_UINT64 S_SINT64 S_FIXED64 S_SFIXED64 S_BOOL S_STRING S_BYTES E_DOUBLE O_DOUBLE E_FLOAT O_FLOAT E_INT32 O_INT32 E_UINT32 O_UINT32 E_SINT32 O_SINT32 E_FIXED32 O_FIXED32 E_SFIXED32 O_SFIXED32 E_INT64 O_INT64 E_UINT64 O_UINT64 E_SINT64 O_SINT64 E_FIXED64 O_FIXED64 E_SFIXED64 O_SFIXED64 E_BOOL O_BOOL E_STRING O_STRING E_BYTES O_BYTES p e ha hc hk s m _ below hf ((Spec.applies_iff_loose hf).mp happ).1 ⟨rfl, State.Warmed39.refl s, rfl⟩ trivial
  refine ⟨n, _, h1, h2, h3, hpost _ _ _ _ _ _ ⟨Cond.after_iff.mpr rfl, Cond.after_iff.mpr (eq_i res_at (Term.int_eval (1)) rfl), trivial⟩ ⟨hq.1, hq.2.1, (hq.2.2.sift fun y hy => Or.inr (N y hy)).mono (by decide) (by decide)⟩⟩
theorem main_1_1 : Claimed_1_1 := comes_1 fun _ _ _ _ _ _ h hF => ⟨h.1, hF⟩
theorem main_1_2 : Claimed_1_2 := comes_1 fun _ _ _ _ _ _ h hF => ⟨h.2.1, hF⟩
end Jvm.Pilot.@@N@@
namespace Jvm.Pilot.@@N@@
open Jvm Jvm.ClassFile Sem Op Lib Jvm.Free Jvm.Stand Jvm.Pilot.@@N@@.Jvm.D
/-! MADE BY PROGRAM (witnessworld.py) out of the Statement's table words and the real class files: 12 classes; the members and pool entries that the words name. The judged class is class 1, her method 2. -/
namespace start1
open Jvm.ClassFile
def u (s : String) : CpInfo := .utf8 (stringToUtf16 s)
/-- a pool by its gaps: so many unusable entries, then the entry; so many at the end -/
def gap : Nat → List CpInfo → List CpInfo
  | 0, r => r
  | n + 1, r => .unusable :: gap n r
def poolList (es : List (Nat × CpInfo)) (last : Nat) : List CpInfo := es.foldr (fun e r => gap e.1 (e.2 :: r)) (gap last [])
def pool (es : List (Nat × CpInfo)) (last : Nat) : Array CpInfo := ⟨poolList es last⟩
def fileOf (pool : Array CpInfo) (this : Nat) (attrs : Array Attribute := #[]) (ms : Array MethodInfo := #[]) (fl : Nat := 33) (sup : Nat := 0) (ifs : Array Nat := #[]) (fds : Array FieldInfo := #[]) : ClassFile where
  minorVersion := 0
  majorVersion := 65
  constantPool := pool
  accessFlags := fl
  thisClass := this
  superClass := sup
  interfaces := ifs
  fields := fds
  methods := ms
  attributes := attrs
def plain (name : String) (sup : Option ClassId) : Class where
  name := name
  kind := .ordinary
  loader := none
  accessFlags := 33
  super := sup
  interfaces := #[]
  cf := none
  fields := #[]
  methods := #[]
  instanceTypes := #[]
  staticTypes := #[]
  resolved := #[]
  callSites := []
  init := .initialized
  statics := none
  mirror := none

def pool0 : Array CpInfo := pool [(5, u "<init>"), (0, u "()V"), (1, .class_ 10), (1, u "java/lang/Object")] 113

def k0m0 : Method := { name := "<init>", desc := "()V", sig := { parameters := [], returnType := none }, accessFlags := 1, code := none }
/-- java/lang/Object -/
def k0 : Class := { plain "java/lang/Object" none with
  accessFlags := 33
  interfaces := #[]
  cf := some (fileOf pool0 8 #[] #[{ accessFlags := 1, nameIndex := 5, descriptorIndex := 6, attributes := #[] }] 33 0 #[] #[])
  fields := #[]
  methods := #[k0m0]
  instanceTypes := #[]
  staticTypes := #[]
  resolved := Array.replicate 124 none
  statics := none }

def pool1 : Array CpInfo := pool [(2, .class_ 4), (1, u "java/lang/Object"), (0, u "<init>"), (0, u "()V"), (0, .fieldref 8 9), (0, .class_ 10), (0, .nameAndType 11 12), (0, u "com/example/araucaria/araucaria/proto/ScalarType"), (0, u "DOUBLE"), (0, u "Lcom/example/araucaria/araucaria/proto/ScalarType;"), (0, .fieldref 8 14), (0, .nameAndType 15 12), (0, u "FLOAT"), (0, .fieldref 8 17), (0, .nameAndType 18 12), (0, u "INT32"), (0, .fieldref 8 20), (0, .nameAndType 21 12), (0, u "UINT32"), (0, .fieldref 8 23), (0, .nameAndType 24 12), (0, u "SINT32"), (0, .fieldref 8 26), (0, .nameAndType 27 12), (0, u "FIXED32"), (0, .fieldref 8 29), (0, .nameAndType 30 12), (0, u "SFIXED32"), (0, .fieldref 8 32), (0, .nameAndType 33 12), (0, u "INT64"), (0, .fieldref 8 35), (0, .nameAndType 36 12), (0, u "UINT64"), (0, .fieldref 8 38), (0, .nameAndType 39 12), (0, u "SINT64"), (0, .fieldref 8 41), (0, .nameAndType 42 12), (0, u "FIXED64"), (0, .fieldref 8 44), (0, .nameAndType 45 12), (0, u "SFIXED64"), (0, .fieldref 8 47), (0, .nameAndType 48 12), (0, u "BOOL"), (0, .fieldref 8 50), (0, .nameAndType 51 12), (0, u "STRING"), (0, .fieldref 8 53), (0, .nameAndType 54 12), (0, u "BYTES"), (0, .integer 2147483647), (0, .methodref 57 58), (0, .class_ 59), (0, .nameAndType 60 61), (0, u "com/example/araucaria/araucaria/proto/ScalarTypeIsMapKeyPinLaw"), (0, u "pick"), (0, u "(I)Lcom/example/araucaria/araucaria/proto/ScalarType;"), (0, .methodref 8 63), (0, .nameAndType 64 65), (0, u "isMapKey"), (0, u "()Z"), (3, u "law"), (0, u "(I)Z")] 2

def k1m0 : Method := { name := "<init>", desc := "()V", sig := { parameters := [], returnType := none }, accessFlags := 1, code := none }
def k1c1 : Code := { maxStack := 2, maxLocals := 1, code := method_2_code, exceptionTable := #[], attributes := #[] }
def k1m1 : Method := { name := "pick", desc := "(I)Lcom/example/araucaria/araucaria/proto/ScalarType;", sig := { parameters := [.int], returnType := some (.object "com/example/araucaria/araucaria/proto/ScalarType") }, accessFlags := 10, code := some k1c1 }
def k1c2 : Code := { maxStack := 2, maxLocals := 4, code := code, exceptionTable := #[], attributes := #[] }
def k1m2 : Method := { name := "law", desc := "(I)Z", sig := { parameters := [.int], returnType := some .boolean }, accessFlags := 9, code := some k1c2 }
/-- com/example/araucaria/araucaria/proto/ScalarTypeIsMapKeyPinLaw -/
def k1 : Class := { plain "com/example/araucaria/araucaria/proto/ScalarTypeIsMapKeyPinLaw" (some 0) with
  accessFlags := 49
  interfaces := #[]
  cf := some (fileOf pool1 57 #[] #[{ accessFlags := 1, nameIndex := 5, descriptorIndex := 6, attributes := #[] }, { accessFlags := 10, nameIndex := 60, descriptorIndex := 61, attributes := #[] }, { accessFlags := 9, nameIndex := 69, descriptorIndex := 70, attributes := #[] }] 49 2 #[] #[])
  fields := #[]
  methods := #[k1m0, k1m1, k1m2]
  instanceTypes := #[]
  staticTypes := #[]
  resolved := Array.replicate 73 none
  statics := none }

def pool2 : Array CpInfo := pool [(1, .class_ 2), (0, u "java/lang/constant/Constable"), (0, .class_ 4), (0, u "java/lang/Object")] 6

/-- java/lang/constant/Constable -/
def k2 : Class := { plain "java/lang/constant/Constable" (some 0) with
  accessFlags := 1537
  interfaces := #[]
  cf := some (fileOf pool2 1 #[] #[] 1537 3 #[] #[])
  fields := #[]
  methods := #[]
  instanceTypes := #[]
  staticTypes := #[]
  resolved := Array.replicate 11 none
  statics := none }

def pool3 : Array CpInfo := pool [(1, .class_ 2), (0, u "java/lang/Comparable"), (0, .class_ 4), (0, u "java/lang/Object")] 7

/-- java/lang/Comparable -/
def k3 : Class := { plain "java/lang/Comparable" (some 0) with
  accessFlags := 1537
  interfaces := #[]
  cf := some (fileOf pool3 1 #[] #[] 1537 3 #[] #[])
  fields := #[]
  methods := #[]
  instanceTypes := #[]
  staticTypes := #[]
  resolved := Array.replicate 12 none
  statics := none }

def pool4 : Array CpInfo := pool [(1, .class_ 2), (0, u "java/io/Serializable"), (0, .class_ 4), (0, u "java/lang/Object")] 2

/-- java/io/Serializable -/
def k4 : Class := { plain "java/io/Serializable" (some 0) with
  accessFlags := 1537
  interfaces := #[]
  cf := some (fileOf pool4 1 #[] #[] 1537 3 #[] #[])
  fields := #[]
  methods := #[]
  instanceTypes := #[]
  staticTypes := #[]
  resolved := Array.replicate 7 none
  statics := none }

def pool5 : Array CpInfo := pool [(2, .class_ 4), (1, u "java/lang/Enum"), (0, u "name"), (0, u "Ljava/lang/String;"), (2, u "ordinal"), (0, u "I"), (1, .class_ 14), (1, u "java/lang/Object"), (4, u "hash"), (86, .class_ 108), (1, u "java/lang/Enum$EnumDesc"), (2, .class_ 112), (0, u "java/lang/constant/Constable"), (0, .class_ 114), (0, u "java/lang/Comparable"), (0, .class_ 116), (0, u "java/io/Serializable")] 87

/-- java/lang/Enum -/
def k5 : Class := { plain "java/lang/Enum" (some 0) with
  accessFlags := 1057
  interfaces := #[2, 3, 4]
  cf := some (fileOf pool5 2 #[.nestMembers #[106]] #[] 1057 12 #[111, 113, 115] #[{ accessFlags := 18, nameIndex := 5, descriptorIndex := 6, attributes := #[] }, { accessFlags := 18, nameIndex := 9, descriptorIndex := 10, attributes := #[] }, { accessFlags := 2, nameIndex := 19, descriptorIndex := 10, attributes := #[] }])
  fields := #[{ name := "name", type := (.object "java/lang/String"), accessFlags := 18, slot := 0, constantValue := 0 }, { name := "ordinal", type := .int, accessFlags := 18, slot := 1, constantValue := 0 }, { name := "hash", type := .int, accessFlags := 2, slot := 2, constantValue := 0 }]
  methods := #[]
  instanceTypes := #[(.object "java/lang/String"), .int, .int]
  staticTypes := #[]
  resolved := Array.replicate 204 none
  statics := none }

def pool6 : Array CpInfo := pool [(1, .class_ 2), (0, u "com/example/araucaria/araucaria/proto/ScalarType"), (0, .fieldref 1 4), (0, .nameAndType 5 6), (0, u "DOUBLE"), (0, u "Lcom/example/araucaria/araucaria/proto/ScalarType;"), (0, .fieldref 1 8), (0, .nameAndType 9 6), (0, u "FLOAT"), (2, u "INT32"), (2, u "UINT32"), (2, u "SINT32"), (2, u "FIXED32"), (2, u "SFIXED32"), (2, u "INT64"), (2, u "UINT64"), (2, u "SINT64"), (2, u "FIXED64"), (2, u "SFIXED64"), (2, u "BOOL"), (2, u "STRING"), (0, .fieldref 1 47), (0, .nameAndType 48 6), (0, u "BYTES"), (2, u "$VALUES"), (0, u "[Lcom/example/araucaria/araucaria/proto/ScalarType;"), (6, .class_ 61), (1, u "java/lang/Enum"), (8, u "bits"), (0, u "I"), (2, u "min"), (0, u "Ljava/math/BigInteger;"), (2, u "max"), (38, u "BY_KEYWORD"), (0, u "Ljava/util/Map;"), (51, u "isMapKey"), (0, u "()Z")] 7

def k6c0 : Code := { maxStack := 2, maxLocals := 1, code := prog_114_method_5_code, exceptionTable := #[], attributes := #[] }
def k6m0 : Method := { name := "isMapKey", desc := "()Z", sig := { parameters := [], returnType := some .boolean }, accessFlags := 1, code := some k6c0 }
/-- com/example/araucaria/araucaria/proto/ScalarType -/
def k6 : Class := { plain "com/example/araucaria/araucaria/proto/ScalarType" (some 5) with
  accessFlags := 16433
  interfaces := #[]
  cf := some (fileOf pool6 1 #[] #[{ accessFlags := 1, nameIndex := 170, descriptorIndex := 171, attributes := #[] }] 16433 59 #[] #[{ accessFlags := 16409, nameIndex := 5, descriptorIndex := 6, attributes := #[] }, { accessFlags := 16409, nameIndex := 9, descriptorIndex := 6, attributes := #[] }, { accessFlags := 16409, nameIndex := 12, descriptorIndex := 6, attributes := #[] }, { accessFlags := 16409, nameIndex := 15, descriptorIndex := 6, attributes := #[] }, { accessFlags := 16409, nameIndex := 18, descriptorIndex := 6, attributes := #[] }, { accessFlags := 16409, nameIndex := 21, descriptorIndex := 6, attributes := #[] }, { accessFlags := 16409, nameIndex := 24, descriptorIndex := 6, attributes := #[] }, { accessFlags := 16409, nameIndex := 27, descriptorIndex := 6, attributes := #[] }, { accessFlags := 16409, nameIndex := 30, descriptorIndex := 6, attributes := #[] }, { accessFlags := 16409, nameIndex := 33, descriptorIndex := 6, attributes := #[] }, { accessFlags := 16409, nameIndex := 36, descriptorIndex := 6, attributes := #[] }, { accessFlags := 16409, nameIndex := 39, descriptorIndex := 6, attributes := #[] }, { accessFlags := 16409, nameIndex := 42, descriptorIndex := 6, attributes := #[] }, { accessFlags := 16409, nameIndex := 45, descriptorIndex := 6, attributes := #[] }, { accessFlags := 16409, nameIndex := 48, descriptorIndex := 6, attributes := #[] }, { accessFlags := 26, nameIndex := 117, descriptorIndex := 118, attributes := #[] }, { accessFlags := 18, nameIndex := 70, descriptorIndex := 71, attributes := #[] }, { accessFlags := 18, nameIndex := 74, descriptorIndex := 75, attributes := #[] }, { accessFlags := 18, nameIndex := 78, descriptorIndex := 75, attributes := #[] }, { accessFlags := 4122, nameIndex := 51, descriptorIndex := 52, attributes := #[] }])
  fields := #[{ name := "DOUBLE", type := (.object "com/example/araucaria/araucaria/proto/ScalarType"), accessFlags := 16409, slot := 0, constantValue := 0 }, { name := "FLOAT", type := (.object "com/example/araucaria/araucaria/proto/ScalarType"), accessFlags := 16409, slot := 1, constantValue := 0 }, { name := "INT32", type := (.object "com/example/araucaria/araucaria/proto/ScalarType"), accessFlags := 16409, slot := 2, constantValue := 0 }, { name := "UINT32", type := (.object "com/example/araucaria/araucaria/proto/ScalarType"), accessFlags := 16409, slot := 3, constantValue := 0 }, { name := "SINT32", type := (.object "com/example/araucaria/araucaria/proto/ScalarType"), accessFlags := 16409, slot := 4, constantValue := 0 }, { name := "FIXED32", type := (.object "com/example/araucaria/araucaria/proto/ScalarType"), accessFlags := 16409, slot := 5, constantValue := 0 }, { name := "SFIXED32", type := (.object "com/example/araucaria/araucaria/proto/ScalarType"), accessFlags := 16409, slot := 6, constantValue := 0 }, { name := "INT64", type := (.object "com/example/araucaria/araucaria/proto/ScalarType"), accessFlags := 16409, slot := 7, constantValue := 0 }, { name := "UINT64", type := (.object "com/example/araucaria/araucaria/proto/ScalarType"), accessFlags := 16409, slot := 8, constantValue := 0 }, { name := "SINT64", type := (.object "com/example/araucaria/araucaria/proto/ScalarType"), accessFlags := 16409, slot := 9, constantValue := 0 }, { name := "FIXED64", type := (.object "com/example/araucaria/araucaria/proto/ScalarType"), accessFlags := 16409, slot := 10, constantValue := 0 }, { name := "SFIXED64", type := (.object "com/example/araucaria/araucaria/proto/ScalarType"), accessFlags := 16409, slot := 11, constantValue := 0 }, { name := "BOOL", type := (.object "com/example/araucaria/araucaria/proto/ScalarType"), accessFlags := 16409, slot := 12, constantValue := 0 }, { name := "STRING", type := (.object "com/example/araucaria/araucaria/proto/ScalarType"), accessFlags := 16409, slot := 13, constantValue := 0 }, { name := "BYTES", type := (.object "com/example/araucaria/araucaria/proto/ScalarType"), accessFlags := 16409, slot := 14, constantValue := 0 }, { name := "BY_KEYWORD", type := (.object "java/util/Map"), accessFlags := 26, slot := 15, constantValue := 0 }, { name := "bits", type := .int, accessFlags := 18, slot := 3, constantValue := 0 }, { name := "min", type := (.object "java/math/BigInteger"), accessFlags := 18, slot := 4, constantValue := 0 }, { name := "max", type := (.object "java/math/BigInteger"), accessFlags := 18, slot := 5, constantValue := 0 }, { name := "$VALUES", type := (.array (.object "com/example/araucaria/araucaria/proto/ScalarType")), accessFlags := 4122, slot := 16, constantValue := 0 }]
  methods := #[k6m0]
  instanceTypes := #[(.object "java/lang/String"), .int, .int, .int, (.object "java/math/BigInteger"), (.object "java/math/BigInteger")]
  staticTypes := #[(.object "com/example/araucaria/araucaria/proto/ScalarType"), (.object "com/example/araucaria/araucaria/proto/ScalarType"), (.object "com/example/araucaria/araucaria/proto/ScalarType"), (.object "com/example/araucaria/araucaria/proto/ScalarType"), (.object "com/example/araucaria/araucaria/proto/ScalarType"), (.object "com/example/araucaria/araucaria/proto/ScalarType"), (.object "com/example/araucaria/araucaria/proto/ScalarType"), (.object "com/example/araucaria/araucaria/proto/ScalarType"), (.object "com/example/araucaria/araucaria/proto/ScalarType"), (.object "com/example/araucaria/araucaria/proto/ScalarType"), (.object "com/example/araucaria/araucaria/proto/ScalarType"), (.object "com/example/araucaria/araucaria/proto/ScalarType"), (.object "com/example/araucaria/araucaria/proto/ScalarType"), (.object "com/example/araucaria/araucaria/proto/ScalarType"), (.object "com/example/araucaria/araucaria/proto/ScalarType"), (.object "java/util/Map"), (.array (.object "com/example/araucaria/araucaria/proto/ScalarType"))]
  resolved := Array.replicate 179 none
  statics := some 0 }

def pool7 : Array CpInfo := pool [(1, u "java/lang/Cloneable"), (0, .class_ 1), (0, u "java/lang/Object"), (0, .class_ 3)] 3

/-- java/lang/Cloneable -/
def k7 : Class := { plain "java/lang/Cloneable" (some 0) with
  accessFlags := 1537
  interfaces := #[]
  cf := some (fileOf pool7 2 #[] #[] 1537 4 #[] #[])
  fields := #[]
  methods := #[]
  instanceTypes := #[]
  staticTypes := #[]
  resolved := Array.replicate 8 none
  statics := none }

/-- the primitive byte -/
def k8 : Class := { plain "byte" none with kind := .primitive 'B', accessFlags := 0x411 }
/-- [B -/
def k9 : Class := { plain "[B" (some 0) with kind := .array 8 .byte, interfaces := #[7, 4], accessFlags := 1041 }

/-- the primitive int -/
def k10 : Class := { plain "int" none with kind := .primitive 'I', accessFlags := 0x411 }
/-- [I -/
def k11 : Class := { plain "[I" (some 0) with kind := .array 10 .int, interfaces := #[7, 4], accessFlags := 1041 }

def heap : Heap := #[{ cls := 6, slots := #[.ref 1, .ref 2, .ref 3, .ref 4, .ref 5, .ref 6, .ref 7, .ref 8, .ref 9, .ref 10, .ref 11, .ref 12, .ref 13, .ref 14, .ref 15, .null, .null], vm := .statics 6 },
  { cls := 6, slots := #[.null, .int 0, .int 0, .int 0, .null, .null], vm := .none },
  { cls := 6, slots := #[.null, .int 1, .int 0, .int 0, .null, .null], vm := .none },
  { cls := 6, slots := #[.null, .int 2, .int 0, .int 0, .null, .null], vm := .none },
  { cls := 6, slots := #[.null, .int 3, .int 0, .int 0, .null, .null], vm := .none },
  { cls := 6, slots := #[.null, .int 4, .int 0, .int 0, .null, .null], vm := .none },
  { cls := 6, slots := #[.null, .int 5, .int 0, .int 0, .null, .null], vm := .none },
  { cls := 6, slots := #[.null, .int 6, .int 0, .int 0, .null, .null], vm := .none },
  { cls := 6, slots := #[.null, .int 7, .int 0, .int 0, .null, .null], vm := .none },
  { cls := 6, slots := #[.null, .int 8, .int 0, .int 0, .null, .null], vm := .none },
  { cls := 6, slots := #[.null, .int 9, .int 0, .int 0, .null, .null], vm := .none },
  { cls := 6, slots := #[.null, .int 10, .int 0, .int 0, .null, .null], vm := .none },
  { cls := 6, slots := #[.null, .int 11, .int 0, .int 0, .null, .null], vm := .none },
  { cls := 6, slots := #[.null, .int 12, .int 0, .int 0, .null, .null], vm := .none },
  { cls := 6, slots := #[.null, .int 13, .int 0, .int 0, .null, .null], vm := .none },
  { cls := 6, slots := #[.null, .int 14, .int 0, .int 0, .null, .null], vm := .none }]
def classes : Array Class := #[k0, k1, k2, k3, k4, k5, k6, k7, k8, k9, k10, k11]
def interned : List (Array UInt16 × Addr) := []
def slotsUsed : Nat := 107
def theMethod : MethodId := ⟨1, 2⟩
def args0 : Array Value := #[.int 65]
def aboutOver (below : List Frame) : State where
  vm := { classes := classes, interned := interned.toArray }
  heap := heap
  slotsUsed := slotsUsed
  threads := #[{ frames := .invoking theMethod args0 :: below }]
def below0 : List Frame := [.native { method := ⟨0, 0⟩, args := #[] }]
def about1 : State := aboutOver below0
def p0 : Program := .bare "" "" ""
def e0 : Env := launch0.env 0 0 0
theorem w_frames : about1.frames = Frame.invoking theMethod args0 :: below0 := rfl
set_option maxRecDepth 65536 in
theorem w_args : argsFit about1.vm theMethod args0 = true := by decide +kernel
set_option maxRecDepth 65536 in
theorem w_heap : heapFits about1 = true := by decide +kernel
set_option maxRecDepth 65536 in
theorem w_runnable : about1.curStatus? = some .runnable := by decide +kernel
set_option maxRecDepth 65536 in
theorem w_alone : about1.alone = true := by decide +kernel
set_option maxRecDepth 65536 in
theorem w_named : about1.methodNamed? x = some theMethod := by decide +kernel
set_option maxRecDepth 65536 in
theorem w_hears : about1.hears theMethod below0 = true := by decide +kernel
set_option maxRecDepth 65536 in
theorem w_ripe : about1.ripe theMethod args0 below0 = true := by decide +kernel
theorem w_running : about1.status = .running := rfl
set_option maxRecDepth 65536 in
theorem w_room : about1.hasRoom e0.platform room_1 = true :=
  launch0.hasRoom_least _ room_1 (by decide +kernel) (by decide +kernel) (by decide +kernel) (by decide +kernel) (by decide +kernel) (by decide +kernel)
theorem allAtoms_all (ts : List Jvm.Cond) (a : Array Jvm.Value) (st : Jvm.State) : (allAtoms ts).before a st = ts.all (fun c => c.before a st) := by
  induction ts with
  | nil => rfl
  | cons c t ih =>
    show (Jvm.Cond.and c (allAtoms t)).before a st = _
    rw [Jvm.Cond.before_and, ih, List.all_cons]
def words1 : List Jvm.Cond := Jvm.Cond.code x code maxLocals ret :: tables_1
/-- a 'code' word, met by the world's own term for the bytes: nothing is compared byte by byte -/
theorem code_word {y : MethodName} {bytes : ByteArray} {mx : Nat} {rt : Option FieldType} {a : Array Value} {s : State} {m : MethodId} {meth : Method} {c : Code} (h1 : s.methodNamed? y = some m) (h2 : s.vm.method? m = some meth) (h3 : meth.code = some c) (h4 : c.code = bytes)
    (h5 : (c.maxLocals == mx && c.exceptionTable.isEmpty && decide (c.maxStack ≤ mostOperands) && decide (meth.sig.returnType = rt) && !meth.locks && decide (parseMethodDescriptor y.desc = some meth.sig)) = true) : (Jvm.Cond.code y bytes mx rt).before a s = true := by
  simp only [Bool.and_eq_true, beq_iff_eq, Bool.not_eq_true', decide_eq_true_eq] at h5
  obtain ⟨⟨⟨⟨⟨g1, g2⟩, g3⟩, g4⟩, g5⟩, g6⟩ := h5
  simp [Cond.before, Cond.holds, Cond.value, h1, h2, h3, h4, g1, g2, g3, g4, g5, g6]
def isCode : Jvm.Cond → Bool
  | .code _ _ _ _ => true
  | _ => false
theorem all_split {L : List Jvm.Cond} {P : Jvm.Cond → Bool} (h1 : L.all (fun c => isCode c || P c) = true) (h2 : ∀ c ∈ L.filter isCode, P c = true) : L.all P = true := by
  refine List.all_eq_true.mpr fun c hc => ?_
  have h := List.all_eq_true.mp h1 c hc
  rcases Bool.eq_false_or_eq_true (isCode c) with hi | hi
  · exact h2 c (List.mem_filter.mpr ⟨hc, hi⟩)
  · simpa [hi] using h
set_option maxRecDepth 65536 in
theorem w_c0 : (Jvm.Cond.code x code maxLocals ret).before args0 about1 = true := code_word (m := ⟨1, 2⟩) (meth := k1m2) (c := k1c2) (by decide +kernel) rfl rfl rfl (by decide +kernel)
set_option maxRecDepth 65536 in
theorem w_c1 : (Jvm.Cond.code ({ cls := "com/example/araucaria/araucaria/proto/ScalarTypeIsMapKeyPinLaw", name := "pick", desc := "(I)Lcom/example/araucaria/araucaria/proto/ScalarType;" } : Jvm.MethodName) method_2_code (1 : Nat) (Option.some (Jvm.ClassFile.FieldType.object "com/example/araucaria/araucaria/proto/ScalarType"))).before args0 about1 = true := code_word (m := ⟨1, 1⟩) (meth := k1m1) (c := k1c1) (by decide +kernel) rfl rfl rfl (by decide +kernel)
set_option maxRecDepth 65536 in
theorem w_c2 : (Jvm.Cond.code ({ cls := "com/example/araucaria/araucaria/proto/ScalarType", name := "isMapKey", desc := "()Z" } : Jvm.MethodName) prog_114_method_5_code (1 : Nat) (Option.some Jvm.ClassFile.FieldType.boolean)).before args0 about1 = true := code_word (m := ⟨6, 0⟩) (meth := k6m0) (c := k6c0) (by decide +kernel) rfl rfl rfl (by decide +kernel)
def codes1 : List Jvm.Cond := [Jvm.Cond.code x code maxLocals ret, Jvm.Cond.code ({ cls := "com/example/araucaria/araucaria/proto/ScalarTypeIsMapKeyPinLaw", name := "pick", desc := "(I)Lcom/example/araucaria/araucaria/proto/ScalarType;" } : Jvm.MethodName) method_2_code (1 : Nat) (Option.some (Jvm.ClassFile.FieldType.object "com/example/araucaria/araucaria/proto/ScalarType")), Jvm.Cond.code ({ cls := "com/example/araucaria/araucaria/proto/ScalarType", name := "isMapKey", desc := "()Z" } : Jvm.MethodName) prog_114_method_5_code (1 : Nat) (Option.some Jvm.ClassFile.FieldType.boolean)]
set_option maxRecDepth 65536 in
theorem codes_eq : words1.filter isCode = codes1 := rfl
theorem w_codes : ∀ c ∈ words1.filter isCode, c.before args0 about1 = true := by
  rw [codes_eq]
  intro c hc
  simp only [codes1, List.mem_cons, List.not_mem_nil, or_false] at hc
  rcases hc with rfl | rfl | rfl
  · exact w_c0
  · exact w_c1
  · exact w_c2
set_option maxRecDepth 65536 in
theorem w_t1 : (words1.take 24).all (fun c => isCode c || c.before args0 about1) = true := by decide +kernel
set_option maxRecDepth 65536 in
theorem w_t2 : (words1.drop 24).all (fun c => isCode c || c.before args0 about1) = true := by decide +kernel
theorem w_tables : (allAtoms (Jvm.Cond.code x code maxLocals ret :: tables_1)).before args0 about1 = true := by
  rw [allAtoms_all]
  show words1.all (fun c => c.before args0 about1) = true
  refine all_split ?_ w_codes
  rw [← List.take_append_drop 24 words1, List.all_append, w_t1, w_t2]
  rfl
set_option maxRecDepth 65536 in
theorem w_case : (Jvm.Cond.and given_1 narrow_1).before args0 about1 = true := by decide +kernel
theorem w_applies : (headSpec (Jvm.Cond.code x code maxLocals ret :: tables_1) room_1).applies x e0.platform about1 = true :=
  (Spec.applies_iff w_frames).mpr ⟨w_running, w_runnable, w_alone, w_named, w_hears, w_ripe, w_room, w_tables⟩
theorem atStart : AtStart classFile x code maxLocals ret World_1 tables_1 room_1 Calls_1 rest_1 Pre_1 launch0 p0 e0 about1 theMethod args0 below0 :=
  ⟨lists_1, trivial, launch0.admits_env _ _ _, launch0.least_env, fairChoices_fair.cas, fairChoices_fair.clock, w_frames, w_args, w_heap, w_applies, trivial, trivial, w_case⟩
end start1
theorem witness_1 : WitnessClaimed_1 := ⟨start1.p0, start1.e0, start1.about1, start1.theMethod, start1.args0, start1.below0, start1.atStart⟩
end Jvm.Pilot.@@N@@
