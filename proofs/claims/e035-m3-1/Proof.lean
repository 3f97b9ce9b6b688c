import JvmDerived
import JvmDerived.Pilot.@@N@@Statement
import JvmDerived.Pilot.@@N@@Code
set_option linter.unusedVariables false
set_option linter.unusedSimpArgs false
namespace Jvm.Pilot.@@N@@
open Jvm Jvm.ClassFile Sem Op Lib Jvm.Free Jvm.Stand Jvm.LawKit Jvm.RoadKit Bundle Jvm.Pilot.@@N@@.Jvm.D
/-! what a walk owes: from the state U on the run comes to the end of the method's frame, and Q holds there -/
def own_Ends (p : Program) (e : Env) (s : State) (below : List Frame) (Q : Option Value → Heap → List Loc → Prop) (kc ks : Nat) (U : State) : Prop :=
  ∃ s₂ o, Steps p.tables e below U s₂ ∧ s₂.status = .running ∧ Ended s₂ below o ∧ ∃ v L, o = .returned v ∧ Q v s₂.heap L ∧ FrameEnd s o s₂ L kc ks
section OwnWalk
variable {p : Program} {l : Launch} {e : Env} {R : Room} {s : State} {m : MethodId} {args : Array Value} {below : List Frame} {meth : Method} {c : Code} {T : State} {locs : List Loc} {cells slots : Nat} {Q : Option Value → Heap → List Loc → Prop} {kc ks : Nat} {U U' : State}
theorem own_st (k : ∀ t, Steps p.tables e below U' t → Steps p.tables e below U t) (h : own_Ends p e s below Q kc ks U') : own_Ends p e s below Q kc ks U := by
  obtain ⟨s₂, o, h1, h2⟩ := h
  exact ⟨s₂, o, k _ h1, h2⟩
theorem own_tr (k : Steps p.tables e below U U') (h : own_Ends p e s below Q kc ks U') : own_Ends p e s below Q kc ks U := own_st (fun _ h => k.trans h) h
theorem own_fin (X : Stand p l e R s m args below meth c T locs cells slots) {v : Option Value} {g : JFrame} (hv : meth.sig.returnType = none → v = none) (hlk : meth.locks = false) (hc : cells ≤ kc) (hs : slots ≤ ks) (hQ : Q v T.heap locs)
    (st : ∀ fs, (∀ (f : JFrame) (acts : List Action), f.method = m → f.locked = none → f.entered = [] → (doReturn e (T.setTop f) acts v).1 = T.setFrames fs) → Steps p.tables e below (T.setTop g) (T.setFrames fs)) : own_Ends p e s below Q kc ks (T.setTop g) := by
  obtain ⟨fs, hr, hrun, hended, hW, hsame⟩ := X.leave (v := v) hv hlk
  exact ⟨_, _, st fs hr, hrun, hended, v, locs, rfl, hQ, ⟨_, rfl⟩, hW, hsame.mono hc hs⟩
theorem own_retV (X : Stand p l e R s m args below meth c T locs cells slots) (hx : p.tables.exec = Jvm.exec) {pc : Nat} {Ls : Array Slot} {st : List Value} (hret : meth.sig.returnType = none) (hlk : meth.locks = false) (hd : decode c.code pc = .ok (.return_, 1)) (hc : cells ≤ kc) (hs : slots ≤ ks) (hQ : Q none T.heap locs) : own_Ends p e s below Q kc ks (T.setTop (mkF m pc Ls [])) :=
  own_fin X (v := none) (fun _ => rfl) hlk hc hs hQ fun fs hr => X.returnOut hx hret hd hr
theorem own_retN (X : Stand p l e R s m args below meth c T locs cells slots) (hx : p.tables.exec = Jvm.exec) {pc : Nat} {Ls : Array Slot} {z : Int32} {t : FieldType} {rest : List Value} (hret : meth.sig.returnType = some t) (hlk : meth.locks = false) (ht : t = .boolean ∨ t = .byte ∨ t = .char ∨ t = .short) (hz : nar t z = z) (hd : decode c.code pc = .ok (.ireturn, 1)) (hc : cells ≤ kc) (hs : slots ≤ ks) (hQ : Q (some (.int z)) T.heap locs) : own_Ends p e s below Q kc ks (T.setTop (mkF m pc Ls (.int z :: rest))) :=
  own_fin X (v := some (.int z)) (fun h => by rw [hret] at h; cases h) hlk hc hs hQ fun fs hr => retN X hx hret ht hd (by rw [hz]; exact hr)
theorem own_retO (X : Stand p l e R s m args below meth c T locs cells slots) (hx : p.tables.exec = Jvm.exec) {pc : Nat} {Ls : Array Slot} {w : Value} {t : FieldType} {i : Instr} {rest : List Value} (hret : meth.sig.returnType = some t) (hlk : meth.locks = false) (hn : narrow t w = w)
    (hi : (i = .ireturn ∧ (t = .int ∨ t = .boolean ∨ t = .byte ∨ t = .char ∨ t = .short) ∧ ∃ z, w = .int z) ∨ (i = .lreturn ∧ t = .long ∧ ∃ z, w = .long z) ∨ (i = .dreturn ∧ t = .double ∧ ∃ z, w = .double z) ∨ (i = .freturn ∧ t = .float ∧ ∃ z, w = .float z) ∨ (i = .areturn ∧ t.isReference = true ∧ w.isRef = true))
    (hd : decode c.code pc = .ok (i, 1)) (hc : cells ≤ kc) (hs : slots ≤ ks) (hQ : Q (some w) T.heap locs) : own_Ends p e s below Q kc ks (T.setTop (mkF m pc Ls (w :: rest))) :=
  own_fin X (v := some w) (fun h => by rw [hret] at h; cases h) hlk hc hs hQ fun fs hr => retOut X hx hret hn hi hd hr
theorem own_retI (X : Stand p l e R s m args below meth c T locs cells slots) (hx : p.tables.exec = Jvm.exec) {pc : Nat} {Ls : Array Slot} {z : Int32} {rest : List Value} (hret : meth.sig.returnType = some .int) (hlk : meth.locks = false) (hd : decode c.code pc = .ok (.ireturn, 1)) (hc : cells ≤ kc) (hs : slots ≤ ks) (hQ : Q (some (.int z)) T.heap locs) : own_Ends p e s below Q kc ks (T.setTop (mkF m pc Ls (.int z :: rest))) :=
  own_retO X hx hret hlk rfl (Or.inl ⟨rfl, Or.inl rfl, _, rfl⟩) hd hc hs hQ
theorem own_retJ (X : Stand p l e R s m args below meth c T locs cells slots) (hx : p.tables.exec = Jvm.exec) {pc : Nat} {Ls : Array Slot} {z : Int64} {rest : List Value} (hret : meth.sig.returnType = some .long) (hlk : meth.locks = false) (hd : decode c.code pc = .ok (.lreturn, 1)) (hc : cells ≤ kc) (hs : slots ≤ ks) (hQ : Q (some (.long z)) T.heap locs) : own_Ends p e s below Q kc ks (T.setTop (mkF m pc Ls (.long z :: rest))) :=
  own_retO X hx hret hlk rfl (Or.inr (Or.inl ⟨rfl, rfl, _, rfl⟩)) hd hc hs hQ
theorem own_retA (X : Stand p l e R s m args below meth c T locs cells slots) (hx : p.tables.exec = Jvm.exec) {pc : Nat} {Ls : Array Slot} {a : Addr} {t : FieldType} {rest : List Value} (hret : meth.sig.returnType = some t) (hlk : meth.locks = false) (ht : t.isReference = true) (hn : narrow t (.ref a) = .ref a) (hd : decode c.code pc = .ok (.areturn, 1)) (hc : cells ≤ kc) (hs : slots ≤ ks) (hQ : Q (some (.ref a)) T.heap locs) : own_Ends p e s below Q kc ks (T.setTop (mkF m pc Ls (.ref a :: rest))) :=
  own_retO X hx hret hlk hn (Or.inr (Or.inr (Or.inr (Or.inr ⟨rfl, ht, rfl⟩)))) hd hc hs hQ
end OwnWalk
/-! the plain law -/
def own_c (x : Int32) : Int32 := x.toUInt32.toUInt16.toUInt32.toInt32
/-- what the project's method answers -/
def own_ans (c : Int32) : Int32 := if c = 32 ∨ c = 9 ∨ c = 10 ∨ c = 13 then 1 else 0
/-- the bit that the law's mask holds at c -/
def own_bit (c : Int32) : Int64 := ((((4294977024 : Int64).toUInt64 >>> (c &&& 0x3f).toInt64.toUInt64).toInt64) &&& (1 : Int64))
theorem own_c_nonneg (x : Int32) : ¬ own_c x < 0 := by
  have h := (rng_char (x := own_c x) (fits_nar_char x)).1
  exact h
theorem own_small : ∀ n : Fin 33, own_ans (Int32.ofNat n.1) = (if lcmpW (own_bit (Int32.ofNat n.1)) (0 : Int64) = (0 : Int32) then 0 else 1) := by decide +kernel
theorem own_low (x : Int32) (h : ¬ (32 : Int32) < own_c x) : own_ans (own_c x) = (if lcmpW (own_bit (own_c x)) (0 : Int64) = (0 : Int32) then 0 else 1) := by
  have h0 := own_c_nonneg x
  generalize own_c x = c at h h0 ⊢
  rw [Int32.lt_iff_toInt_lt] at h h0
  have e32 : (32 : Int32).toInt = 32 := rfl
  have e0 : (0 : Int32).toInt = 0 := rfl
  have e : c = Int32.ofNat c.toInt.toNat := by
    apply Int32.toInt_inj.mp
    rw [Int32.toInt_ofNat_of_lt (by omega)]
    omega
  have q := own_small ⟨c.toInt.toNat, by omega⟩
  rw [← e] at q
  exact q
theorem own_high (c : Int32) (h : (32 : Int32) < c) : own_ans c = 0 := by
  unfold own_ans
  split
  · rename_i q
    rcases q with rfl | rfl | rfl | rfl <;> exact absurd h (by decide)
  · rfl
theorem own_bool (c : Int32) : nar .boolean (own_ans c) = own_ans c := by
  unfold own_ans
  split <;> rfl
theorem d1_0 : decode prog_368_method_7_code 0 = .ok (.iload_n 0, 1) := by decide +kernel
theorem d1_1 : decode prog_368_method_7_code 1 = .ok (.bipush 32, 2) := by decide +kernel
theorem d1_3 : decode prog_368_method_7_code 3 = .ok (.if_icmp .eq 21, 3) := by decide +kernel
theorem d1_6 : decode prog_368_method_7_code 6 = .ok (.iload_n 0, 1) := by decide +kernel
theorem d1_7 : decode prog_368_method_7_code 7 = .ok (.bipush 9, 2) := by decide +kernel
theorem d1_9 : decode prog_368_method_7_code 9 = .ok (.if_icmp .eq 15, 3) := by decide +kernel
theorem d1_12 : decode prog_368_method_7_code 12 = .ok (.iload_n 0, 1) := by decide +kernel
theorem d1_13 : decode prog_368_method_7_code 13 = .ok (.bipush 10, 2) := by decide +kernel
theorem d1_15 : decode prog_368_method_7_code 15 = .ok (.if_icmp .eq 9, 3) := by decide +kernel
theorem d1_18 : decode prog_368_method_7_code 18 = .ok (.iload_n 0, 1) := by decide +kernel
theorem d1_19 : decode prog_368_method_7_code 19 = .ok (.bipush 13, 2) := by decide +kernel
theorem d1_21 : decode prog_368_method_7_code 21 = .ok (.if_icmp .ne 7, 3) := by decide +kernel
theorem d1_24 : decode prog_368_method_7_code 24 = .ok (.iconst 1, 1) := by decide +kernel
theorem d1_25 : decode prog_368_method_7_code 25 = .ok (.goto 4, 3) := by decide +kernel
theorem d1_28 : decode prog_368_method_7_code 28 = .ok (.iconst 0, 1) := by decide +kernel
theorem d1_29 : decode prog_368_method_7_code 29 = .ok (.ireturn, 1) := by decide +kernel
theorem pn_rm1 : plainName "com/example/xylem/xylem/xquery/xdm/XmlChars" = true := by first | (simp [plainName, overriddenIn]; done) | decide +kernel
theorem pd_d1 : parseMethodDescriptor "(C)Z" = some ⟨[.char], some .boolean⟩ := by decide +kernel
theorem ef_rm1 (m : MethodId) (x0 : Int32) : entryFrame m #[(.int x0)] 1 = mkF m 0 #[.val (.int x0)] [] := by first | (simp [entryFrame, mkF, argsToLocals, Value.category, maxLocals]; done) | rfl
def Q_rm1 (Z : State) (p1 : Int32) (h0 : Heap) (n0 : Nat) (v : Option Value) (h : Heap) (L : List Loc) : Prop := v = some (.int (own_ans p1)) ∧ Fr n0 L ∧ h = h0
set_option maxRecDepth 65536 in
set_option maxHeartbeats 40000000 in
theorem rm1 (l : Launch) (Z : State) (a0 : Array Value) (hw : ∀ d ∈ tables_1, d.before a0 Z = true) (ws : List Jvm.Cond) (p1 : Int32) (h0 : Heap) (n0 : Nat) (Z0 : n0 ≤ h0.size)  :
    MetFree l (⟨"com/example/xylem/xylem/xquery/xdm/XmlChars", "isWhitespace", "(C)Z"⟩ : MethodName) (head1 (Jvm.Cond.code (⟨"com/example/xylem/xylem/xquery/xdm/XmlChars", "isWhitespace", "(C)Z"⟩ : MethodName) prog_368_method_7_code 1 (some .boolean) :: ws) ({ frames := 0, cells := 0, slots := 0, locals := 0 } : Room)) (fun a U => a = #[(.int p1)] ∧ Z.Warmed39 U.vm ∧ U.heap = h0) (fun _ _ _ _ _ => True) (fun _ U o U' => ∃ v L, o = .returned v ∧ Q_rm1 Z p1 h0 n0 v U'.heap L ∧ FrameEnd U o U' L ({ frames := 0, cells := 0, slots := 0, locals := 0 } : Room).cells ({ frames := 0, cells := 0, slots := 0, locals := 0 } : Room).slots) := by
  refine MetFree.of_bodySF (plainFor_of_name pn_rm1) hisR ?_
  intro p e s m args below meth c s₁ Bd hml0 hP hK
  obtain ⟨rfl, hZ, hh⟩ := hP
  have hx := Bd.exec
  have hby := Bd.bytes
  have hml : c.maxLocals = 1 := hml0
  have hown : s.vm.findClass "com/example/xylem/xylem/xquery/xdm/XmlChars" = some m.cls := findClass_of_methodNamed Bd.named
  have hnm := (name_of_methodNamed Bd.named Bd.method).1
  have X0 : Stand p l e ({ frames := 0, cells := 0, slots := 0, locals := 0 } : Room) s m #[(.int p1)] below meth c s₁ [] 0 0 := Stand.of_body Bd
  have e0 : s₁.heap = h0 := by rw [← hh, Bd.state]; rfl
  have N0 := Fr.nil n0
  show own_Ends p e s below (Q_rm1 Z p1 h0 n0) ({ frames := 0, cells := 0, slots := 0, locals := 0 } : Room).cells ({ frames := 0, cells := 0, slots := 0, locals := 0 } : Room).slots (s₁.setTop (entryFrame m #[(.int p1)] 1))
  refine own_st (U' := (s₁.setTop (mkF m 0 #[.val (.int p1)] []))) (fun _ k => castTop (ef_rm1 m p1) k) ?_
  refine own_st (U' := (s₁.setTop (mkF m 1 #[.val (.int p1)] [(.int p1)]))) (fun _ k => XS.iloadN X0.here hx rfl (hb hby d1_0) rfl k) ?_
  refine own_st (U' := (s₁.setTop (mkF m 3 #[.val (.int p1)] [(.int (32 : Int32)), (.int p1)]))) (fun _ k => XS.bipush X0.here hx rfl (hb hby d1_1) k) ?_
  by_cases c0 : p1 = (32 : Int32)
  · skip
    refine own_st (U' := (s₁.setTop (mkF m 24 #[.val (.int p1)] []))) (fun _ k => XS.icmpYes X0.here hx rfl (pc0 := 3) (pc' := 24) rfl (hb hby d1_3) rfl (teq c0).1 (by decide) (by decide) k) ?_
    have q : own_ans p1 = 1 := by unfold own_ans; rw [if_pos (by simp [c0])]
    refine own_st (U' := (s₁.setTop (mkF m 25 #[.val (.int p1)] [(.int (1 : Int32))]))) (fun _ k => XS.iconst X0.here hx rfl (hb hby d1_24) k) ?_
    refine own_st (U' := (s₁.setTop (mkF m 29 #[.val (.int p1)] [(.int (1 : Int32))]))) (fun _ k => XS.goto X0.here hx rfl (pc0 := 25) (pc' := 29) rfl (hb hby d1_25) (by decide) (by decide) k) ?_
    exact own_retN X0 hx (t := .boolean) Bd.returns Bd.notSynchronized (by simp) rfl (hb hby d1_29) (by decide) (by decide) (⟨by rw [q], N0, e0⟩)
  · skip
    refine own_st (U' := (s₁.setTop (mkF m 6 #[.val (.int p1)] []))) (fun _ k => XS.icmpNo X0.here hx rfl (hb hby d1_3) rfl (feq c0).1 k) ?_
    refine own_st (U' := (s₁.setTop (mkF m 7 #[.val (.int p1)] [(.int p1)]))) (fun _ k => XS.iloadN X0.here hx rfl (hb hby d1_6) rfl k) ?_
    refine own_st (U' := (s₁.setTop (mkF m 9 #[.val (.int p1)] [(.int (9 : Int32)), (.int p1)]))) (fun _ k => XS.bipush X0.here hx rfl (hb hby d1_7) k) ?_
    by_cases c1 : p1 = (9 : Int32)
    · skip
      refine own_st (U' := (s₁.setTop (mkF m 24 #[.val (.int p1)] []))) (fun _ k => XS.icmpYes X0.here hx rfl (pc0 := 9) (pc' := 24) rfl (hb hby d1_9) rfl (teq c1).1 (by decide) (by decide) k) ?_
      have q : own_ans p1 = 1 := by unfold own_ans; rw [if_pos (by simp [c1])]
      refine own_st (U' := (s₁.setTop (mkF m 25 #[.val (.int p1)] [(.int (1 : Int32))]))) (fun _ k => XS.iconst X0.here hx rfl (hb hby d1_24) k) ?_
      refine own_st (U' := (s₁.setTop (mkF m 29 #[.val (.int p1)] [(.int (1 : Int32))]))) (fun _ k => XS.goto X0.here hx rfl (pc0 := 25) (pc' := 29) rfl (hb hby d1_25) (by decide) (by decide) k) ?_
      exact own_retN X0 hx (t := .boolean) Bd.returns Bd.notSynchronized (by simp) rfl (hb hby d1_29) (by decide) (by decide) (⟨by rw [q], N0, e0⟩)
    · skip
      refine own_st (U' := (s₁.setTop (mkF m 12 #[.val (.int p1)] []))) (fun _ k => XS.icmpNo X0.here hx rfl (hb hby d1_9) rfl (feq c1).1 k) ?_
      refine own_st (U' := (s₁.setTop (mkF m 13 #[.val (.int p1)] [(.int p1)]))) (fun _ k => XS.iloadN X0.here hx rfl (hb hby d1_12) rfl k) ?_
      refine own_st (U' := (s₁.setTop (mkF m 15 #[.val (.int p1)] [(.int (10 : Int32)), (.int p1)]))) (fun _ k => XS.bipush X0.here hx rfl (hb hby d1_13) k) ?_
      by_cases c2 : p1 = (10 : Int32)
      · skip
        refine own_st (U' := (s₁.setTop (mkF m 24 #[.val (.int p1)] []))) (fun _ k => XS.icmpYes X0.here hx rfl (pc0 := 15) (pc' := 24) rfl (hb hby d1_15) rfl (teq c2).1 (by decide) (by decide) k) ?_
        have q : own_ans p1 = 1 := by unfold own_ans; rw [if_pos (by simp [c2])]
        refine own_st (U' := (s₁.setTop (mkF m 25 #[.val (.int p1)] [(.int (1 : Int32))]))) (fun _ k => XS.iconst X0.here hx rfl (hb hby d1_24) k) ?_
        refine own_st (U' := (s₁.setTop (mkF m 29 #[.val (.int p1)] [(.int (1 : Int32))]))) (fun _ k => XS.goto X0.here hx rfl (pc0 := 25) (pc' := 29) rfl (hb hby d1_25) (by decide) (by decide) k) ?_
        exact own_retN X0 hx (t := .boolean) Bd.returns Bd.notSynchronized (by simp) rfl (hb hby d1_29) (by decide) (by decide) (⟨by rw [q], N0, e0⟩)
      · skip
        refine own_st (U' := (s₁.setTop (mkF m 18 #[.val (.int p1)] []))) (fun _ k => XS.icmpNo X0.here hx rfl (hb hby d1_15) rfl (feq c2).1 k) ?_
        refine own_st (U' := (s₁.setTop (mkF m 19 #[.val (.int p1)] [(.int p1)]))) (fun _ k => XS.iloadN X0.here hx rfl (hb hby d1_18) rfl k) ?_
        refine own_st (U' := (s₁.setTop (mkF m 21 #[.val (.int p1)] [(.int (13 : Int32)), (.int p1)]))) (fun _ k => XS.bipush X0.here hx rfl (hb hby d1_19) k) ?_
        by_cases c3 : p1 = (13 : Int32)
        · skip
          refine own_st (U' := (s₁.setTop (mkF m 24 #[.val (.int p1)] []))) (fun _ k => XS.icmpNo X0.here hx rfl (hb hby d1_21) rfl (teq c3).2 k) ?_
          have q : own_ans p1 = 1 := by unfold own_ans; rw [if_pos (by simp [c3])]
          refine own_st (U' := (s₁.setTop (mkF m 25 #[.val (.int p1)] [(.int (1 : Int32))]))) (fun _ k => XS.iconst X0.here hx rfl (hb hby d1_24) k) ?_
          refine own_st (U' := (s₁.setTop (mkF m 29 #[.val (.int p1)] [(.int (1 : Int32))]))) (fun _ k => XS.goto X0.here hx rfl (pc0 := 25) (pc' := 29) rfl (hb hby d1_25) (by decide) (by decide) k) ?_
          exact own_retN X0 hx (t := .boolean) Bd.returns Bd.notSynchronized (by simp) rfl (hb hby d1_29) (by decide) (by decide) (⟨by rw [q], N0, e0⟩)
        · skip
          refine own_st (U' := (s₁.setTop (mkF m 28 #[.val (.int p1)] []))) (fun _ k => XS.icmpYes X0.here hx rfl (pc0 := 21) (pc' := 28) rfl (hb hby d1_21) rfl (feq c3).2 (by decide) (by decide) k) ?_
          have q : own_ans p1 = 0 := by unfold own_ans; rw [if_neg (by simp [c0, c1, c2, c3])]
          refine own_st (U' := (s₁.setTop (mkF m 29 #[.val (.int p1)] [(.int (0 : Int32))]))) (fun _ k => XS.iconst X0.here hx rfl (hb hby d1_28) k) ?_
          exact own_retN X0 hx (t := .boolean) Bd.returns Bd.notSynchronized (by simp) rfl (hb hby d1_29) (by decide) (by decide) (⟨by rw [q], N0, e0⟩)
theorem pn_rm0 : plainName "com/example/xylem/xylem/xquery/xdm/XmlCharsIsWhitespacePinLaw" = true := by first | (simp [plainName, overriddenIn]; done) | decide +kernel
theorem ef_rm0 (m : MethodId) (x0 : Int32) : entryFrame m #[(.int x0)] maxLocals = mkF m 0 #[.val (.int x0), .unset, .unset, .unset] [] := by first | (simp [entryFrame, mkF, argsToLocals, Value.category, maxLocals]; done) | rfl
def Q_rm0 (Z : State) (i0 : Int32) (h0 : Heap) (n0 : Nat) (v : Option Value) (h : Heap) (L : List Loc) : Prop := v = some (.int 1) ∧ Fr n0 L
set_option maxRecDepth 65536 in
set_option maxHeartbeats 40000000 in
theorem rm0 (l : Launch) (Z : State) (a0 : Array Value) (hw : ∀ d ∈ tables_1, d.before a0 Z = true) (ws : List Jvm.Cond) (i0 : Int32) (h0 : Heap) (n0 : Nat) (Z0 : n0 ≤ h0.size)  :
    MetFree l x (head1 (Jvm.Cond.code x code maxLocals ret :: ws) room_1) (fun a U => a = #[(.int i0)] ∧ Z.Warmed39 U.vm ∧ U.heap = h0) (fun _ _ _ _ _ => True) (fun _ U o U' => ∃ v L, o = .returned v ∧ Q_rm0 Z i0 h0 n0 v U'.heap L ∧ FrameEnd U o U' L room_1.cells room_1.slots) := by
  refine MetFree.of_bodySF (plainFor_of_name pn_rm0) hisR ?_
  intro p e s m args below meth c s₁ Bd hml0 hP hK
  obtain ⟨rfl, hZ, hh⟩ := hP
  have hx := Bd.exec
  have hby := Bd.bytes
  have hml : c.maxLocals = 4 := hml0
  have hown : s.vm.findClass "com/example/xylem/xylem/xquery/xdm/XmlCharsIsWhitespacePinLaw" = some m.cls := findClass_of_methodNamed Bd.named
  have hnm := (name_of_methodNamed Bd.named Bd.method).1
  have X0 : Stand p l e room_1 s m #[(.int i0)] below meth c s₁ [] 0 0 := Stand.of_body Bd
  have e0 : s₁.heap = h0 := by rw [← hh, Bd.state]; rfl
  have N0 := Fr.nil n0
  show own_Ends p e s below (Q_rm0 Z i0 h0 n0) room_1.cells room_1.slots (s₁.setTop (entryFrame m #[(.int i0)] maxLocals))
  refine own_st (U' := (s₁.setTop (mkF m 0 #[.val (.int i0), .unset, .unset, .unset] []))) (fun _ k => castTop (ef_rm0 m i0) k) ?_
  refine own_st (U' := (s₁.setTop (mkF m 1 #[.val (.int i0), .unset, .unset, .unset] [(.int i0)]))) (fun _ k => XS.iloadN X0.here hx rfl (hb hby at_0) rfl k) ?_
  refine own_st (U' := (s₁.setTop (mkF m 2 #[.val (.int i0), .unset, .unset, .unset] [(.int (own_c i0))]))) (fun _ k => XS.i2c X0.here hx rfl (hb hby at_1) rfl k) ?_
  refine own_st (U' := (s₁.setTop (mkF m 3 #[.val (.int i0), .val (.int (own_c i0)), .unset, .unset] []))) (fun _ k => XS.istoreN X0.here hx rfl (hb hby at_2) rfl (l' := #[.val (.int i0), .val (.int (own_c i0)), .unset, .unset]) rfl k) ?_
  refine own_st (U' := (s₁.setTop (mkF m 4 #[.val (.int i0), .val (.int (own_c i0)), .unset, .unset] [(.int (own_c i0))]))) (fun _ k => XS.iloadN X0.here hx rfl (hb hby at_3) rfl k) ?_
  refine own_st (U' := (s₁.setTop (mkF m 5 #[.val (.int i0), .val (.int (own_c i0)), .val (.int (own_c i0)), .unset] []))) (fun _ k => XS.istoreN X0.here hx rfl (hb hby at_4) rfl (l' := #[.val (.int i0), .val (.int (own_c i0)), .val (.int (own_c i0)), .unset]) rfl k) ?_
  refine own_st (U' := (s₁.setTop (mkF m 6 #[.val (.int i0), .val (.int (own_c i0)), .val (.int (own_c i0)), .unset] [(.int (own_c i0))]))) (fun _ k => XS.iloadN X0.here hx rfl (hb hby at_5) rfl k) ?_
  refine own_st (U' := (s₁.setTop (mkF m 8 #[.val (.int i0), .val (.int (own_c i0)), .val (.int (own_c i0)), .unset] [(.int (32 : Int32)), (.int (own_c i0))]))) (fun _ k => XS.bipush X0.here hx rfl (hb hby at_6) k) ?_
  have tail : ∀ r : Int32, r = own_ans (own_c i0) → own_Ends p e s below (Q_rm0 Z i0 h0 n0) room_1.cells room_1.slots (s₁.setTop (mkF m 28 #[.val (.int i0), .val (.int (own_c i0)), .val (.int (own_c i0)), .unset] [(.int r)])) := by
    intro r hr
    refine own_st (U' := (s₁.setTop (mkF m 29 #[.val (.int i0), .val (.int (own_c i0)), .val (.int (own_c i0)), .val (.int r)] []))) (fun _ k => XS.istoreN X0.here hx rfl (hb hby at_28) rfl (l' := #[.val (.int i0), .val (.int (own_c i0)), .val (.int (own_c i0)), .val (.int r)]) rfl k) ?_
    refine own_st (U' := (s₁.setTop (mkF m 30 #[.val (.int i0), .val (.int (own_c i0)), .val (.int (own_c i0)), .val (.int r)] [(.int (own_c i0))]))) (fun _ k => XS.iloadN X0.here hx rfl (hb hby at_29) rfl k) ?_
    obtain ⟨_, _, ⟨T1, L1, k1, n1⟩, -, X1, ⟨Lc1, hQ1, l1, y1, z1⟩, st1⟩ := Jvm.LawKit.callS X0 hx (y := (⟨"com/example/xylem/xylem/xquery/xdm/XmlChars", "isWhitespace", "(C)Z"⟩ : MethodName)) hown (mvT hZ (hw _ (List.mem_of_getElem? (i := 1) rfl))) (mvT hZ (hw _ (List.mem_of_getElem? (i := 2) rfl))) (mvT hZ (hw _ (List.mem_of_getElem? (i := 3) rfl))) (mvT hZ (hw _ (List.mem_of_getElem? (i := 4) rfl))) (by decide) (backOf (W := 0) (rm1 l Z a0 hw [] (own_c i0) h0 n0 Z0) hZ (hw _ (List.mem_of_getElem? (i := 4) rfl)) (hw _ (List.mem_of_getElem? (i := 3) rfl)) (by decide) (by decide)) (g := (mkF m 30 #[.val (.int i0), .val (.int (own_c i0)), .val (.int (own_c i0)), .val (.int r)] [(.int (own_c i0))])) rfl (by rw [hml]; rfl) (argsL := [(.int (own_c i0))]) (rest := []) (lenOf (pd_d1) rfl) rfl (by show 2 * 0 + _ ≤ _; exact Nat.le_of_eq rfl) (hb hby at_30) (fun _ _ => ⟨rfl, e0, (Nat.le_of_ble_eq_true rfl), (Nat.le_of_ble_eq_true rfl)⟩)
    dsimp only [Pt.U, Pt.locs, Pt.cells, Pt.slots] at X1 l1 y1 z1 st1 hQ1
    subst l1 y1 z1
    obtain ⟨rfl, N1q, eq1⟩ := hQ1
    have N1 := Fr.app N0 N1q
    refine own_st (U' := (T1.setTop (mkF m 33 #[.val (.int i0), .val (.int (own_c i0)), .val (.int (own_c i0)), .val (.int r)] [(.int (own_ans (own_c i0)))]))) st1 ?_
    refine own_st (U' := (T1.setTop (mkF m 34 #[.val (.int i0), .val (.int (own_c i0)), .val (.int (own_c i0)), .val (.int r)] [(.int r), (.int (own_ans (own_c i0)))]))) (fun _ k => XS.iloadN X1.here hx rfl (hb hby at_33) rfl k) ?_
    refine own_st (U' := (T1.setTop (mkF m 37 #[.val (.int i0), .val (.int (own_c i0)), .val (.int (own_c i0)), .val (.int r)] []))) (fun _ k => XS.icmpNo X1.here hx rfl (hb hby at_34) rfl (teq hr.symm).2 k) ?_
    refine own_st (U' := (T1.setTop (mkF m 38 #[.val (.int i0), .val (.int (own_c i0)), .val (.int (own_c i0)), .val (.int r)] [(.int (1 : Int32))]))) (fun _ k => XS.iconst X1.here hx rfl (hb hby at_37) k) ?_
    refine own_st (U' := (T1.setTop (mkF m 42 #[.val (.int i0), .val (.int (own_c i0)), .val (.int (own_c i0)), .val (.int r)] [(.int (1 : Int32))]))) (fun _ k => XS.goto X1.here hx rfl (pc0 := 38) (pc' := 42) rfl (hb hby at_38) (by decide) (by decide) k) ?_
    exact own_retN X1 hx (t := .boolean) Bd.returns Bd.notSynchronized (by simp) rfl (hb hby at_42) (by decide) (by decide) (⟨rfl, N1⟩)
  by_cases c1 : (32 : Int32) < (own_c i0)
  · skip
    refine own_st (U' := (s₁.setTop (mkF m 27 #[.val (.int i0), .val (.int (own_c i0)), .val (.int (own_c i0)), .unset] []))) (fun _ k => XS.icmpYes X0.here hx rfl (pc0 := 8) (pc' := 27) rfl (hb hby at_8) rfl (tlt c1).2.2.1 (by decide) (by decide) k) ?_
    refine own_st (U' := (s₁.setTop (mkF m 28 #[.val (.int i0), .val (.int (own_c i0)), .val (.int (own_c i0)), .unset] [(.int (0 : Int32))]))) (fun _ k => XS.iconst X0.here hx rfl (hb hby at_27) k) ?_
    exact tail _ (own_high _ c1).symm
  · skip
    refine own_st (U' := (s₁.setTop (mkF m 11 #[.val (.int i0), .val (.int (own_c i0)), .val (.int (own_c i0)), .unset] []))) (fun _ k => XS.icmpNo X0.here hx rfl (hb hby at_8) rfl (flt c1).2.2.1 k) ?_
    refine own_st (U' := (s₁.setTop (mkF m 14 #[.val (.int i0), .val (.int (own_c i0)), .val (.int (own_c i0)), .unset] [(.long (4294977024 : Int64))]))) (fun _ k => Jvm.Stand.ldc2J X0 hx hown (mvT hZ (hw _ (List.mem_of_getElem? (i := 0) rfl))) rfl (hb hby at_11) k) ?_
    refine own_st (U' := (s₁.setTop (mkF m 15 #[.val (.int i0), .val (.int (own_c i0)), .val (.int (own_c i0)), .unset] [(.int (own_c i0)), (.long (4294977024 : Int64))]))) (fun _ k => XS.iloadN X0.here hx rfl (hb hby at_14) rfl k) ?_
    refine own_st (U' := (s₁.setTop (mkF m 16 #[.val (.int i0), .val (.int (own_c i0)), .val (.int (own_c i0)), .unset] [(.long (((4294977024 : Int64).toUInt64 >>> ((own_c i0) &&& 0x3f).toInt64.toUInt64).toInt64))]))) (fun _ k => XS.lushr X0.here hx rfl (hb hby at_15) rfl k) ?_
    refine own_st (U' := (s₁.setTop (mkF m 17 #[.val (.int i0), .val (.int (own_c i0)), .val (.int (own_c i0)), .unset] [(.long (1 : Int64)), (.long (((4294977024 : Int64).toUInt64 >>> ((own_c i0) &&& 0x3f).toInt64.toUInt64).toInt64))]))) (fun _ k => XS.lconst X0.here hx rfl (hb hby at_16) k) ?_
    refine own_st (U' := (s₁.setTop (mkF m 18 #[.val (.int i0), .val (.int (own_c i0)), .val (.int (own_c i0)), .unset] [(.long (own_bit (own_c i0)))]))) (fun _ k => XS.land X0.here hx rfl (hb hby at_17) rfl k) ?_
    refine own_st (U' := (s₁.setTop (mkF m 19 #[.val (.int i0), .val (.int (own_c i0)), .val (.int (own_c i0)), .unset] [(.long (0 : Int64)), (.long (own_bit (own_c i0)))]))) (fun _ k => XS.lconst X0.here hx rfl (hb hby at_18) k) ?_
    refine own_st (U' := (s₁.setTop (mkF m 20 #[.val (.int i0), .val (.int (own_c i0)), .val (.int (own_c i0)), .unset] [(.int (lcmpW (own_bit (own_c i0)) (0 : Int64)))]))) (fun _ k => XS.lcmp X0.here hx rfl (hb hby at_19) rfl k) ?_
    by_cases c2 : (lcmpW (own_bit (own_c i0)) (0 : Int64)) = (0 : Int32)
    · skip
      refine own_st (U' := (s₁.setTop (mkF m 27 #[.val (.int i0), .val (.int (own_c i0)), .val (.int (own_c i0)), .unset] []))) (fun _ k => XS.ifYes X0.here hx rfl (pc0 := 20) (pc' := 27) rfl (hb hby at_20) rfl ((if0 _ _).trans (teq c2).1) (by decide) (by decide) k) ?_
      refine own_st (U' := (s₁.setTop (mkF m 28 #[.val (.int i0), .val (.int (own_c i0)), .val (.int (own_c i0)), .unset] [(.int (0 : Int32))]))) (fun _ k => XS.iconst X0.here hx rfl (hb hby at_27) k) ?_
      exact tail _ (by rw [own_low _ c1]; simp [c2])
    · skip
      refine own_st (U' := (s₁.setTop (mkF m 23 #[.val (.int i0), .val (.int (own_c i0)), .val (.int (own_c i0)), .unset] []))) (fun _ k => XS.ifNo X0.here hx rfl (hb hby at_20) rfl ((if0 _ _).trans (feq c2).1) k) ?_
      refine own_st (U' := (s₁.setTop (mkF m 24 #[.val (.int i0), .val (.int (own_c i0)), .val (.int (own_c i0)), .unset] [(.int (1 : Int32))]))) (fun _ k => XS.iconst X0.here hx rfl (hb hby at_23) k) ?_
      refine own_st (U' := (s₁.setTop (mkF m 28 #[.val (.int i0), .val (.int (own_c i0)), .val (.int (own_c i0)), .unset] [(.int (1 : Int32))]))) (fun _ k => XS.goto X0.here hx rfl (pc0 := 24) (pc' := 28) rfl (hb hby at_24) (by decide) (by decide) k) ?_
      exact tail _ (by rw [own_low _ c1]; simp [c2])
set_option maxRecDepth 65536 in
set_option maxHeartbeats 40000000 in
theorem comes_1 {Post : Tables → Env → Array Value → State → Outcome → State → Prop} (hpost : ∀ tb e args s v u, (limb_1_1.after args s (.returned v) u = true ∧ limb_1_2.after args s (.returned v) u = true ∧ True) → FrameEnd s (.returned v) u (Jvm.fieldLocs frame_1_writes args s ++ Jvm.arrayLocs frame_1_arrays args s ++ Jvm.staticLocs frame_1_statics s) 0 0 → Post tb e args s (.returned v) u) :
    ArmFor flags0 classFile x code maxLocals ret World_1 tables_1 room_1 Calls_1 rest_1 Pre_1 Post := by
  intro l hfl _ _ p e ha hc hk s m args below hf hA hF happ hP
  obtain ⟨hcalls, hrest, hpre⟩ := hP
  obtain ⟨-, -, -, hnamed, -, -, -, hat⟩ := (Spec.applies_iff hf).mp happ
  obtain ⟨hg, hn⟩ := and_e (Cond.before_iff.mp (show (Jvm.Cond.and given_1 narrow_1).before args s = true from hpre))
  obtain ⟨gc, g0⟩ := and_e hg
  obtain ⟨w0, rfl⟩ : ∃ w0 : Value, args = #[w0] := by
    have hs : args.size = 1 := by simpa [Cond.value, given_1] using gc
    obtain ⟨L⟩ := args
    match L, hs with
    | [w0], _ => exact ⟨w0, rfl⟩
  have hw := fun d (hd : d ∈ tables_1) => atoms_spec (ws := Jvm.Cond.code x code maxLocals ret :: tables_1) hat d (List.mem_cons_of_mem _ hd)
  obtain ⟨i0, ei0⟩ := is_v g0
  obtain rfl : w0 = (.int i0) := Option.some.inj ei0
  obtain ⟨n, o, h1, h2, h3, _, L, rfl, ⟨rfl, N⟩, hq⟩ := rm0 l s _ hw tables_1 i0 s.heap s.heap.size (Nat.le_refl _)  p e ha hc hk s m _ below hf ((Spec.applies_iff_loose hf).mp happ).1 ⟨rfl, State.Warmed39.refl s, rfl⟩ trivial
  refine ⟨n, _, h1, h2, h3, hpost _ _ _ _ _ _ ⟨Cond.after_iff.mpr rfl, Cond.after_iff.mpr (eq_i res_at (Term.int_eval (1)) rfl), trivial⟩ ⟨hq.1, hq.2.1, (hq.2.2.sift fun y hy => Or.inr (N y hy)).mono (by decide) (by decide)⟩⟩
theorem main_1_1 : Claimed_1_1 := comes_1 fun _ _ _ _ _ _ h hF => ⟨h.1, hF⟩
theorem main_1_2 : Claimed_1_2 := comes_1 fun _ _ _ _ _ _ h hF => ⟨h.2.1, hF⟩
end Jvm.Pilot.@@N@@
namespace Jvm.Pilot.@@N@@
open Jvm Jvm.ClassFile Sem Op Lib Jvm.Free Jvm.Stand Jvm.Pilot.@@N@@.Jvm.D
/-! MADE BY PROGRAM (witnessworld.py) out of the Statement's table words and the real class files: 9 classes; the members and pool entries that the words name. The judged class is class 1, her method 1. -/
namespace start1
open Jvm.ClassFile
def u (s : String) : CpInfo := .utf8 (stringToUtf16 s)
/-- a pool by its gaps: so many unusable entries, then the entry; so many at the end -/
def gap : Nat → List CpInfo → List CpInfo
  | 0, r => r
  | n + 1, r => .unusable :: gap n r
def poolList (es : List (Nat × CpInfo)) (last : Nat) : List CpInfo := es.foldr (fun e r => gap e.1 (e.2 :: r)) (gap last [])
def pool (es : List (Nat × CpInfo)) (last : Nat) : Array CpInfo := ⟨poolList es last⟩
def fileOf (pool : Array CpInfo) (this : Nat) (attrs : Array Attribute := #[]) (ms : Array MethodInfo := #[]) (fl : Nat := 33) (sup : Nat := 0) (ifs : Array Nat := #[]) (fds : Array FieldInfo := #[]) : ClassFile where
  minorVersion := 0
  majorVersion := 65
  constantPool := pool
  accessFlags := fl
  thisClass := this
  superClass := sup
  interfaces := ifs
  fields := fds
  methods := ms
  attributes := attrs
def plain (name : String) (sup : Option ClassId) : Class where
  name := name
  kind := .ordinary
  loader := none
  accessFlags := 33
  super := sup
  interfaces := #[]
  cf := none
  fields := #[]
  methods := #[]
  instanceTypes := #[]
  staticTypes := #[]
  resolved := #[]
  callSites := []
  init := .initialized
  statics := none
  mirror := none

def pool0 : Array CpInfo := pool [(5, u "<init>"), (0, u "()V"), (1, .class_ 10), (1, u "java/lang/Object")] 113

def k0m0 : Method := { name := "<init>", desc := "()V", sig := { parameters := [], returnType := none }, accessFlags := 1, code := none }
/-- java/lang/Object -/
def k0 : Class := { plain "java/lang/Object" none with
  accessFlags := 33
  interfaces := #[]
  cf := some (fileOf pool0 8 #[] #[{ accessFlags := 1, nameIndex := 5, descriptorIndex := 6, attributes := #[] }] 33 0 #[] #[])
  fields := #[]
  methods := #[k0m0]
  instanceTypes := #[]
  staticTypes := #[]
  resolved := Array.replicate 124 none
  statics := none }

def pool1 : Array CpInfo := pool [(2, .class_ 4), (1, u "java/lang/Object"), (0, u "<init>"), (0, u "()V"), (0, .class_ 8), (0, u "com/example/xylem/xylem/xquery/xdm/XmlCharsIsWhitespacePinLaw"), (0, .long 4294977024), (1, .methodref 12 13), (0, .class_ 14), (0, .nameAndType 15 16), (0, u "com/example/xylem/xylem/xquery/xdm/XmlChars"), (0, u "isWhitespace"), (0, u "(C)Z"), (0, u "WHITE_MASK"), (0, u "J"), (3, u "law"), (0, u "(I)Z")] 3

def k1m0 : Method := { name := "<init>", desc := "()V", sig := { parameters := [], returnType := none }, accessFlags := 2, code := none }
def k1c1 : Code := { maxStack := 4, maxLocals := 4, code := code, exceptionTable := #[], attributes := #[] }
def k1m1 : Method := { name := "law", desc := "(I)Z", sig := { parameters := [.int], returnType := some .boolean }, accessFlags := 9, code := some k1c1 }
/-- com/example/xylem/xylem/xquery/xdm/XmlCharsIsWhitespacePinLaw -/
def k1 : Class := { plain "com/example/xylem/xylem/xquery/xdm/XmlCharsIsWhitespacePinLaw" (some 0) with
  accessFlags := 49
  interfaces := #[]
  cf := some (fileOf pool1 7 #[] #[{ accessFlags := 2, nameIndex := 5, descriptorIndex := 6, attributes := #[] }, { accessFlags := 9, nameIndex := 22, descriptorIndex := 23, attributes := #[] }] 49 2 #[] #[{ accessFlags := 26, nameIndex := 17, descriptorIndex := 18, attributes := #[] }])
  fields := #[{ name := "WHITE_MASK", type := .long, accessFlags := 26, slot := 0, constantValue := 0 }]
  methods := #[k1m0, k1m1]
  instanceTypes := #[]
  staticTypes := #[.long]
  resolved := Array.replicate 27 none
  statics := none }

def pool2 : Array CpInfo := pool [(2, .class_ 4), (1, u "java/lang/Object"), (0, u "<init>"), (0, u "()V"), (16, .class_ 25), (1, u "com/example/xylem/xylem/xquery/xdm/XmlChars"), (9, u "NAME_START"), (0, u "[I"), (9, u "NAME_PART_ONLY"), (39, u "isWhitespace"), (0, u "(C)Z")] 6

def k2m0 : Method := { name := "<init>", desc := "()V", sig := { parameters := [], returnType := none }, accessFlags := 2, code := none }
def k2c1 : Code := { maxStack := 2, maxLocals := 1, code := prog_368_method_7_code, exceptionTable := #[], attributes := #[] }
def k2m1 : Method := { name := "isWhitespace", desc := "(C)Z", sig := { parameters := [.char], returnType := some .boolean }, accessFlags := 9, code := some k2c1 }
/-- com/example/xylem/xylem/xquery/xdm/XmlChars -/
def k2 : Class := { plain "com/example/xylem/xylem/xquery/xdm/XmlChars" (some 0) with
  accessFlags := 49
  interfaces := #[]
  cf := some (fileOf pool2 23 #[] #[{ accessFlags := 2, nameIndex := 5, descriptorIndex := 6, attributes := #[] }, { accessFlags := 9, nameIndex := 86, descriptorIndex := 87, attributes := #[] }] 49 2 #[] #[{ accessFlags := 26, nameIndex := 35, descriptorIndex := 36, attributes := #[] }, { accessFlags := 26, nameIndex := 46, descriptorIndex := 36, attributes := #[] }])
  fields := #[{ name := "NAME_START", type := (.array .int), accessFlags := 26, slot := 0, constantValue := 0 }, { name := "NAME_PART_ONLY", type := (.array .int), accessFlags := 26, slot := 1, constantValue := 0 }]
  methods := #[k2m0, k2m1]
  instanceTypes := #[]
  staticTypes := #[(.array .int), (.array .int)]
  resolved := Array.replicate 94 none
  statics := none }

def pool3 : Array CpInfo := pool [(1, u "java/lang/Cloneable"), (0, .class_ 1), (0, u "java/lang/Object"), (0, .class_ 3)] 3

/-- java/lang/Cloneable -/
def k3 : Class := { plain "java/lang/Cloneable" (some 0) with
  accessFlags := 1537
  interfaces := #[]
  cf := some (fileOf pool3 2 #[] #[] 1537 4 #[] #[])
  fields := #[]
  methods := #[]
  instanceTypes := #[]
  staticTypes := #[]
  resolved := Array.replicate 8 none
  statics := none }

def pool4 : Array CpInfo := pool [(1, u "java/io/Serializable"), (0, .class_ 1), (0, u "java/lang/Object"), (0, .class_ 3)] 3

/-- java/io/Serializable -/
def k4 : Class := { plain "java/io/Serializable" (some 0) with
  accessFlags := 1537
  interfaces := #[]
  cf := some (fileOf pool4 2 #[] #[] 1537 4 #[] #[])
  fields := #[]
  methods := #[]
  instanceTypes := #[]
  staticTypes := #[]
  resolved := Array.replicate 8 none
  statics := none }

/-- the primitive byte -/
def k5 : Class := { plain "byte" none with kind := .primitive 'B', accessFlags := 0x411 }
/-- [B -/
def k6 : Class := { plain "[B" (some 0) with kind := .array 5 .byte, interfaces := #[3, 4], accessFlags := 1041 }

/-- the primitive int -/
def k7 : Class := { plain "int" none with kind := .primitive 'I', accessFlags := 0x411 }
/-- [I -/
def k8 : Class := { plain "[I" (some 0) with kind := .array 7 .int, interfaces := #[3, 4], accessFlags := 1041 }

def heap : Heap := #[]
def classes : Array Class := #[k0, k1, k2, k3, k4, k5, k6, k7, k8]
def interned : List (Array UInt16 × Addr) := []
def slotsUsed : Nat := 0
def theMethod : MethodId := ⟨1, 1⟩
def args0 : Array Value := #[.int 5]
def aboutOver (below : List Frame) : State where
  vm := { classes := classes, interned := interned.toArray }
  heap := heap
  slotsUsed := slotsUsed
  threads := #[{ frames := .invoking theMethod args0 :: below }]
def below0 : List Frame := [.native { method := ⟨0, 0⟩, args := #[] }]
def about1 : State := aboutOver below0
def p0 : Program := .bare "" "" ""
def e0 : Env := launch0.env 0 0 0
theorem w_frames : about1.frames = Frame.invoking theMethod args0 :: below0 := rfl
set_option maxRecDepth 65536 in
theorem w_args : argsFit about1.vm theMethod args0 = true := by decide +kernel
set_option maxRecDepth 65536 in
theorem w_heap : heapFits about1 = true := by decide +kernel
set_option maxRecDepth 65536 in
theorem w_runnable : about1.curStatus? = some .runnable := by decide +kernel
set_option maxRecDepth 65536 in
theorem w_alone : about1.alone = true := by decide +kernel
set_option maxRecDepth 65536 in
theorem w_named : about1.methodNamed? x = some theMethod := by decide +kernel
set_option maxRecDepth 65536 in
theorem w_hears : about1.hears theMethod below0 = true := by decide +kernel
set_option maxRecDepth 65536 in
theorem w_ripe : about1.ripe theMethod args0 below0 = true := by decide +kernel
theorem w_running : about1.status = .running := rfl
set_option maxRecDepth 65536 in
theorem w_room : about1.hasRoom e0.platform room_1 = true :=
  launch0.hasRoom_least _ room_1 (by decide +kernel) (by decide +kernel) (by decide +kernel) (by decide +kernel) (by decide +kernel) (by decide +kernel)
theorem allAtoms_all (ts : List Jvm.Cond) (a : Array Jvm.Value) (st : Jvm.State) : (allAtoms ts).before a st = ts.all (fun c => c.before a st) := by
  induction ts with
  | nil => rfl
  | cons c t ih =>
    show (Jvm.Cond.and c (allAtoms t)).before a st = _
    rw [Jvm.Cond.before_and, ih, List.all_cons]
def words1 : List Jvm.Cond := Jvm.Cond.code x code maxLocals ret :: tables_1
/-- a 'code' word, met by the world's own term for the bytes: nothing is compared byte by byte -/
theorem code_word {y : MethodName} {bytes : ByteArray} {mx : Nat} {rt : Option FieldType} {a : Array Value} {s : State} {m : MethodId} {meth : Method} {c : Code} (h1 : s.methodNamed? y = some m) (h2 : s.vm.method? m = some meth) (h3 : meth.code = some c) (h4 : c.code = bytes)
    (h5 : (c.maxLocals == mx && c.exceptionTable.isEmpty && decide (c.maxStack ≤ mostOperands) && decide (meth.sig.returnType = rt) && !meth.locks && decide (parseMethodDescriptor y.desc = some meth.sig)) = true) : (Jvm.Cond.code y bytes mx rt).before a s = true := by
  simp only [Bool.and_eq_true, beq_iff_eq, Bool.not_eq_true', decide_eq_true_eq] at h5
  obtain ⟨⟨⟨⟨⟨g1, g2⟩, g3⟩, g4⟩, g5⟩, g6⟩ := h5
  simp [Cond.before, Cond.holds, Cond.value, h1, h2, h3, h4, g1, g2, g3, g4, g5, g6]
def isCode : Jvm.Cond → Bool
  | .code _ _ _ _ => true
  | _ => false
theorem all_split {L : List Jvm.Cond} {P : Jvm.Cond → Bool} (h1 : L.all (fun c => isCode c || P c) = true) (h2 : ∀ c ∈ L.filter isCode, P c = true) : L.all P = true := by
  refine List.all_eq_true.mpr fun c hc => ?_
  have h := List.all_eq_true.mp h1 c hc
  rcases Bool.eq_false_or_eq_true (isCode c) with hi | hi
  · exact h2 c (List.mem_filter.mpr ⟨hc, hi⟩)
  · simpa [hi] using h
set_option maxRecDepth 65536 in
theorem w_c0 : (Jvm.Cond.code x code maxLocals ret).before args0 about1 = true := code_word (m := ⟨1, 1⟩) (meth := k1m1) (c := k1c1) (by decide +kernel) rfl rfl rfl (by decide +kernel)
set_option maxRecDepth 65536 in
theorem w_c1 : (Jvm.Cond.code ({ cls := "com/example/xylem/xylem/xquery/xdm/XmlChars", name := "isWhitespace", desc := "(C)Z" } : Jvm.MethodName) prog_368_method_7_code (1 : Nat) (Option.some Jvm.ClassFile.FieldType.boolean)).before args0 about1 = true := code_word (m := ⟨2, 1⟩) (meth := k2m1) (c := k2c1) (by decide +kernel) rfl rfl rfl (by decide +kernel)
def codes1 : List Jvm.Cond := [Jvm.Cond.code x code maxLocals ret, Jvm.Cond.code ({ cls := "com/example/xylem/xylem/xquery/xdm/XmlChars", name := "isWhitespace", desc := "(C)Z" } : Jvm.MethodName) prog_368_method_7_code (1 : Nat) (Option.some Jvm.ClassFile.FieldType.boolean)]
set_option maxRecDepth 65536 in
theorem codes_eq : words1.filter isCode = codes1 := rfl
theorem w_codes : ∀ c ∈ words1.filter isCode, c.before args0 about1 = true := by
  rw [codes_eq]
  intro c hc
  simp only [codes1, List.mem_cons, List.not_mem_nil, or_false] at hc
  rcases hc with rfl | rfl
  · exact w_c0
  · exact w_c1
set_option maxRecDepth 65536 in
theorem w_t1 : words1.all (fun c => isCode c || c.before args0 about1) = true := by decide +kernel
theorem w_tables : (allAtoms (Jvm.Cond.code x code maxLocals ret :: tables_1)).before args0 about1 = true := by
  rw [allAtoms_all]
  show words1.all (fun c => c.before args0 about1) = true
  refine all_split ?_ w_codes
  rw [w_t1]
set_option maxRecDepth 65536 in
theorem w_case : (Jvm.Cond.and given_1 narrow_1).before args0 about1 = true := by decide +kernel
theorem w_applies : (headSpec (Jvm.Cond.code x code maxLocals ret :: tables_1) room_1).applies x e0.platform about1 = true :=
  (Spec.applies_iff w_frames).mpr ⟨w_running, w_runnable, w_alone, w_named, w_hears, w_ripe, w_room, w_tables⟩
theorem atStart : AtStart classFile x code maxLocals ret World_1 tables_1 room_1 Calls_1 rest_1 Pre_1 launch0 p0 e0 about1 theMethod args0 below0 :=
  ⟨lists_1, trivial, launch0.admits_env _ _ _, launch0.least_env, fairChoices_fair.cas, fairChoices_fair.clock, w_frames, w_args, w_heap, w_applies, trivial, trivial, w_case⟩
end start1
theorem witness_1 : WitnessClaimed_1 := ⟨start1.p0, start1.e0, start1.about1, start1.theMethod, start1.args0, start1.below0, start1.atStart⟩
end Jvm.Pilot.@@N@@
