import JvmDerived
import JvmDerived.Pilot.@@N@@Statement
import JvmDerived.Pilot.@@N@@Code
set_option linter.unusedVariables false
set_option linter.unusedSimpArgs false
namespace Jvm.Pilot.@@N@@
open Jvm Jvm.ClassFile Sem Op Lib Jvm.Free Jvm.Stand Jvm.LawKit Jvm.RoadKit Bundle Jvm.Pilot.@@N@@.Jvm.D
/-! what a walk owes: from the state U on the run comes to the end of the method's frame, and Q holds there -/
def own_Ends (p : Program) (e : Env) (s : State) (below : List Frame) (Q : Option Value → Heap → List Loc → Prop) (kc ks : Nat) (U : State) : Prop :=
  ∃ s₂ o, Steps p.tables e below U s₂ ∧ s₂.status = .running ∧ Ended s₂ below o ∧ ∃ v L, o = .returned v ∧ Q v s₂.heap L ∧ FrameEnd s o s₂ L kc ks
section OwnWalk
variable {p : Program} {l : Launch} {e : Env} {R : Room} {s : State} {m : MethodId} {args : Array Value} {below : List Frame} {meth : Method} {c : Code} {T : State} {locs : List Loc} {cells slots : Nat} {Q : Option Value → Heap → List Loc → Prop} {kc ks : Nat} {U U' : State}
theorem own_st (k : ∀ t, Steps p.tables e below U' t → Steps p.tables e below U t) (h : own_Ends p e s below Q kc ks U') : own_Ends p e s below Q kc ks U := by
  obtain ⟨s₂, o, h1, h2⟩ := h
  exact ⟨s₂, o, k _ h1, h2⟩
theorem own_tr (k : Steps p.tables e below U U') (h : own_Ends p e s below Q kc ks U') : own_Ends p e s below Q kc ks U := own_st (fun _ h => k.trans h) h
theorem own_fin (X : Stand p l e R s m args below meth c T locs cells slots) {v : Option Value} {g : JFrame} (hv : meth.sig.returnType = none → v = none) (hlk : meth.locks = false) (hc : cells ≤ kc) (hs : slots ≤ ks) (hQ : Q v T.heap locs)
    (st : ∀ fs, (∀ (f : JFrame) (acts : List Action), f.method = m → f.locked = none → f.entered = [] → (doReturn e (T.setTop f) acts v).1 = T.setFrames fs) → Steps p.tables e below (T.setTop g) (T.setFrames fs)) : own_Ends p e s below Q kc ks (T.setTop g) := by
  obtain ⟨fs, hr, hrun, hended, hW, hsame⟩ := X.leave (v := v) hv hlk
  exact ⟨_, _, st fs hr, hrun, hended, v, locs, rfl, hQ, ⟨_, rfl⟩, hW, hsame.mono hc hs⟩
theorem own_retV (X : Stand p l e R s m args below meth c T locs cells slots) (hx : p.tables.exec = Jvm.exec) {pc : Nat} {Ls : Array Slot} {st : List Value} (hret : meth.sig.returnType = none) (hlk : meth.locks = false) (hd : decode c.code pc = .ok (.return_, 1)) (hc : cells ≤ kc) (hs : slots ≤ ks) (hQ : Q none T.heap locs) : own_Ends p e s below Q kc ks (T.setTop (mkF m pc Ls [])) :=
  own_fin X (v := none) (fun _ => rfl) hlk hc hs hQ fun fs hr => X.returnOut hx hret hd hr
theorem own_retN (X : Stand p l e R s m args below meth c T locs cells slots) (hx : p.tables.exec = Jvm.exec) {pc : Nat} {Ls : Array Slot} {z : Int32} {t : FieldType} {rest : List Value} (hret : meth.sig.returnType = some t) (hlk : meth.locks = false) (ht : t = .boolean ∨ t = .byte ∨ t = .char ∨ t = .short) (hz : nar t z = z) (hd : decode c.code pc = .ok (.ireturn, 1)) (hc : cells ≤ kc) (hs : slots ≤ ks) (hQ : Q (some (.int z)) T.heap locs) : own_Ends p e s below Q kc ks (T.setTop (mkF m pc Ls (.int z :: rest))) :=
  own_fin X (v := some (.int z)) (fun h => by rw [hret] at h; cases h) hlk hc hs hQ fun fs hr => retN X hx hret ht hd (by rw [hz]; exact hr)
theorem own_retO (X : Stand p l e R s m args below meth c T locs cells slots) (hx : p.tables.exec = Jvm.exec) {pc : Nat} {Ls : Array Slot} {w : Value} {t : FieldType} {i : Instr} {rest : List Value} (hret : meth.sig.returnType = some t) (hlk : meth.locks = false) (hn : narrow t w = w)
    (hi : (i = .ireturn ∧ (t = .int ∨ t = .boolean ∨ t = .byte ∨ t = .char ∨ t = .short) ∧ ∃ z, w = .int z) ∨ (i = .lreturn ∧ t = .long ∧ ∃ z, w = .long z) ∨ (i = .dreturn ∧ t = .double ∧ ∃ z, w = .double z) ∨ (i = .freturn ∧ t = .float ∧ ∃ z, w = .float z) ∨ (i = .areturn ∧ t.isReference = true ∧ w.isRef = true))
    (hd : decode c.code pc = .ok (i, 1)) (hc : cells ≤ kc) (hs : slots ≤ ks) (hQ : Q (some w) T.heap locs) : own_Ends p e s below Q kc ks (T.setTop (mkF m pc Ls (w :: rest))) :=
  own_fin X (v := some w) (fun h => by rw [hret] at h; cases h) hlk hc hs hQ fun fs hr => retOut X hx hret hn hi hd hr
theorem own_retI (X : Stand p l e R s m args below meth c T locs cells slots) (hx : p.tables.exec = Jvm.exec) {pc : Nat} {Ls : Array Slot} {z : Int32} {rest : List Value} (hret : meth.sig.returnType = some .int) (hlk : meth.locks = false) (hd : decode c.code pc = .ok (.ireturn, 1)) (hc : cells ≤ kc) (hs : slots ≤ ks) (hQ : Q (some (.int z)) T.heap locs) : own_Ends p e s below Q kc ks (T.setTop (mkF m pc Ls (.int z :: rest))) :=
  own_retO X hx hret hlk rfl (Or.inl ⟨rfl, Or.inl rfl, _, rfl⟩) hd hc hs hQ
theorem own_retJ (X : Stand p l e R s m args below meth c T locs cells slots) (hx : p.tables.exec = Jvm.exec) {pc : Nat} {Ls : Array Slot} {z : Int64} {rest : List Value} (hret : meth.sig.returnType = some .long) (hlk : meth.locks = false) (hd : decode c.code pc = .ok (.lreturn, 1)) (hc : cells ≤ kc) (hs : slots ≤ ks) (hQ : Q (some (.long z)) T.heap locs) : own_Ends p e s below Q kc ks (T.setTop (mkF m pc Ls (.long z :: rest))) :=
  own_retO X hx hret hlk rfl (Or.inr (Or.inl ⟨rfl, rfl, _, rfl⟩)) hd hc hs hQ
theorem own_retA (X : Stand p l e R s m args below meth c T locs cells slots) (hx : p.tables.exec = Jvm.exec) {pc : Nat} {Ls : Array Slot} {a : Addr} {t : FieldType} {rest : List Value} (hret : meth.sig.returnType = some t) (hlk : meth.locks = false) (ht : t.isReference = true) (hn : narrow t (.ref a) = .ref a) (hd : decode c.code pc = .ok (.areturn, 1)) (hc : cells ≤ kc) (hs : slots ≤ ks) (hQ : Q (some (.ref a)) T.heap locs) : own_Ends p e s below Q kc ks (T.setTop (mkF m pc Ls (.ref a :: rest))) :=
  own_retO X hx hret hlk hn (Or.inr (Or.inr (Or.inr (Or.inr ⟨rfl, ht, rfl⟩)))) hd hc hs hQ
end OwnWalk
/-! the plain law: the constants by their ordinals -/
def own_ix (k : Int32) : Nat := if k = 0 then 0 else if k = 1 then 1 else if k = 2 then 2 else if k = 3 then 3 else if k = 4 then 4 else if k = 5 then 5 else if k = 6 then 6 else if k = 7 then 7 else if k = 8 then 8 else if k = 9 then 9 else if k = 10 then 10 else 11
def own_exp (k : Int32) : Int32 := if k = 0 then 1 else if k = 1 then 1 else if k = 6 then 1 else if k = 7 then 1 else 0
def own_ev (f : Nat → Addr) (a : Addr) : Int32 := if a = f 0 then 1 else if a = f 1 then 1 else if a = f 6 then 1 else if a = f 7 then 1 else 0
theorem own_ix_lt (k : Int32) : own_ix k < 12 := by
  unfold own_ix
  repeat' split
  all_goals decide
theorem own_ev_ix (f : Nat → Addr) (hinj : ∀ i j : Nat, i < 12 → j < 12 → f i = f j → i = j) (i : Nat) (hi : i < 12) : own_ev f (f i) = if i = 0 then 1 else if i = 1 then 1 else if i = 6 then 1 else if i = 7 then 1 else 0 := by
  have g : ∀ j : Nat, j < 12 → (f i = f j ↔ i = j) := fun j hj => ⟨hinj _ _ hi hj, fun h => by rw [h]⟩
  simp only [own_ev, g 0 (by decide), g 1 (by decide), g 6 (by decide), g 7 (by decide)]
theorem own_exp_ix (k : Int32) : (if own_ix k = 0 then (1 : Int32) else if own_ix k = 1 then 1 else if own_ix k = 6 then 1 else if own_ix k = 7 then 1 else 0) = own_exp k := by
  by_cases h0 : k = 0
  · subst h0; decide
  by_cases h1 : k = 1
  · subst h1; decide
  by_cases h2 : k = 2
  · subst h2; decide
  by_cases h3 : k = 3
  · subst h3; decide
  by_cases h4 : k = 4
  · subst h4; decide
  by_cases h5 : k = 5
  · subst h5; decide
  by_cases h6 : k = 6
  · subst h6; decide
  by_cases h7 : k = 7
  · subst h7; decide
  by_cases h8 : k = 8
  · subst h8; decide
  by_cases h9 : k = 9
  · subst h9; decide
  by_cases h10 : k = 10
  · subst h10; decide
  have q : own_ix k = 11 := by unfold own_ix; rw [if_neg h0, if_neg h1, if_neg h2, if_neg h3, if_neg h4, if_neg h5, if_neg h6, if_neg h7, if_neg h8, if_neg h9, if_neg h10]
  have q' : own_exp k = 0 := by unfold own_exp; rw [if_neg h0, if_neg h1, if_neg h6, if_neg h7]
  rw [q, q']
  rfl
theorem own_law (f : Nat → Addr) (hinj : ∀ i j : Nat, i < 12 → j < 12 → f i = f j → i = j) (k : Int32) : own_ev f (f (own_ix k)) = own_exp k := (own_ev_ix f hinj _ (own_ix_lt k)).trans (own_exp_ix k)
theorem own_ord {t : Term} {args : Array Value} {Z : State} {a : Addr} {C n d : String} {k : Int32} (ev : t.eval args Z none [] Z = some (.ref a)) (h : (Jvm.Cond.eq (.field t C n d) (.int k)).value args Z none Z [] = some true) : Z.fieldOf? a C n d = some (.int k) := by
  obtain ⟨u, w, e1, e2, k1, k2⟩ := cmp_v (Or.inl h)
  have e2' : (Term.int k).eval args Z none [] Z = some (.int k) := Term.int_eval k
  cases e2.symm.trans e2'
  obtain ⟨z, rfl⟩ := k2
  rw [fld_at ev] at e1
  rw [e1]
  have h' := h
  simp [Cond.value, fld_at ev, e1, e2'] at h'
  rw [h']
theorem d1_0 : decode method_3_code 0 = .ok (.iload_n 0, 1) := by decide +kernel
theorem d1_1 : decode method_3_code 1 = .ok (.ifCond .ne 7, 3) := by decide +kernel
theorem d1_4 : decode method_3_code 4 = .ok (.getstatic 24, 3) := by decide +kernel
theorem d1_7 : decode method_3_code 7 = .ok (.areturn, 1) := by decide +kernel
theorem d1_8 : decode method_3_code 8 = .ok (.iload_n 0, 1) := by decide +kernel
theorem d1_9 : decode method_3_code 9 = .ok (.iconst 1, 1) := by decide +kernel
theorem d1_10 : decode method_3_code 10 = .ok (.if_icmp .ne 7, 3) := by decide +kernel
theorem d1_13 : decode method_3_code 13 = .ok (.getstatic 28, 3) := by decide +kernel
theorem d1_16 : decode method_3_code 16 = .ok (.areturn, 1) := by decide +kernel
theorem d1_17 : decode method_3_code 17 = .ok (.iload_n 0, 1) := by decide +kernel
theorem d1_18 : decode method_3_code 18 = .ok (.iconst 2, 1) := by decide +kernel
theorem d1_19 : decode method_3_code 19 = .ok (.if_icmp .ne 7, 3) := by decide +kernel
theorem d1_22 : decode method_3_code 22 = .ok (.getstatic 31, 3) := by decide +kernel
theorem d1_25 : decode method_3_code 25 = .ok (.areturn, 1) := by decide +kernel
theorem d1_26 : decode method_3_code 26 = .ok (.iload_n 0, 1) := by decide +kernel
theorem d1_27 : decode method_3_code 27 = .ok (.iconst 3, 1) := by decide +kernel
theorem d1_28 : decode method_3_code 28 = .ok (.if_icmp .ne 7, 3) := by decide +kernel
theorem d1_31 : decode method_3_code 31 = .ok (.getstatic 34, 3) := by decide +kernel
theorem d1_34 : decode method_3_code 34 = .ok (.areturn, 1) := by decide +kernel
theorem d1_35 : decode method_3_code 35 = .ok (.iload_n 0, 1) := by decide +kernel
theorem d1_36 : decode method_3_code 36 = .ok (.iconst 4, 1) := by decide +kernel
theorem d1_37 : decode method_3_code 37 = .ok (.if_icmp .ne 7, 3) := by decide +kernel
theorem d1_40 : decode method_3_code 40 = .ok (.getstatic 37, 3) := by decide +kernel
theorem d1_43 : decode method_3_code 43 = .ok (.areturn, 1) := by decide +kernel
theorem d1_44 : decode method_3_code 44 = .ok (.iload_n 0, 1) := by decide +kernel
theorem d1_45 : decode method_3_code 45 = .ok (.iconst 5, 1) := by decide +kernel
theorem d1_46 : decode method_3_code 46 = .ok (.if_icmp .ne 7, 3) := by decide +kernel
theorem d1_49 : decode method_3_code 49 = .ok (.getstatic 40, 3) := by decide +kernel
theorem d1_52 : decode method_3_code 52 = .ok (.areturn, 1) := by decide +kernel
theorem d1_53 : decode method_3_code 53 = .ok (.iload_n 0, 1) := by decide +kernel
theorem d1_54 : decode method_3_code 54 = .ok (.bipush 6, 2) := by decide +kernel
theorem d1_56 : decode method_3_code 56 = .ok (.if_icmp .ne 7, 3) := by decide +kernel
theorem d1_59 : decode method_3_code 59 = .ok (.getstatic 43, 3) := by decide +kernel
theorem d1_62 : decode method_3_code 62 = .ok (.areturn, 1) := by decide +kernel
theorem d1_63 : decode method_3_code 63 = .ok (.iload_n 0, 1) := by decide +kernel
theorem d1_64 : decode method_3_code 64 = .ok (.bipush 7, 2) := by decide +kernel
theorem d1_66 : decode method_3_code 66 = .ok (.if_icmp .ne 7, 3) := by decide +kernel
theorem d1_69 : decode method_3_code 69 = .ok (.getstatic 46, 3) := by decide +kernel
theorem d1_72 : decode method_3_code 72 = .ok (.areturn, 1) := by decide +kernel
theorem d1_73 : decode method_3_code 73 = .ok (.iload_n 0, 1) := by decide +kernel
theorem d1_74 : decode method_3_code 74 = .ok (.bipush 8, 2) := by decide +kernel
theorem d1_76 : decode method_3_code 76 = .ok (.if_icmp .ne 7, 3) := by decide +kernel
theorem d1_79 : decode method_3_code 79 = .ok (.getstatic 49, 3) := by decide +kernel
theorem d1_82 : decode method_3_code 82 = .ok (.areturn, 1) := by decide +kernel
theorem d1_83 : decode method_3_code 83 = .ok (.iload_n 0, 1) := by decide +kernel
theorem d1_84 : decode method_3_code 84 = .ok (.bipush 9, 2) := by decide +kernel
theorem d1_86 : decode method_3_code 86 = .ok (.if_icmp .ne 7, 3) := by decide +kernel
theorem d1_89 : decode method_3_code 89 = .ok (.getstatic 52, 3) := by decide +kernel
theorem d1_92 : decode method_3_code 92 = .ok (.areturn, 1) := by decide +kernel
theorem d1_93 : decode method_3_code 93 = .ok (.iload_n 0, 1) := by decide +kernel
theorem d1_94 : decode method_3_code 94 = .ok (.bipush 10, 2) := by decide +kernel
theorem d1_96 : decode method_3_code 96 = .ok (.if_icmp .ne 7, 3) := by decide +kernel
theorem d1_99 : decode method_3_code 99 = .ok (.getstatic 55, 3) := by decide +kernel
theorem d1_102 : decode method_3_code 102 = .ok (.areturn, 1) := by decide +kernel
theorem d1_103 : decode method_3_code 103 = .ok (.getstatic 58, 3) := by decide +kernel
theorem d1_106 : decode method_3_code 106 = .ok (.areturn, 1) := by decide +kernel
theorem pn_rm1 : plainName "com/example/portcullis/portcullis/mcl/OpIsEvaluatedPinLaw" = true := by first | (simp [plainName, overriddenIn]; done) | decide +kernel
theorem pd_d1 : parseMethodDescriptor "(I)Lcom/example/portcullis/portcullis/mcl/EquationSystem$Op;" = some ⟨[.int], some (.object "com/example/portcullis/portcullis/mcl/EquationSystem$Op")⟩ := by decide +kernel
theorem ef_rm1 (m : MethodId) (x0 : Int32) : entryFrame m #[(.int x0)] 1 = mkF m 0 #[.val (.int x0)] [] := by first | (simp [entryFrame, mkF, argsToLocals, Value.category, maxLocals]; done) | rfl
def Q_rm1 (Z : State) (p1 : Int32) (f : Nat → Addr) (h0 : Heap) (n0 : Nat) (v : Option Value) (h : Heap) (L : List Loc) : Prop := v = some (.ref (f (own_ix p1))) ∧ Fr n0 L ∧ h = h0
set_option maxRecDepth 65536 in
set_option maxHeartbeats 40000000 in
theorem rm1 (l : Launch) (Z : State) (a0 : Array Value) (hw : ∀ d ∈ tables_1, d.before a0 Z = true) (ws : List Jvm.Cond) (p1 : Int32) (f : Nat → Addr) (h0 : Heap) (n0 : Nat) (Z0 : n0 ≤ h0.size) (S0 : Sta Z h0 "com/example/portcullis/portcullis/mcl/EquationSystem$Op" "TRUE" "Lcom/example/portcullis/portcullis/mcl/EquationSystem$Op;" (.ref (f 0))) (S1 : Sta Z h0 "com/example/portcullis/portcullis/mcl/EquationSystem$Op" "FALSE" "Lcom/example/portcullis/portcullis/mcl/EquationSystem$Op;" (.ref (f 1))) (S2 : Sta Z h0 "com/example/portcullis/portcullis/mcl/EquationSystem$Op" "AND" "Lcom/example/portcullis/portcullis/mcl/EquationSystem$Op;" (.ref (f 2))) (S3 : Sta Z h0 "com/example/portcullis/portcullis/mcl/EquationSystem$Op" "OR" "Lcom/example/portcullis/portcullis/mcl/EquationSystem$Op;" (.ref (f 3))) (S4 : Sta Z h0 "com/example/portcullis/portcullis/mcl/EquationSystem$Op" "DIAMOND" "Lcom/example/portcullis/portcullis/mcl/EquationSystem$Op;" (.ref (f 4))) (S5 : Sta Z h0 "com/example/portcullis/portcullis/mcl/EquationSystem$Op" "BOX" "Lcom/example/portcullis/portcullis/mcl/EquationSystem$Op;" (.ref (f 5))) (S6 : Sta Z h0 "com/example/portcullis/portcullis/mcl/EquationSystem$Op" "PREDICATE" "Lcom/example/portcullis/portcullis/mcl/EquationSystem$Op;" (.ref (f 6))) (S7 : Sta Z h0 "com/example/portcullis/portcullis/mcl/EquationSystem$Op" "NEGATED_PREDICATE" "Lcom/example/portcullis/portcullis/mcl/EquationSystem$Op;" (.ref (f 7))) (S8 : Sta Z h0 "com/example/portcullis/portcullis/mcl/EquationSystem$Op" "ASSIGN" "Lcom/example/portcullis/portcullis/mcl/EquationSystem$Op;" (.ref (f 8))) (S9 : Sta Z h0 "com/example/portcullis/portcullis/mcl/EquationSystem$Op" "EXISTS" "Lcom/example/portcullis/portcullis/mcl/EquationSystem$Op;" (.ref (f 9))) (S10 : Sta Z h0 "com/example/portcullis/portcullis/mcl/EquationSystem$Op" "FORALL" "Lcom/example/portcullis/portcullis/mcl/EquationSystem$Op;" (.ref (f 10))) (S11 : Sta Z h0 "com/example/portcullis/portcullis/mcl/EquationSystem$Op" "MATCH" "Lcom/example/portcullis/portcullis/mcl/EquationSystem$Op;" (.ref (f 11))) :
    MetFree l (⟨"com/example/portcullis/portcullis/mcl/OpIsEvaluatedPinLaw", "opOf", "(I)Lcom/example/portcullis/portcullis/mcl/EquationSystem$Op;"⟩ : MethodName) (head1 (Jvm.Cond.code (⟨"com/example/portcullis/portcullis/mcl/OpIsEvaluatedPinLaw", "opOf", "(I)Lcom/example/portcullis/portcullis/mcl/EquationSystem$Op;"⟩ : MethodName) method_3_code 1 (some (.object "com/example/portcullis/portcullis/mcl/EquationSystem$Op")) :: ws) ({ frames := 0, cells := 0, slots := 0, locals := 0 } : Room)) (fun as1 U => as1 = #[(.int p1)] ∧ Z.Warmed39 U.vm ∧ U.heap = h0) (fun _ _ _ _ _ => True) (fun _ U o U' => ∃ v L, o = .returned v ∧ Q_rm1 Z p1 f h0 n0 v U'.heap L ∧ FrameEnd U o U' L ({ frames := 0, cells := 0, slots := 0, locals := 0 } : Room).cells ({ frames := 0, cells := 0, slots := 0, locals := 0 } : Room).slots) := by
  refine MetFree.of_bodySF (plainFor_of_name pn_rm1) hisR ?_
  intro p e s m args below meth c s₁ Bd hml0 hP hK
  obtain ⟨rfl, hZ, hh⟩ := hP
  have hx := Bd.exec
  have hby := Bd.bytes
  have hml : c.maxLocals = 1 := hml0
  have hown : s.vm.findClass "com/example/portcullis/portcullis/mcl/OpIsEvaluatedPinLaw" = some m.cls := findClass_of_methodNamed Bd.named
  have hnm := (name_of_methodNamed Bd.named Bd.method).1
  have X0 : Stand p l e ({ frames := 0, cells := 0, slots := 0, locals := 0 } : Room) s m #[(.int p1)] below meth c s₁ [] 0 0 := Stand.of_body Bd
  have e0 : s₁.heap = h0 := by rw [← hh, Bd.state]; rfl
  have N0 := Fr.nil n0
  show own_Ends p e s below (Q_rm1 Z p1 f h0 n0) ({ frames := 0, cells := 0, slots := 0, locals := 0 } : Room).cells ({ frames := 0, cells := 0, slots := 0, locals := 0 } : Room).slots (s₁.setTop (entryFrame m #[(.int p1)] 1))
  refine own_st (U' := (s₁.setTop (mkF m 0 #[.val (.int p1)] []))) (fun _ k => castTop (ef_rm1 m p1) k) ?_
  refine own_st (U' := (s₁.setTop (mkF m 1 #[.val (.int p1)] [(.int p1)]))) (fun _ k => XS.iloadN X0.here hx rfl (hb hby d1_0) rfl k) ?_
  by_cases c0 : p1 = (0 : Int32)
  · skip
    refine own_st (U' := (s₁.setTop (mkF m 4 #[.val (.int p1)] []))) (fun _ k => XS.ifNo X0.here hx rfl (hb hby d1_1) rfl ((if0 _ _).trans (teq c0).2) k) ?_
    obtain ⟨T1, X1, e1, st1⟩ := getS X0 hx hZ hown (host := "") (hw _ (List.mem_of_getElem? (i := 5) rfl)) Via.refl e0 S0 (g := (mkF m 4 #[.val (.int p1)] [])) rfl (hb hby d1_4)
    refine own_st (U' := (T1.setTop (mkF m 7 #[.val (.int p1)] [(.ref (f 0))]))) st1 ?_
    have q : own_ix p1 = 0 := by simp [own_ix, c0]
    exact own_retA X1 hx (t := (.object "com/example/portcullis/portcullis/mcl/EquationSystem$Op")) Bd.returns Bd.notSynchronized rfl rfl (hb hby d1_7) (by decide) (by decide) (⟨by rw [q], N0, e1⟩)
  · skip
    refine own_st (U' := (s₁.setTop (mkF m 8 #[.val (.int p1)] []))) (fun _ k => XS.ifYes X0.here hx rfl (pc0 := 1) (pc' := 8) rfl (hb hby d1_1) rfl ((if0 _ _).trans (feq c0).2) (by decide) (by decide) k) ?_
    refine own_st (U' := (s₁.setTop (mkF m 9 #[.val (.int p1)] [(.int p1)]))) (fun _ k => XS.iloadN X0.here hx rfl (hb hby d1_8) rfl k) ?_
    refine own_st (U' := (s₁.setTop (mkF m 10 #[.val (.int p1)] [(.int (1 : Int32)), (.int p1)]))) (fun _ k => XS.iconst X0.here hx rfl (hb hby d1_9) k) ?_
    by_cases c1 : p1 = (1 : Int32)
    · skip
      refine own_st (U' := (s₁.setTop (mkF m 13 #[.val (.int p1)] []))) (fun _ k => XS.icmpNo X0.here hx rfl (hb hby d1_10) rfl (teq c1).2 k) ?_
      obtain ⟨T2, X2, e2, st2⟩ := getS X0 hx hZ hown (host := "") (hw _ (List.mem_of_getElem? (i := 34) rfl)) Via.refl e0 S1 (g := (mkF m 13 #[.val (.int p1)] [])) rfl (hb hby d1_13)
      refine own_st (U' := (T2.setTop (mkF m 16 #[.val (.int p1)] [(.ref (f 1))]))) st2 ?_
      have q : own_ix p1 = 1 := by simp [own_ix, c0, c1]
      exact own_retA X2 hx (t := (.object "com/example/portcullis/portcullis/mcl/EquationSystem$Op")) Bd.returns Bd.notSynchronized rfl rfl (hb hby d1_16) (by decide) (by decide) (⟨by rw [q], N0, e2⟩)
    · skip
      refine own_st (U' := (s₁.setTop (mkF m 17 #[.val (.int p1)] []))) (fun _ k => XS.icmpYes X0.here hx rfl (pc0 := 10) (pc' := 17) rfl (hb hby d1_10) rfl (feq c1).2 (by decide) (by decide) k) ?_
      refine own_st (U' := (s₁.setTop (mkF m 18 #[.val (.int p1)] [(.int p1)]))) (fun _ k => XS.iloadN X0.here hx rfl (hb hby d1_17) rfl k) ?_
      refine own_st (U' := (s₁.setTop (mkF m 19 #[.val (.int p1)] [(.int (2 : Int32)), (.int p1)]))) (fun _ k => XS.iconst X0.here hx rfl (hb hby d1_18) k) ?_
      by_cases c2 : p1 = (2 : Int32)
      · skip
        refine own_st (U' := (s₁.setTop (mkF m 22 #[.val (.int p1)] []))) (fun _ k => XS.icmpNo X0.here hx rfl (hb hby d1_19) rfl (teq c2).2 k) ?_
        obtain ⟨T3, X3, e3, st3⟩ := getS X0 hx hZ hown (host := "") (hw _ (List.mem_of_getElem? (i := 25) rfl)) Via.refl e0 S2 (g := (mkF m 22 #[.val (.int p1)] [])) rfl (hb hby d1_22)
        refine own_st (U' := (T3.setTop (mkF m 25 #[.val (.int p1)] [(.ref (f 2))]))) st3 ?_
        have q : own_ix p1 = 2 := by simp [own_ix, c0, c1, c2]
        exact own_retA X3 hx (t := (.object "com/example/portcullis/portcullis/mcl/EquationSystem$Op")) Bd.returns Bd.notSynchronized rfl rfl (hb hby d1_25) (by decide) (by decide) (⟨by rw [q], N0, e3⟩)
      · skip
        refine own_st (U' := (s₁.setTop (mkF m 26 #[.val (.int p1)] []))) (fun _ k => XS.icmpYes X0.here hx rfl (pc0 := 19) (pc' := 26) rfl (hb hby d1_19) rfl (feq c2).2 (by decide) (by decide) k) ?_
        refine own_st (U' := (s₁.setTop (mkF m 27 #[.val (.int p1)] [(.int p1)]))) (fun _ k => XS.iloadN X0.here hx rfl (hb hby d1_26) rfl k) ?_
        refine own_st (U' := (s₁.setTop (mkF m 28 #[.val (.int p1)] [(.int (3 : Int32)), (.int p1)]))) (fun _ k => XS.iconst X0.here hx rfl (hb hby d1_27) k) ?_
        by_cases c3 : p1 = (3 : Int32)
        · skip
          refine own_st (U' := (s₁.setTop (mkF m 31 #[.val (.int p1)] []))) (fun _ k => XS.icmpNo X0.here hx rfl (hb hby d1_28) rfl (teq c3).2 k) ?_
          obtain ⟨T4, X4, e4, st4⟩ := getS X0 hx hZ hown (host := "") (hw _ (List.mem_of_getElem? (i := 17) rfl)) Via.refl e0 S3 (g := (mkF m 31 #[.val (.int p1)] [])) rfl (hb hby d1_31)
          refine own_st (U' := (T4.setTop (mkF m 34 #[.val (.int p1)] [(.ref (f 3))]))) st4 ?_
          have q : own_ix p1 = 3 := by simp [own_ix, c0, c1, c2, c3]
          exact own_retA X4 hx (t := (.object "com/example/portcullis/portcullis/mcl/EquationSystem$Op")) Bd.returns Bd.notSynchronized rfl rfl (hb hby d1_34) (by decide) (by decide) (⟨by rw [q], N0, e4⟩)
        · skip
          refine own_st (U' := (s₁.setTop (mkF m 35 #[.val (.int p1)] []))) (fun _ k => XS.icmpYes X0.here hx rfl (pc0 := 28) (pc' := 35) rfl (hb hby d1_28) rfl (feq c3).2 (by decide) (by decide) k) ?_
          refine own_st (U' := (s₁.setTop (mkF m 36 #[.val (.int p1)] [(.int p1)]))) (fun _ k => XS.iloadN X0.here hx rfl (hb hby d1_35) rfl k) ?_
          refine own_st (U' := (s₁.setTop (mkF m 37 #[.val (.int p1)] [(.int (4 : Int32)), (.int p1)]))) (fun _ k => XS.iconst X0.here hx rfl (hb hby d1_36) k) ?_
          by_cases c4 : p1 = (4 : Int32)
          · skip
            refine own_st (U' := (s₁.setTop (mkF m 40 #[.val (.int p1)] []))) (fun _ k => XS.icmpNo X0.here hx rfl (hb hby d1_37) rfl (teq c4).2 k) ?_
            obtain ⟨T5, X5, e5, st5⟩ := getS X0 hx hZ hown (host := "") (hw _ (List.mem_of_getElem? (i := 30) rfl)) Via.refl e0 S4 (g := (mkF m 40 #[.val (.int p1)] [])) rfl (hb hby d1_40)
            refine own_st (U' := (T5.setTop (mkF m 43 #[.val (.int p1)] [(.ref (f 4))]))) st5 ?_
            have q : own_ix p1 = 4 := by simp [own_ix, c0, c1, c2, c3, c4]
            exact own_retA X5 hx (t := (.object "com/example/portcullis/portcullis/mcl/EquationSystem$Op")) Bd.returns Bd.notSynchronized rfl rfl (hb hby d1_43) (by decide) (by decide) (⟨by rw [q], N0, e5⟩)
          · skip
            refine own_st (U' := (s₁.setTop (mkF m 44 #[.val (.int p1)] []))) (fun _ k => XS.icmpYes X0.here hx rfl (pc0 := 37) (pc' := 44) rfl (hb hby d1_37) rfl (feq c4).2 (by decide) (by decide) k) ?_
            refine own_st (U' := (s₁.setTop (mkF m 45 #[.val (.int p1)] [(.int p1)]))) (fun _ k => XS.iloadN X0.here hx rfl (hb hby d1_44) rfl k) ?_
            refine own_st (U' := (s₁.setTop (mkF m 46 #[.val (.int p1)] [(.int (5 : Int32)), (.int p1)]))) (fun _ k => XS.iconst X0.here hx rfl (hb hby d1_45) k) ?_
            by_cases c5 : p1 = (5 : Int32)
            · skip
              refine own_st (U' := (s₁.setTop (mkF m 49 #[.val (.int p1)] []))) (fun _ k => XS.icmpNo X0.here hx rfl (hb hby d1_46) rfl (teq c5).2 k) ?_
              obtain ⟨T6, X6, e6, st6⟩ := getS X0 hx hZ hown (host := "") (hw _ (List.mem_of_getElem? (i := 40) rfl)) Via.refl e0 S5 (g := (mkF m 49 #[.val (.int p1)] [])) rfl (hb hby d1_49)
              refine own_st (U' := (T6.setTop (mkF m 52 #[.val (.int p1)] [(.ref (f 5))]))) st6 ?_
              have q : own_ix p1 = 5 := by simp [own_ix, c0, c1, c2, c3, c4, c5]
              exact own_retA X6 hx (t := (.object "com/example/portcullis/portcullis/mcl/EquationSystem$Op")) Bd.returns Bd.notSynchronized rfl rfl (hb hby d1_52) (by decide) (by decide) (⟨by rw [q], N0, e6⟩)
            · skip
              refine own_st (U' := (s₁.setTop (mkF m 53 #[.val (.int p1)] []))) (fun _ k => XS.icmpYes X0.here hx rfl (pc0 := 46) (pc' := 53) rfl (hb hby d1_46) rfl (feq c5).2 (by decide) (by decide) k) ?_
              refine own_st (U' := (s₁.setTop (mkF m 54 #[.val (.int p1)] [(.int p1)]))) (fun _ k => XS.iloadN X0.here hx rfl (hb hby d1_53) rfl k) ?_
              refine own_st (U' := (s₁.setTop (mkF m 56 #[.val (.int p1)] [(.int (6 : Int32)), (.int p1)]))) (fun _ k => XS.bipush X0.here hx rfl (hb hby d1_54) k) ?_
              by_cases c6 : p1 = (6 : Int32)
              · skip
                refine own_st (U' := (s₁.setTop (mkF m 59 #[.val (.int p1)] []))) (fun _ k => XS.icmpNo X0.here hx rfl (hb hby d1_56) rfl (teq c6).2 k) ?_
                obtain ⟨T7, X7, e7, st7⟩ := getS X0 hx hZ hown (host := "") (hw _ (List.mem_of_getElem? (i := 39) rfl)) Via.refl e0 S6 (g := (mkF m 59 #[.val (.int p1)] [])) rfl (hb hby d1_59)
                refine own_st (U' := (T7.setTop (mkF m 62 #[.val (.int p1)] [(.ref (f 6))]))) st7 ?_
                have q : own_ix p1 = 6 := by simp [own_ix, c0, c1, c2, c3, c4, c5, c6]
                exact own_retA X7 hx (t := (.object "com/example/portcullis/portcullis/mcl/EquationSystem$Op")) Bd.returns Bd.notSynchronized rfl rfl (hb hby d1_62) (by decide) (by decide) (⟨by rw [q], N0, e7⟩)
              · skip
                refine own_st (U' := (s₁.setTop (mkF m 63 #[.val (.int p1)] []))) (fun _ k => XS.icmpYes X0.here hx rfl (pc0 := 56) (pc' := 63) rfl (hb hby d1_56) rfl (feq c6).2 (by decide) (by decide) k) ?_
                refine own_st (U' := (s₁.setTop (mkF m 64 #[.val (.int p1)] [(.int p1)]))) (fun _ k => XS.iloadN X0.here hx rfl (hb hby d1_63) rfl k) ?_
                refine own_st (U' := (s₁.setTop (mkF m 66 #[.val (.int p1)] [(.int (7 : Int32)), (.int p1)]))) (fun _ k => XS.bipush X0.here hx rfl (hb hby d1_64) k) ?_
                by_cases c7 : p1 = (7 : Int32)
                · skip
                  refine own_st (U' := (s₁.setTop (mkF m 69 #[.val (.int p1)] []))) (fun _ k => XS.icmpNo X0.here hx rfl (hb hby d1_66) rfl (teq c7).2 k) ?_
                  obtain ⟨T8, X8, e8, st8⟩ := getS X0 hx hZ hown (host := "") (hw _ (List.mem_of_getElem? (i := 27) rfl)) Via.refl e0 S7 (g := (mkF m 69 #[.val (.int p1)] [])) rfl (hb hby d1_69)
                  refine own_st (U' := (T8.setTop (mkF m 72 #[.val (.int p1)] [(.ref (f 7))]))) st8 ?_
                  have q : own_ix p1 = 7 := by simp [own_ix, c0, c1, c2, c3, c4, c5, c6, c7]
                  exact own_retA X8 hx (t := (.object "com/example/portcullis/portcullis/mcl/EquationSystem$Op")) Bd.returns Bd.notSynchronized rfl rfl (hb hby d1_72) (by decide) (by decide) (⟨by rw [q], N0, e8⟩)
                · skip
                  refine own_st (U' := (s₁.setTop (mkF m 73 #[.val (.int p1)] []))) (fun _ k => XS.icmpYes X0.here hx rfl (pc0 := 66) (pc' := 73) rfl (hb hby d1_66) rfl (feq c7).2 (by decide) (by decide) k) ?_
                  refine own_st (U' := (s₁.setTop (mkF m 74 #[.val (.int p1)] [(.int p1)]))) (fun _ k => XS.iloadN X0.here hx rfl (hb hby d1_73) rfl k) ?_
                  refine own_st (U' := (s₁.setTop (mkF m 76 #[.val (.int p1)] [(.int (8 : Int32)), (.int p1)]))) (fun _ k => XS.bipush X0.here hx rfl (hb hby d1_74) k) ?_
                  by_cases c8 : p1 = (8 : Int32)
                  · skip
                    refine own_st (U' := (s₁.setTop (mkF m 79 #[.val (.int p1)] []))) (fun _ k => XS.icmpNo X0.here hx rfl (hb hby d1_76) rfl (teq c8).2 k) ?_
                    obtain ⟨T9, X9, e9, st9⟩ := getS X0 hx hZ hown (host := "") (hw _ (List.mem_of_getElem? (i := 32) rfl)) Via.refl e0 S8 (g := (mkF m 79 #[.val (.int p1)] [])) rfl (hb hby d1_79)
                    refine own_st (U' := (T9.setTop (mkF m 82 #[.val (.int p1)] [(.ref (f 8))]))) st9 ?_
                    have q : own_ix p1 = 8 := by simp [own_ix, c0, c1, c2, c3, c4, c5, c6, c7, c8]
                    exact own_retA X9 hx (t := (.object "com/example/portcullis/portcullis/mcl/EquationSystem$Op")) Bd.returns Bd.notSynchronized rfl rfl (hb hby d1_82) (by decide) (by decide) (⟨by rw [q], N0, e9⟩)
                  · skip
                    refine own_st (U' := (s₁.setTop (mkF m 83 #[.val (.int p1)] []))) (fun _ k => XS.icmpYes X0.here hx rfl (pc0 := 76) (pc' := 83) rfl (hb hby d1_76) rfl (feq c8).2 (by decide) (by decide) k) ?_
                    refine own_st (U' := (s₁.setTop (mkF m 84 #[.val (.int p1)] [(.int p1)]))) (fun _ k => XS.iloadN X0.here hx rfl (hb hby d1_83) rfl k) ?_
                    refine own_st (U' := (s₁.setTop (mkF m 86 #[.val (.int p1)] [(.int (9 : Int32)), (.int p1)]))) (fun _ k => XS.bipush X0.here hx rfl (hb hby d1_84) k) ?_
                    by_cases c9 : p1 = (9 : Int32)
                    · skip
                      refine own_st (U' := (s₁.setTop (mkF m 89 #[.val (.int p1)] []))) (fun _ k => XS.icmpNo X0.here hx rfl (hb hby d1_86) rfl (teq c9).2 k) ?_
                      obtain ⟨T10, X10, e10, st10⟩ := getS X0 hx hZ hown (host := "") (hw _ (List.mem_of_getElem? (i := 37) rfl)) Via.refl e0 S9 (g := (mkF m 89 #[.val (.int p1)] [])) rfl (hb hby d1_89)
                      refine own_st (U' := (T10.setTop (mkF m 92 #[.val (.int p1)] [(.ref (f 9))]))) st10 ?_
                      have q : own_ix p1 = 9 := by simp [own_ix, c0, c1, c2, c3, c4, c5, c6, c7, c8, c9]
                      exact own_retA X10 hx (t := (.object "com/example/portcullis/portcullis/mcl/EquationSystem$Op")) Bd.returns Bd.notSynchronized rfl rfl (hb hby d1_92) (by decide) (by decide) (⟨by rw [q], N0, e10⟩)
                    · skip
                      refine own_st (U' := (s₁.setTop (mkF m 93 #[.val (.int p1)] []))) (fun _ k => XS.icmpYes X0.here hx rfl (pc0 := 86) (pc' := 93) rfl (hb hby d1_86) rfl (feq c9).2 (by decide) (by decide) k) ?_
                      refine own_st (U' := (s₁.setTop (mkF m 94 #[.val (.int p1)] [(.int p1)]))) (fun _ k => XS.iloadN X0.here hx rfl (hb hby d1_93) rfl k) ?_
                      refine own_st (U' := (s₁.setTop (mkF m 96 #[.val (.int p1)] [(.int (10 : Int32)), (.int p1)]))) (fun _ k => XS.bipush X0.here hx rfl (hb hby d1_94) k) ?_
                      by_cases c10 : p1 = (10 : Int32)
                      · skip
                        refine own_st (U' := (s₁.setTop (mkF m 99 #[.val (.int p1)] []))) (fun _ k => XS.icmpNo X0.here hx rfl (hb hby d1_96) rfl (teq c10).2 k) ?_
                        obtain ⟨T11, X11, e11, st11⟩ := getS X0 hx hZ hown (host := "") (hw _ (List.mem_of_getElem? (i := 35) rfl)) Via.refl e0 S10 (g := (mkF m 99 #[.val (.int p1)] [])) rfl (hb hby d1_99)
                        refine own_st (U' := (T11.setTop (mkF m 102 #[.val (.int p1)] [(.ref (f 10))]))) st11 ?_
                        have q : own_ix p1 = 10 := by simp [own_ix, c0, c1, c2, c3, c4, c5, c6, c7, c8, c9, c10]
                        exact own_retA X11 hx (t := (.object "com/example/portcullis/portcullis/mcl/EquationSystem$Op")) Bd.returns Bd.notSynchronized rfl rfl (hb hby d1_102) (by decide) (by decide) (⟨by rw [q], N0, e11⟩)
                      · skip
                        refine own_st (U' := (s₁.setTop (mkF m 103 #[.val (.int p1)] []))) (fun _ k => XS.icmpYes X0.here hx rfl (pc0 := 96) (pc' := 103) rfl (hb hby d1_96) rfl (feq c10).2 (by decide) (by decide) k) ?_
                        obtain ⟨T12, X12, e12, st12⟩ := getS X0 hx hZ hown (host := "") (hw _ (List.mem_of_getElem? (i := 28) rfl)) Via.refl e0 S11 (g := (mkF m 103 #[.val (.int p1)] [])) rfl (hb hby d1_103)
                        refine own_st (U' := (T12.setTop (mkF m 106 #[.val (.int p1)] [(.ref (f 11))]))) st12 ?_
                        have q : own_ix p1 = 11 := by simp [own_ix, c0, c1, c2, c3, c4, c5, c6, c7, c8, c9, c10]
                        exact own_retA X12 hx (t := (.object "com/example/portcullis/portcullis/mcl/EquationSystem$Op")) Bd.returns Bd.notSynchronized rfl rfl (hb hby d1_106) (by decide) (by decide) (⟨by rw [q], N0, e12⟩)
theorem d2_0 : decode prog_113_method_5_code 0 = .ok (.aload_n 0, 1) := by decide +kernel
theorem d2_1 : decode prog_113_method_5_code 1 = .ok (.getstatic 3, 3) := by decide +kernel
theorem d2_4 : decode prog_113_method_5_code 4 = .ok (.if_acmp .eq 24, 3) := by decide +kernel
theorem d2_7 : decode prog_113_method_5_code 7 = .ok (.aload_n 0, 1) := by decide +kernel
theorem d2_8 : decode prog_113_method_5_code 8 = .ok (.getstatic 7, 3) := by decide +kernel
theorem d2_11 : decode prog_113_method_5_code 11 = .ok (.if_acmp .eq 17, 3) := by decide +kernel
theorem d2_14 : decode prog_113_method_5_code 14 = .ok (.aload_n 0, 1) := by decide +kernel
theorem d2_15 : decode prog_113_method_5_code 15 = .ok (.getstatic 22, 3) := by decide +kernel
theorem d2_18 : decode prog_113_method_5_code 18 = .ok (.if_acmp .eq 10, 3) := by decide +kernel
theorem d2_21 : decode prog_113_method_5_code 21 = .ok (.aload_n 0, 1) := by decide +kernel
theorem d2_22 : decode prog_113_method_5_code 22 = .ok (.getstatic 25, 3) := by decide +kernel
theorem d2_25 : decode prog_113_method_5_code 25 = .ok (.if_acmp .ne 7, 3) := by decide +kernel
theorem d2_28 : decode prog_113_method_5_code 28 = .ok (.iconst 1, 1) := by decide +kernel
theorem d2_29 : decode prog_113_method_5_code 29 = .ok (.goto 4, 3) := by decide +kernel
theorem d2_32 : decode prog_113_method_5_code 32 = .ok (.iconst 0, 1) := by decide +kernel
theorem d2_33 : decode prog_113_method_5_code 33 = .ok (.ireturn, 1) := by decide +kernel
theorem pn_rm2 : plainName "com/example/portcullis/portcullis/mcl/EquationSystem$Op" = true := by first | (simp [plainName, overriddenIn]; done) | decide +kernel
theorem pd_d2 : parseMethodDescriptor "()Z" = some ⟨[], some .boolean⟩ := by decide +kernel
theorem ef_rm2 (m : MethodId) (x0 : Addr) : entryFrame m #[(.ref x0)] 1 = mkF m 0 #[.val (.ref x0)] [] := by first | (simp [entryFrame, mkF, argsToLocals, Value.category, maxLocals]; done) | rfl
def Q_rm2 (Z : State) (a : Addr) (f : Nat → Addr) (h0 : Heap) (n0 : Nat) (v : Option Value) (h : Heap) (L : List Loc) : Prop := v = some (.int (own_ev f a)) ∧ Fr n0 L ∧ h = h0
set_option maxRecDepth 65536 in
set_option maxHeartbeats 40000000 in
theorem rm2 (l : Launch) (Z : State) (a0 : Array Value) (hw : ∀ d ∈ tables_1, d.before a0 Z = true) (ws : List Jvm.Cond) (a : Addr) (f : Nat → Addr) (h0 : Heap) (n0 : Nat) (Z0 : n0 ≤ h0.size) (S0 : Sta Z h0 "com/example/portcullis/portcullis/mcl/EquationSystem$Op" "TRUE" "Lcom/example/portcullis/portcullis/mcl/EquationSystem$Op;" (.ref (f 0))) (S1 : Sta Z h0 "com/example/portcullis/portcullis/mcl/EquationSystem$Op" "FALSE" "Lcom/example/portcullis/portcullis/mcl/EquationSystem$Op;" (.ref (f 1))) (S6 : Sta Z h0 "com/example/portcullis/portcullis/mcl/EquationSystem$Op" "PREDICATE" "Lcom/example/portcullis/portcullis/mcl/EquationSystem$Op;" (.ref (f 6))) (S7 : Sta Z h0 "com/example/portcullis/portcullis/mcl/EquationSystem$Op" "NEGATED_PREDICATE" "Lcom/example/portcullis/portcullis/mcl/EquationSystem$Op;" (.ref (f 7))) :
    MetFree l (⟨"com/example/portcullis/portcullis/mcl/EquationSystem$Op", "isEvaluated", "()Z"⟩ : MethodName) (head1 (Jvm.Cond.code (⟨"com/example/portcullis/portcullis/mcl/EquationSystem$Op", "isEvaluated", "()Z"⟩ : MethodName) prog_113_method_5_code 1 (some .boolean) :: ws) ({ frames := 0, cells := 0, slots := 0, locals := 0 } : Room)) (fun as1 U => as1 = #[(.ref a)] ∧ Z.Warmed39 U.vm ∧ U.heap = h0) (fun _ _ _ _ _ => True) (fun _ U o U' => ∃ v L, o = .returned v ∧ Q_rm2 Z a f h0 n0 v U'.heap L ∧ FrameEnd U o U' L ({ frames := 0, cells := 0, slots := 0, locals := 0 } : Room).cells ({ frames := 0, cells := 0, slots := 0, locals := 0 } : Room).slots) := by
  refine MetFree.of_bodySF (plainFor_of_name pn_rm2) hisR ?_
  intro p e s m args below meth c s₁ Bd hml0 hP hK
  obtain ⟨rfl, hZ, hh⟩ := hP
  have hx := Bd.exec
  have hby := Bd.bytes
  have hml : c.maxLocals = 1 := hml0
  have hown : s.vm.findClass "com/example/portcullis/portcullis/mcl/EquationSystem$Op" = some m.cls := findClass_of_methodNamed Bd.named
  have hnm := (name_of_methodNamed Bd.named Bd.method).1
  have X0 : Stand p l e ({ frames := 0, cells := 0, slots := 0, locals := 0 } : Room) s m #[(.ref a)] below meth c s₁ [] 0 0 := Stand.of_body Bd
  have e0 : s₁.heap = h0 := by rw [← hh, Bd.state]; rfl
  have N0 := Fr.nil n0
  show own_Ends p e s below (Q_rm2 Z a f h0 n0) ({ frames := 0, cells := 0, slots := 0, locals := 0 } : Room).cells ({ frames := 0, cells := 0, slots := 0, locals := 0 } : Room).slots (s₁.setTop (entryFrame m #[(.ref a)] 1))
  refine own_st (U' := (s₁.setTop (mkF m 0 #[.val (.ref a)] []))) (fun _ k => castTop (ef_rm2 m a) k) ?_
  refine own_st (U' := (s₁.setTop (mkF m 1 #[.val (.ref a)] [(.ref a)]))) (fun _ k => XS.aloadN X0.here hx rfl (hb hby d2_0) rfl rfl k) ?_
  obtain ⟨T13, X13, e13, st13⟩ := getS X0 hx hZ hown (host := "") (hw _ (List.mem_of_getElem? (i := 13) rfl)) Via.refl e0 S0 (g := (mkF m 1 #[.val (.ref a)] [(.ref a)])) rfl (hb hby d2_1)
  refine own_st (U' := (T13.setTop (mkF m 4 #[.val (.ref a)] [(.ref (f 0)), (.ref a)]))) st13 ?_
  by_cases c0 : a = f 0
  · skip
    refine own_st (U' := (T13.setTop (mkF m 28 #[.val (.ref a)] []))) (fun _ k => Jvm.RoadKit.acmp (g := (mkF m 4 #[.val (.ref a)] [(.ref (f 0)), (.ref a)])) X13 hx rfl rfl rfl (pc0 := 4) (pc' := 28) (same := true) rfl (hb hby d2_4) rfl (decide_eq_true (congrArg Value.ref c0)) (by decide) (by decide) k) ?_
    have q : own_ev f a = 1 := by simp [own_ev, c0]
    refine own_st (U' := (T13.setTop (mkF m 29 #[.val (.ref a)] [(.int (1 : Int32))]))) (fun _ k => XS.iconst X13.here hx rfl (hb hby d2_28) k) ?_
    refine own_st (U' := (T13.setTop (mkF m 33 #[.val (.ref a)] [(.int (1 : Int32))]))) (fun _ k => XS.goto X13.here hx rfl (pc0 := 29) (pc' := 33) rfl (hb hby d2_29) (by decide) (by decide) k) ?_
    exact own_retN X13 hx (t := .boolean) Bd.returns Bd.notSynchronized (by simp) rfl (hb hby d2_33) (by decide) (by decide) (⟨by rw [q], N0, e13⟩)
  · skip
    refine own_st (U' := (T13.setTop (mkF m 7 #[.val (.ref a)] []))) (fun _ k => Jvm.RoadKit.acmp (g := (mkF m 4 #[.val (.ref a)] [(.ref (f 0)), (.ref a)])) X13 hx rfl rfl rfl (pc0 := 4) (pc' := 7) (same := false) rfl (hb hby d2_4) rfl (decide_eq_false fun q => c0 (Value.ref.inj q)) (by decide) (by decide) k) ?_
    refine own_st (U' := (T13.setTop (mkF m 8 #[.val (.ref a)] [(.ref a)]))) (fun _ k => XS.aloadN X13.here hx rfl (hb hby d2_7) rfl rfl k) ?_
    obtain ⟨T14, X14, e14, st14⟩ := getS X13 hx hZ hown (host := "") (hw _ (List.mem_of_getElem? (i := 19) rfl)) Via.refl e13 S1 (g := (mkF m 8 #[.val (.ref a)] [(.ref a)])) rfl (hb hby d2_8)
    refine own_st (U' := (T14.setTop (mkF m 11 #[.val (.ref a)] [(.ref (f 1)), (.ref a)]))) st14 ?_
    by_cases c1 : a = f 1
    · skip
      refine own_st (U' := (T14.setTop (mkF m 28 #[.val (.ref a)] []))) (fun _ k => Jvm.RoadKit.acmp (g := (mkF m 11 #[.val (.ref a)] [(.ref (f 1)), (.ref a)])) X14 hx rfl rfl rfl (pc0 := 11) (pc' := 28) (same := true) rfl (hb hby d2_11) rfl (decide_eq_true (congrArg Value.ref c1)) (by decide) (by decide) k) ?_
      have q : own_ev f a = 1 := by simp [own_ev, c0, c1]
      refine own_st (U' := (T14.setTop (mkF m 29 #[.val (.ref a)] [(.int (1 : Int32))]))) (fun _ k => XS.iconst X14.here hx rfl (hb hby d2_28) k) ?_
      refine own_st (U' := (T14.setTop (mkF m 33 #[.val (.ref a)] [(.int (1 : Int32))]))) (fun _ k => XS.goto X14.here hx rfl (pc0 := 29) (pc' := 33) rfl (hb hby d2_29) (by decide) (by decide) k) ?_
      exact own_retN X14 hx (t := .boolean) Bd.returns Bd.notSynchronized (by simp) rfl (hb hby d2_33) (by decide) (by decide) (⟨by rw [q], N0, e14⟩)
    · skip
      refine own_st (U' := (T14.setTop (mkF m 14 #[.val (.ref a)] []))) (fun _ k => Jvm.RoadKit.acmp (g := (mkF m 11 #[.val (.ref a)] [(.ref (f 1)), (.ref a)])) X14 hx rfl rfl rfl (pc0 := 11) (pc' := 14) (same := false) rfl (hb hby d2_11) rfl (decide_eq_false fun q => c1 (Value.ref.inj q)) (by decide) (by decide) k) ?_
      refine own_st (U' := (T14.setTop (mkF m 15 #[.val (.ref a)] [(.ref a)]))) (fun _ k => XS.aloadN X14.here hx rfl (hb hby d2_14) rfl rfl k) ?_
      obtain ⟨T15, X15, e15, st15⟩ := getS X14 hx hZ hown (host := "") (hw _ (List.mem_of_getElem? (i := 21) rfl)) Via.refl e14 S6 (g := (mkF m 15 #[.val (.ref a)] [(.ref a)])) rfl (hb hby d2_15)
      refine own_st (U' := (T15.setTop (mkF m 18 #[.val (.ref a)] [(.ref (f 6)), (.ref a)]))) st15 ?_
      by_cases c2 : a = f 6
      · skip
        refine own_st (U' := (T15.setTop (mkF m 28 #[.val (.ref a)] []))) (fun _ k => Jvm.RoadKit.acmp (g := (mkF m 18 #[.val (.ref a)] [(.ref (f 6)), (.ref a)])) X15 hx rfl rfl rfl (pc0 := 18) (pc' := 28) (same := true) rfl (hb hby d2_18) rfl (decide_eq_true (congrArg Value.ref c2)) (by decide) (by decide) k) ?_
        have q : own_ev f a = 1 := by simp [own_ev, c0, c1, c2]
        refine own_st (U' := (T15.setTop (mkF m 29 #[.val (.ref a)] [(.int (1 : Int32))]))) (fun _ k => XS.iconst X15.here hx rfl (hb hby d2_28) k) ?_
        refine own_st (U' := (T15.setTop (mkF m 33 #[.val (.ref a)] [(.int (1 : Int32))]))) (fun _ k => XS.goto X15.here hx rfl (pc0 := 29) (pc' := 33) rfl (hb hby d2_29) (by decide) (by decide) k) ?_
        exact own_retN X15 hx (t := .boolean) Bd.returns Bd.notSynchronized (by simp) rfl (hb hby d2_33) (by decide) (by decide) (⟨by rw [q], N0, e15⟩)
      · skip
        refine own_st (U' := (T15.setTop (mkF m 21 #[.val (.ref a)] []))) (fun _ k => Jvm.RoadKit.acmp (g := (mkF m 18 #[.val (.ref a)] [(.ref (f 6)), (.ref a)])) X15 hx rfl rfl rfl (pc0 := 18) (pc' := 21) (same := false) rfl (hb hby d2_18) rfl (decide_eq_false fun q => c2 (Value.ref.inj q)) (by decide) (by decide) k) ?_
        refine own_st (U' := (T15.setTop (mkF m 22 #[.val (.ref a)] [(.ref a)]))) (fun _ k => XS.aloadN X15.here hx rfl (hb hby d2_21) rfl rfl k) ?_
        obtain ⟨T16, X16, e16, st16⟩ := getS X15 hx hZ hown (host := "") (hw _ (List.mem_of_getElem? (i := 23) rfl)) Via.refl e15 S7 (g := (mkF m 22 #[.val (.ref a)] [(.ref a)])) rfl (hb hby d2_22)
        refine own_st (U' := (T16.setTop (mkF m 25 #[.val (.ref a)] [(.ref (f 7)), (.ref a)]))) st16 ?_
        by_cases c3 : a = f 7
        · skip
          refine own_st (U' := (T16.setTop (mkF m 28 #[.val (.ref a)] []))) (fun _ k => Jvm.RoadKit.acmp (g := (mkF m 25 #[.val (.ref a)] [(.ref (f 7)), (.ref a)])) X16 hx rfl rfl rfl (pc0 := 25) (pc' := 28) (same := true) rfl (hb hby d2_25) rfl (decide_eq_true (congrArg Value.ref c3)) (by decide) (by decide) k) ?_
          have q : own_ev f a = 1 := by simp [own_ev, c0, c1, c2, c3]
          refine own_st (U' := (T16.setTop (mkF m 29 #[.val (.ref a)] [(.int (1 : Int32))]))) (fun _ k => XS.iconst X16.here hx rfl (hb hby d2_28) k) ?_
          refine own_st (U' := (T16.setTop (mkF m 33 #[.val (.ref a)] [(.int (1 : Int32))]))) (fun _ k => XS.goto X16.here hx rfl (pc0 := 29) (pc' := 33) rfl (hb hby d2_29) (by decide) (by decide) k) ?_
          exact own_retN X16 hx (t := .boolean) Bd.returns Bd.notSynchronized (by simp) rfl (hb hby d2_33) (by decide) (by decide) (⟨by rw [q], N0, e16⟩)
        · skip
          refine own_st (U' := (T16.setTop (mkF m 32 #[.val (.ref a)] []))) (fun _ k => Jvm.RoadKit.acmp (g := (mkF m 25 #[.val (.ref a)] [(.ref (f 7)), (.ref a)])) X16 hx rfl rfl rfl (pc0 := 25) (pc' := 32) (same := false) rfl (hb hby d2_25) rfl (decide_eq_false fun q => c3 (Value.ref.inj q)) (by decide) (by decide) k) ?_
          have q : own_ev f a = 0 := by simp [own_ev, c0, c1, c2, c3]
          refine own_st (U' := (T16.setTop (mkF m 33 #[.val (.ref a)] [(.int (0 : Int32))]))) (fun _ k => XS.iconst X16.here hx rfl (hb hby d2_32) k) ?_
          exact own_retN X16 hx (t := .boolean) Bd.returns Bd.notSynchronized (by simp) rfl (hb hby d2_33) (by decide) (by decide) (⟨by rw [q], N0, e16⟩)
theorem d3_0 : decode method_4_code 0 = .ok (.iload_n 0, 1) := by decide +kernel
theorem d3_1 : decode method_4_code 1 = .ok (.ifCond .ne 5, 3) := by decide +kernel
theorem d3_4 : decode method_4_code 4 = .ok (.iconst 1, 1) := by decide +kernel
theorem d3_5 : decode method_4_code 5 = .ok (.ireturn, 1) := by decide +kernel
theorem d3_6 : decode method_4_code 6 = .ok (.iload_n 0, 1) := by decide +kernel
theorem d3_7 : decode method_4_code 7 = .ok (.iconst 1, 1) := by decide +kernel
theorem d3_8 : decode method_4_code 8 = .ok (.if_icmp .ne 5, 3) := by decide +kernel
theorem d3_11 : decode method_4_code 11 = .ok (.iconst 1, 1) := by decide +kernel
theorem d3_12 : decode method_4_code 12 = .ok (.ireturn, 1) := by decide +kernel
theorem d3_13 : decode method_4_code 13 = .ok (.iload_n 0, 1) := by decide +kernel
theorem d3_14 : decode method_4_code 14 = .ok (.bipush 6, 2) := by decide +kernel
theorem d3_16 : decode method_4_code 16 = .ok (.if_icmp .ne 5, 3) := by decide +kernel
theorem d3_19 : decode method_4_code 19 = .ok (.iconst 1, 1) := by decide +kernel
theorem d3_20 : decode method_4_code 20 = .ok (.ireturn, 1) := by decide +kernel
theorem d3_21 : decode method_4_code 21 = .ok (.iload_n 0, 1) := by decide +kernel
theorem d3_22 : decode method_4_code 22 = .ok (.bipush 7, 2) := by decide +kernel
theorem d3_24 : decode method_4_code 24 = .ok (.if_icmp .ne 5, 3) := by decide +kernel
theorem d3_27 : decode method_4_code 27 = .ok (.iconst 1, 1) := by decide +kernel
theorem d3_28 : decode method_4_code 28 = .ok (.ireturn, 1) := by decide +kernel
theorem d3_29 : decode method_4_code 29 = .ok (.iconst 0, 1) := by decide +kernel
theorem d3_30 : decode method_4_code 30 = .ok (.ireturn, 1) := by decide +kernel
theorem pn_rm3 : plainName "com/example/portcullis/portcullis/mcl/OpIsEvaluatedPinLaw" = true := by first | (simp [plainName, overriddenIn]; done) | decide +kernel
theorem pd_d3 : parseMethodDescriptor "(I)Z" = some ⟨[.int], some .boolean⟩ := by decide +kernel
theorem ef_rm3 (m : MethodId) (x0 : Int32) : entryFrame m #[(.int x0)] 1 = mkF m 0 #[.val (.int x0)] [] := by first | (simp [entryFrame, mkF, argsToLocals, Value.category, maxLocals]; done) | rfl
def Q_rm3 (Z : State) (p1 : Int32) (h0 : Heap) (n0 : Nat) (v : Option Value) (h : Heap) (L : List Loc) : Prop := v = some (.int (own_exp p1)) ∧ Fr n0 L ∧ h = h0
set_option maxRecDepth 65536 in
set_option maxHeartbeats 40000000 in
theorem rm3 (l : Launch) (Z : State) (a0 : Array Value) (hw : ∀ d ∈ tables_1, d.before a0 Z = true) (ws : List Jvm.Cond) (p1 : Int32) (h0 : Heap) (n0 : Nat) (Z0 : n0 ≤ h0.size)  :
    MetFree l (⟨"com/example/portcullis/portcullis/mcl/OpIsEvaluatedPinLaw", "expected", "(I)Z"⟩ : MethodName) (head1 (Jvm.Cond.code (⟨"com/example/portcullis/portcullis/mcl/OpIsEvaluatedPinLaw", "expected", "(I)Z"⟩ : MethodName) method_4_code 1 (some .boolean) :: ws) ({ frames := 0, cells := 0, slots := 0, locals := 0 } : Room)) (fun as1 U => as1 = #[(.int p1)] ∧ Z.Warmed39 U.vm ∧ U.heap = h0) (fun _ _ _ _ _ => True) (fun _ U o U' => ∃ v L, o = .returned v ∧ Q_rm3 Z p1 h0 n0 v U'.heap L ∧ FrameEnd U o U' L ({ frames := 0, cells := 0, slots := 0, locals := 0 } : Room).cells ({ frames := 0, cells := 0, slots := 0, locals := 0 } : Room).slots) := by
  refine MetFree.of_bodySF (plainFor_of_name pn_rm3) hisR ?_
  intro p e s m args below meth c s₁ Bd hml0 hP hK
  obtain ⟨rfl, hZ, hh⟩ := hP
  have hx := Bd.exec
  have hby := Bd.bytes
  have hml : c.maxLocals = 1 := hml0
  have hown : s.vm.findClass "com/example/portcullis/portcullis/mcl/OpIsEvaluatedPinLaw" = some m.cls := findClass_of_methodNamed Bd.named
  have hnm := (name_of_methodNamed Bd.named Bd.method).1
  have X0 : Stand p l e ({ frames := 0, cells := 0, slots := 0, locals := 0 } : Room) s m #[(.int p1)] below meth c s₁ [] 0 0 := Stand.of_body Bd
  have e0 : s₁.heap = h0 := by rw [← hh, Bd.state]; rfl
  have N0 := Fr.nil n0
  show own_Ends p e s below (Q_rm3 Z p1 h0 n0) ({ frames := 0, cells := 0, slots := 0, locals := 0 } : Room).cells ({ frames := 0, cells := 0, slots := 0, locals := 0 } : Room).slots (s₁.setTop (entryFrame m #[(.int p1)] 1))
  refine own_st (U' := (s₁.setTop (mkF m 0 #[.val (.int p1)] []))) (fun _ k => castTop (ef_rm3 m p1) k) ?_
  refine own_st (U' := (s₁.setTop (mkF m 1 #[.val (.int p1)] [(.int p1)]))) (fun _ k => XS.iloadN X0.here hx rfl (hb hby d3_0) rfl k) ?_
  by_cases c0 : p1 = (0 : Int32)
  · skip
    refine own_st (U' := (s₁.setTop (mkF m 4 #[.val (.int p1)] []))) (fun _ k => XS.ifNo X0.here hx rfl (hb hby d3_1) rfl ((if0 _ _).trans (teq c0).2) k) ?_
    have q : own_exp p1 = 1 := by simp [own_exp, c0]
    refine own_st (U' := (s₁.setTop (mkF m 5 #[.val (.int p1)] [(.int (1 : Int32))]))) (fun _ k => XS.iconst X0.here hx rfl (hb hby d3_4) k) ?_
    exact own_retN X0 hx (t := .boolean) Bd.returns Bd.notSynchronized (by simp) rfl (hb hby d3_5) (by decide) (by decide) (⟨by rw [q], N0, e0⟩)
  · skip
    refine own_st (U' := (s₁.setTop (mkF m 6 #[.val (.int p1)] []))) (fun _ k => XS.ifYes X0.here hx rfl (pc0 := 1) (pc' := 6) rfl (hb hby d3_1) rfl ((if0 _ _).trans (feq c0).2) (by decide) (by decide) k) ?_
    refine own_st (U' := (s₁.setTop (mkF m 7 #[.val (.int p1)] [(.int p1)]))) (fun _ k => XS.iloadN X0.here hx rfl (hb hby d3_6) rfl k) ?_
    refine own_st (U' := (s₁.setTop (mkF m 8 #[.val (.int p1)] [(.int (1 : Int32)), (.int p1)]))) (fun _ k => XS.iconst X0.here hx rfl (hb hby d3_7) k) ?_
    by_cases c1 : p1 = (1 : Int32)
    · skip
      refine own_st (U' := (s₁.setTop (mkF m 11 #[.val (.int p1)] []))) (fun _ k => XS.icmpNo X0.here hx rfl (hb hby d3_8) rfl (teq c1).2 k) ?_
      have q : own_exp p1 = 1 := by simp [own_exp, c0, c1]
      refine own_st (U' := (s₁.setTop (mkF m 12 #[.val (.int p1)] [(.int (1 : Int32))]))) (fun _ k => XS.iconst X0.here hx rfl (hb hby d3_11) k) ?_
      exact own_retN X0 hx (t := .boolean) Bd.returns Bd.notSynchronized (by simp) rfl (hb hby d3_12) (by decide) (by decide) (⟨by rw [q], N0, e0⟩)
    · skip
      refine own_st (U' := (s₁.setTop (mkF m 13 #[.val (.int p1)] []))) (fun _ k => XS.icmpYes X0.here hx rfl (pc0 := 8) (pc' := 13) rfl (hb hby d3_8) rfl (feq c1).2 (by decide) (by decide) k) ?_
      refine own_st (U' := (s₁.setTop (mkF m 14 #[.val (.int p1)] [(.int p1)]))) (fun _ k => XS.iloadN X0.here hx rfl (hb hby d3_13) rfl k) ?_
      refine own_st (U' := (s₁.setTop (mkF m 16 #[.val (.int p1)] [(.int (6 : Int32)), (.int p1)]))) (fun _ k => XS.bipush X0.here hx rfl (hb hby d3_14) k) ?_
      by_cases c2 : p1 = (6 : Int32)
      · skip
        refine own_st (U' := (s₁.setTop (mkF m 19 #[.val (.int p1)] []))) (fun _ k => XS.icmpNo X0.here hx rfl (hb hby d3_16) rfl (teq c2).2 k) ?_
        have q : own_exp p1 = 1 := by simp [own_exp, c0, c1, c2]
        refine own_st (U' := (s₁.setTop (mkF m 20 #[.val (.int p1)] [(.int (1 : Int32))]))) (fun _ k => XS.iconst X0.here hx rfl (hb hby d3_19) k) ?_
        exact own_retN X0 hx (t := .boolean) Bd.returns Bd.notSynchronized (by simp) rfl (hb hby d3_20) (by decide) (by decide) (⟨by rw [q], N0, e0⟩)
      · skip
        refine own_st (U' := (s₁.setTop (mkF m 21 #[.val (.int p1)] []))) (fun _ k => XS.icmpYes X0.here hx rfl (pc0 := 16) (pc' := 21) rfl (hb hby d3_16) rfl (feq c2).2 (by decide) (by decide) k) ?_
        refine own_st (U' := (s₁.setTop (mkF m 22 #[.val (.int p1)] [(.int p1)]))) (fun _ k => XS.iloadN X0.here hx rfl (hb hby d3_21) rfl k) ?_
        refine own_st (U' := (s₁.setTop (mkF m 24 #[.val (.int p1)] [(.int (7 : Int32)), (.int p1)]))) (fun _ k => XS.bipush X0.here hx rfl (hb hby d3_22) k) ?_
        by_cases c3 : p1 = (7 : Int32)
        · skip
          refine own_st (U' := (s₁.setTop (mkF m 27 #[.val (.int p1)] []))) (fun _ k => XS.icmpNo X0.here hx rfl (hb hby d3_24) rfl (teq c3).2 k) ?_
          have q : own_exp p1 = 1 := by simp [own_exp, c0, c1, c2, c3]
          refine own_st (U' := (s₁.setTop (mkF m 28 #[.val (.int p1)] [(.int (1 : Int32))]))) (fun _ k => XS.iconst X0.here hx rfl (hb hby d3_27) k) ?_
          exact own_retN X0 hx (t := .boolean) Bd.returns Bd.notSynchronized (by simp) rfl (hb hby d3_28) (by decide) (by decide) (⟨by rw [q], N0, e0⟩)
        · skip
          refine own_st (U' := (s₁.setTop (mkF m 29 #[.val (.int p1)] []))) (fun _ k => XS.icmpYes X0.here hx rfl (pc0 := 24) (pc' := 29) rfl (hb hby d3_24) rfl (feq c3).2 (by decide) (by decide) k) ?_
          have q : own_exp p1 = 0 := by simp [own_exp, c0, c1, c2, c3]
          refine own_st (U' := (s₁.setTop (mkF m 30 #[.val (.int p1)] [(.int (0 : Int32))]))) (fun _ k => XS.iconst X0.here hx rfl (hb hby d3_29) k) ?_
          exact own_retN X0 hx (t := .boolean) Bd.returns Bd.notSynchronized (by simp) rfl (hb hby d3_30) (by decide) (by decide) (⟨by rw [q], N0, e0⟩)
def own_k (x : Int32) : Int32 := (x &&& (2147483647 : Int32)) % (12 : Int32)
theorem pn_rm0 : plainName "com/example/portcullis/portcullis/mcl/OpIsEvaluatedPinLaw" = true := by first | (simp [plainName, overriddenIn]; done) | decide +kernel
theorem ef_rm0 (m : MethodId) (x0 : Int32) : entryFrame m #[(.int x0)] maxLocals = mkF m 0 #[.val (.int x0), .unset, .unset] [] := by first | (simp [entryFrame, mkF, argsToLocals, Value.category, maxLocals]; done) | rfl
def Q_rm0 (Z : State) (i0 : Int32) (f : Nat → Addr) (h0 : Heap) (n0 : Nat) (v : Option Value) (h : Heap) (L : List Loc) : Prop := v = some (.int 1) ∧ Fr n0 L
set_option maxRecDepth 65536 in
set_option maxHeartbeats 40000000 in
theorem rm0 (l : Launch) (Z : State) (a0 : Array Value) (hw : ∀ d ∈ tables_1, d.before a0 Z = true) (ws : List Jvm.Cond) (i0 : Int32) (f : Nat → Addr) (h0 : Heap) (n0 : Nat) (Z0 : n0 ≤ h0.size) (S0 : Sta Z h0 "com/example/portcullis/portcullis/mcl/EquationSystem$Op" "TRUE" "Lcom/example/portcullis/portcullis/mcl/EquationSystem$Op;" (.ref (f 0))) (S1 : Sta Z h0 "com/example/portcullis/portcullis/mcl/EquationSystem$Op" "FALSE" "Lcom/example/portcullis/portcullis/mcl/EquationSystem$Op;" (.ref (f 1))) (S2 : Sta Z h0 "com/example/portcullis/portcullis/mcl/EquationSystem$Op" "AND" "Lcom/example/portcullis/portcullis/mcl/EquationSystem$Op;" (.ref (f 2))) (S3 : Sta Z h0 "com/example/portcullis/portcullis/mcl/EquationSystem$Op" "OR" "Lcom/example/portcullis/portcullis/mcl/EquationSystem$Op;" (.ref (f 3))) (S4 : Sta Z h0 "com/example/portcullis/portcullis/mcl/EquationSystem$Op" "DIAMOND" "Lcom/example/portcullis/portcullis/mcl/EquationSystem$Op;" (.ref (f 4))) (S5 : Sta Z h0 "com/example/portcullis/portcullis/mcl/EquationSystem$Op" "BOX" "Lcom/example/portcullis/portcullis/mcl/EquationSystem$Op;" (.ref (f 5))) (S6 : Sta Z h0 "com/example/portcullis/portcullis/mcl/EquationSystem$Op" "PREDICATE" "Lcom/example/portcullis/portcullis/mcl/EquationSystem$Op;" (.ref (f 6))) (S7 : Sta Z h0 "com/example/portcullis/portcullis/mcl/EquationSystem$Op" "NEGATED_PREDICATE" "Lcom/example/portcullis/portcullis/mcl/EquationSystem$Op;" (.ref (f 7))) (S8 : Sta Z h0 "com/example/portcullis/portcullis/mcl/EquationSystem$Op" "ASSIGN" "Lcom/example/portcullis/portcullis/mcl/EquationSystem$Op;" (.ref (f 8))) (S9 : Sta Z h0 "com/example/portcullis/portcullis/mcl/EquationSystem$Op" "EXISTS" "Lcom/example/portcullis/portcullis/mcl/EquationSystem$Op;" (.ref (f 9))) (S10 : Sta Z h0 "com/example/portcullis/portcullis/mcl/EquationSystem$Op" "FORALL" "Lcom/example/portcullis/portcullis/mcl/EquationSystem$Op;" (.ref (f 10))) (S11 : Sta Z h0 "com/example/portcullis/portcullis/mcl/EquationSystem$Op" "MATCH" "Lcom/example/portcullis/portcullis/mcl/EquationSystem$Op;" (.ref (f 11))) (hE : ∀ i, i < 12 → Exa Z h0 (f i) "com/example/portcullis/portcullis/mcl/EquationSystem$Op") (hinj : ∀ i j : Nat, i < 12 → j < 12 → f i = f j → i = j) :
    MetFree l x (head1 (Jvm.Cond.code x code maxLocals ret :: ws) room_1) (fun as1 U => as1 = #[(.int i0)] ∧ Z.Warmed39 U.vm ∧ U.heap = h0) (fun _ _ _ _ _ => True) (fun _ U o U' => ∃ v L, o = .returned v ∧ Q_rm0 Z i0 f h0 n0 v U'.heap L ∧ FrameEnd U o U' L room_1.cells room_1.slots) := by
  refine MetFree.of_bodySF (plainFor_of_name pn_rm0) hisR ?_
  intro p e s m args below meth c s₁ Bd hml0 hP hK
  obtain ⟨rfl, hZ, hh⟩ := hP
  have hx := Bd.exec
  have hby := Bd.bytes
  have hml : c.maxLocals = 3 := hml0
  have hown : s.vm.findClass "com/example/portcullis/portcullis/mcl/OpIsEvaluatedPinLaw" = some m.cls := findClass_of_methodNamed Bd.named
  have hnm := (name_of_methodNamed Bd.named Bd.method).1
  have X0 : Stand p l e room_1 s m #[(.int i0)] below meth c s₁ [] 0 0 := Stand.of_body Bd
  have e0 : s₁.heap = h0 := by rw [← hh, Bd.state]; rfl
  have N0 := Fr.nil n0
  show own_Ends p e s below (Q_rm0 Z i0 f h0 n0) room_1.cells room_1.slots (s₁.setTop (entryFrame m #[(.int i0)] maxLocals))
  refine own_st (U' := (s₁.setTop (mkF m 0 #[.val (.int i0), .unset, .unset] []))) (fun _ k => castTop (ef_rm0 m i0) k) ?_
  refine own_st (U' := (s₁.setTop (mkF m 1 #[.val (.int i0), .unset, .unset] [(.int i0)]))) (fun _ k => XS.iloadN X0.here hx rfl (hb hby at_0) rfl k) ?_
  refine own_st (U' := (s₁.setTop (mkF m 3 #[.val (.int i0), .unset, .unset] [(.int (2147483647 : Int32)), (.int i0)]))) (fun _ k => Jvm.Stand.ldcI X0 hx hown (mvT hZ (hw _ (List.mem_of_getElem? (i := 0) rfl))) rfl (hb hby at_1) k) ?_
  refine own_st (U' := (s₁.setTop (mkF m 4 #[.val (.int i0), .unset, .unset] [(.int (i0 &&& (2147483647 : Int32)))]))) (fun _ k => XS.iand X0.here hx rfl (hb hby at_3) rfl k) ?_
  refine own_st (U' := (s₁.setTop (mkF m 6 #[.val (.int i0), .unset, .unset] [(.int (12 : Int32)), (.int (i0 &&& (2147483647 : Int32)))]))) (fun _ k => XS.bipush X0.here hx rfl (hb hby at_4) k) ?_
  refine own_st (U' := (s₁.setTop (mkF m 7 #[.val (.int i0), .unset, .unset] [(.int (own_k i0))]))) (fun _ k => iremM X0 hx rfl (hb hby at_6) rfl (by decide) k) ?_
  refine own_st (U' := (s₁.setTop (mkF m 8 #[.val (.int i0), .val (.int (own_k i0)), .unset] []))) (fun _ k => XS.istoreN X0.here hx rfl (hb hby at_7) rfl (l' := #[.val (.int i0), .val (.int (own_k i0)), .unset]) rfl k) ?_
  refine own_st (U' := (s₁.setTop (mkF m 9 #[.val (.int i0), .val (.int (own_k i0)), .unset] [(.int (own_k i0))]))) (fun _ k => XS.iloadN X0.here hx rfl (hb hby at_8) rfl k) ?_
  obtain ⟨_, _, ⟨T17, L17, k17, n17⟩, -, X17, ⟨Lc17, hQ17, l17, y17, z17⟩, st17⟩ := Jvm.LawKit.callS X0 hx (y := (⟨"com/example/portcullis/portcullis/mcl/OpIsEvaluatedPinLaw", "opOf", "(I)Lcom/example/portcullis/portcullis/mcl/EquationSystem$Op;"⟩ : MethodName)) hown (mvT hZ (hw _ (List.mem_of_getElem? (i := 1) rfl))) (mvT hZ (hw _ (List.mem_of_getElem? (i := 2) rfl))) (mvT hZ (hw _ (List.mem_of_getElem? (i := 3) rfl))) (mvT hZ (hw _ (List.mem_of_getElem? (i := 4) rfl))) (by decide) (backOf (W := 0) (rm1 l Z a0 hw [] (own_k i0) f h0 n0 Z0 S0 S1 S2 S3 S4 S5 S6 S7 S8 S9 S10 S11) hZ (hw _ (List.mem_of_getElem? (i := 4) rfl)) (hw _ (List.mem_of_getElem? (i := 3) rfl)) (by decide) (by decide)) (g := (mkF m 9 #[.val (.int i0), .val (.int (own_k i0)), .unset] [(.int (own_k i0))])) rfl (by rw [hml]; rfl) (argsL := [(.int (own_k i0))]) (rest := []) (lenOf (pd_d1) rfl) rfl (by show 2 * 0 + _ ≤ _; exact Nat.le_of_eq rfl) (hb hby at_9) (fun _ _ => ⟨rfl, e0, (Nat.le_of_ble_eq_true rfl), (Nat.le_of_ble_eq_true rfl)⟩)
  dsimp only [Pt.U, Pt.locs, Pt.cells, Pt.slots] at X17 l17 y17 z17 st17 hQ17
  subst l17 y17 z17
  obtain ⟨rfl, N17q, eq17⟩ := hQ17
  have N17 := Fr.app N0 N17q
  refine own_st (U' := (T17.setTop (mkF m 12 #[.val (.int i0), .val (.int (own_k i0)), .unset] [(.ref (f (own_ix (own_k i0))))]))) st17 ?_
  refine own_st (U' := (T17.setTop (mkF m 13 #[.val (.int i0), .val (.int (own_k i0)), .val (.ref (f (own_ix (own_k i0))))] []))) (fun _ k => XS.astoreN X17.here hx rfl (hb hby at_12) rfl rfl (l' := #[.val (.int i0), .val (.int (own_k i0)), .val (.ref (f (own_ix (own_k i0))))]) rfl k) ?_
  refine own_st (U' := (T17.setTop (mkF m 14 #[.val (.int i0), .val (.int (own_k i0)), .val (.ref (f (own_ix (own_k i0))))] [(.ref (f (own_ix (own_k i0))))]))) (fun _ k => XS.aloadN X17.here hx rfl (hb hby at_13) rfl rfl k) ?_
  obtain ⟨cq18, kq18, qa18, qb18, qc18⟩ := isOf hZ eq17 (hE _ (own_ix_lt (own_k i0)))
  obtain ⟨_, _, ⟨T18, L18, k18, n18⟩, -, X18, ⟨Lc18, hQ18, l18, y18, z18⟩, st18⟩ := X17.virtualBack hx (y := (⟨"com/example/portcullis/portcullis/mcl/EquationSystem$Op", "isEvaluated", "()Z"⟩ : MethodName)) (z := (⟨"com/example/portcullis/portcullis/mcl/EquationSystem$Op", "isEvaluated", "()Z"⟩ : MethodName)) hown (mvT hZ (hw _ (List.mem_of_getElem? (i := 8) rfl))) (mvT hZ (hw _ (List.mem_of_getElem? (i := 9) rfl))) (notFace_of_selects (args := #[]) (mvT hZ (hw _ (List.mem_of_getElem? (i := 11) rfl)))) (mvT hZ (hw _ (List.mem_of_getElem? (i := 11) rfl))) (mvT hZ (hw _ (List.mem_of_getElem? (i := 10) rfl))) (by decide) (backOf (W := 0) (rm2 l Z a0 hw [] (f (own_ix (own_k i0))) f h0 n0 Z0 S0 S1 S6 S7) hZ (hw _ (List.mem_of_getElem? (i := 12) rfl)) (hw _ (List.mem_of_getElem? (i := 6) rfl)) (by decide) (by decide)) qa18 qc18 (g := (mkF m 14 #[.val (.int i0), .val (.int (own_k i0)), .val (.ref (f (own_ix (own_k i0))))] [(.ref (f (own_ix (own_k i0))))])) rfl (by rw [hml]; rfl) (Steps.refl _) (argsL := []) (rest := []) (lenOf (pd_d2) rfl) rfl (by show 2 * 0 + _ ≤ _; exact Nat.le_of_eq rfl) (hb hby at_14) (fun _ _ => ⟨rfl, eq17, (Nat.le_of_ble_eq_true rfl), (Nat.le_of_ble_eq_true rfl)⟩)
  dsimp only [Pt.U, Pt.locs, Pt.cells, Pt.slots] at X18 l18 y18 z18 st18 hQ18
  subst l18 y18 z18
  obtain ⟨rfl, N18q, eq18⟩ := hQ18
  have N18 := Fr.app N17 N18q
  refine own_tr (U' := (T18.setTop (mkF m 17 #[.val (.int i0), .val (.int (own_k i0)), .val (.ref (f (own_ix (own_k i0))))] [(.int (own_ev f (f (own_ix (own_k i0)))))]))) st18 ?_
  refine own_st (U' := (T18.setTop (mkF m 18 #[.val (.int i0), .val (.int (own_k i0)), .val (.ref (f (own_ix (own_k i0))))] [(.int (own_k i0)), (.int (own_ev f (f (own_ix (own_k i0)))))]))) (fun _ k => XS.iloadN X18.here hx rfl (hb hby at_17) rfl k) ?_
  obtain ⟨_, _, ⟨T19, L19, k19, n19⟩, -, X19, ⟨Lc19, hQ19, l19, y19, z19⟩, st19⟩ := Jvm.LawKit.callS X18 hx (y := (⟨"com/example/portcullis/portcullis/mcl/OpIsEvaluatedPinLaw", "expected", "(I)Z"⟩ : MethodName)) hown (mvT hZ (hw _ (List.mem_of_getElem? (i := 14) rfl))) (mvT hZ (hw _ (List.mem_of_getElem? (i := 15) rfl))) (mvT hZ (hw _ (List.mem_of_getElem? (i := 3) rfl))) (mvT hZ (hw _ (List.mem_of_getElem? (i := 16) rfl))) (by decide) (backOf (W := 1) (rm3 l Z a0 hw [] (own_k i0) h0 n0 Z0) hZ (hw _ (List.mem_of_getElem? (i := 16) rfl)) (hw _ (List.mem_of_getElem? (i := 3) rfl)) (by decide) (by decide)) (g := (mkF m 18 #[.val (.int i0), .val (.int (own_k i0)), .val (.ref (f (own_ix (own_k i0))))] [(.int (own_k i0)), (.int (own_ev f (f (own_ix (own_k i0)))))])) rfl (by rw [hml]; rfl) (argsL := [(.int (own_k i0))]) (rest := [(.int (own_ev f (f (own_ix (own_k i0)))))]) (lenOf (pd_d3) rfl) rfl (by show 2 * 0 + _ ≤ _; exact Nat.le_of_eq rfl) (hb hby at_18) (fun _ _ => ⟨rfl, eq18, (Nat.le_of_ble_eq_true rfl), (Nat.le_of_ble_eq_true rfl)⟩)
  dsimp only [Pt.U, Pt.locs, Pt.cells, Pt.slots] at X19 l19 y19 z19 st19 hQ19
  subst l19 y19 z19
  obtain ⟨rfl, N19q, eq19⟩ := hQ19
  have N19 := Fr.app N18 N19q
  refine own_st (U' := (T19.setTop (mkF m 21 #[.val (.int i0), .val (.int (own_k i0)), .val (.ref (f (own_ix (own_k i0))))] [(.int (own_exp (own_k i0))), (.int (own_ev f (f (own_ix (own_k i0)))))]))) st19 ?_
  refine own_st (U' := (T19.setTop (mkF m 24 #[.val (.int i0), .val (.int (own_k i0)), .val (.ref (f (own_ix (own_k i0))))] []))) (fun _ k => XS.icmpNo X19.here hx rfl (hb hby at_21) rfl (teq (own_law f hinj (own_k i0))).2 k) ?_
  refine own_st (U' := (T19.setTop (mkF m 25 #[.val (.int i0), .val (.int (own_k i0)), .val (.ref (f (own_ix (own_k i0))))] [(.int (1 : Int32))]))) (fun _ k => XS.iconst X19.here hx rfl (hb hby at_24) k) ?_
  refine own_st (U' := (T19.setTop (mkF m 29 #[.val (.int i0), .val (.int (own_k i0)), .val (.ref (f (own_ix (own_k i0))))] [(.int (1 : Int32))]))) (fun _ k => XS.goto X19.here hx rfl (pc0 := 25) (pc' := 29) rfl (hb hby at_25) (by decide) (by decide) k) ?_
  exact own_retN X19 hx (t := .boolean) Bd.returns Bd.notSynchronized (by simp) rfl (hb hby at_29) (by decide) (by decide) (⟨rfl, N19⟩)
set_option maxRecDepth 65536 in
set_option maxHeartbeats 40000000 in
theorem comes_1 {Post : Tables → Env → Array Value → State → Outcome → State → Prop} (hpost : ∀ tb e args s v u, (limb_1_1.after args s (.returned v) u = true ∧ limb_1_2.after args s (.returned v) u = true ∧ True) → FrameEnd s (.returned v) u (Jvm.fieldLocs frame_1_writes args s ++ Jvm.arrayLocs frame_1_arrays args s ++ Jvm.staticLocs frame_1_statics s) 0 0 → Post tb e args s (.returned v) u) :
    ArmFor flags0 classFile x code maxLocals ret World_1 tables_1 room_1 Calls_1 rest_1 Pre_1 Post := by
  intro l hfl _ _ p e ha hc hk s m args below hf hA hF happ hP
  obtain ⟨hcalls, hrest, hpre⟩ := hP
  obtain ⟨-, -, -, hnamed, -, -, -, hat⟩ := (Spec.applies_iff hf).mp happ
  obtain ⟨hg, hn⟩ := and_e (Cond.before_iff.mp (show (Jvm.Cond.and given_1 narrow_1).before args s = true from hpre))
  obtain ⟨gc, g0⟩ := and_e hg
  obtain ⟨w0, rfl⟩ : ∃ w0 : Value, args = #[w0] := by
    have hs : args.size = 1 := by simpa [Cond.value, given_1] using gc
    obtain ⟨L⟩ := args
    match L, hs with
    | [w0], _ => exact ⟨w0, rfl⟩
  have hw := fun d (hd : d ∈ tables_1) => atoms_spec (ws := Jvm.Cond.code x code maxLocals ret :: tables_1) hat d (List.mem_cons_of_mem _ hd)
  obtain ⟨i0, ei0⟩ := is_v g0
  obtain rfl : w0 = (.int i0) := Option.some.inj ei0
  obtain ⟨x0, r0⟩ := and_e hn
  obtain ⟨x3, r1⟩ := and_e r0
  obtain ⟨o3, r2⟩ := and_e r1
  obtain ⟨o0, r3⟩ := and_e r2
  obtain ⟨x1, r4⟩ := and_e r3
  obtain ⟨o1, r5⟩ := and_e r4
  obtain ⟨x6, r6⟩ := and_e r5
  obtain ⟨o6, r7⟩ := and_e r6
  obtain ⟨x7, r8⟩ := and_e r7
  obtain ⟨o7, r9⟩ := and_e r8
  obtain ⟨x2, r10⟩ := and_e r9
  obtain ⟨o2, r11⟩ := and_e r10
  obtain ⟨x11, r12⟩ := and_e r11
  obtain ⟨o11, r13⟩ := and_e r12
  obtain ⟨x4, r14⟩ := and_e r13
  obtain ⟨o4, r15⟩ := and_e r14
  obtain ⟨x8, r16⟩ := and_e r15
  obtain ⟨o8, r17⟩ := and_e r16
  obtain ⟨x10, r18⟩ := and_e r17
  obtain ⟨o10, r19⟩ := and_e r18
  obtain ⟨x9, r20⟩ := and_e r19
  obtain ⟨o9, r21⟩ := and_e r20
  obtain ⟨x5, r22⟩ := and_e r21
  have o5 := r22
  obtain ⟨a0, v0⟩ := exa_v x0
  have E0 := Exa.start v0 x0
  have S0 := Sta.start v0 (Or.inr ⟨(hw _ (List.mem_of_getElem? (i := 6) rfl)), (hw _ (List.mem_of_getElem? (i := 7) rfl))⟩)
  have q0 := own_ord v0 o0
  obtain ⟨a1, v1⟩ := exa_v x1
  have E1 := Exa.start v1 x1
  have S1 := Sta.start v1 (Or.inr ⟨(hw _ (List.mem_of_getElem? (i := 6) rfl)), (hw _ (List.mem_of_getElem? (i := 20) rfl))⟩)
  have q1 := own_ord v1 o1
  obtain ⟨a2, v2⟩ := exa_v x2
  have E2 := Exa.start v2 x2
  have S2 := Sta.start v2 (Or.inr ⟨(hw _ (List.mem_of_getElem? (i := 6) rfl)), (hw _ (List.mem_of_getElem? (i := 26) rfl))⟩)
  have q2 := own_ord v2 o2
  obtain ⟨a3, v3⟩ := exa_v x3
  have E3 := Exa.start v3 x3
  have S3 := Sta.start v3 (Or.inr ⟨(hw _ (List.mem_of_getElem? (i := 6) rfl)), (hw _ (List.mem_of_getElem? (i := 18) rfl))⟩)
  have q3 := own_ord v3 o3
  obtain ⟨a4, v4⟩ := exa_v x4
  have E4 := Exa.start v4 x4
  have S4 := Sta.start v4 (Or.inr ⟨(hw _ (List.mem_of_getElem? (i := 6) rfl)), (hw _ (List.mem_of_getElem? (i := 31) rfl))⟩)
  have q4 := own_ord v4 o4
  obtain ⟨a5, v5⟩ := exa_v x5
  have E5 := Exa.start v5 x5
  have S5 := Sta.start v5 (Or.inr ⟨(hw _ (List.mem_of_getElem? (i := 6) rfl)), (hw _ (List.mem_of_getElem? (i := 41) rfl))⟩)
  have q5 := own_ord v5 o5
  obtain ⟨a6, v6⟩ := exa_v x6
  have E6 := Exa.start v6 x6
  have S6 := Sta.start v6 (Or.inr ⟨(hw _ (List.mem_of_getElem? (i := 6) rfl)), (hw _ (List.mem_of_getElem? (i := 22) rfl))⟩)
  have q6 := own_ord v6 o6
  obtain ⟨a7, v7⟩ := exa_v x7
  have E7 := Exa.start v7 x7
  have S7 := Sta.start v7 (Or.inr ⟨(hw _ (List.mem_of_getElem? (i := 6) rfl)), (hw _ (List.mem_of_getElem? (i := 24) rfl))⟩)
  have q7 := own_ord v7 o7
  obtain ⟨a8, v8⟩ := exa_v x8
  have E8 := Exa.start v8 x8
  have S8 := Sta.start v8 (Or.inr ⟨(hw _ (List.mem_of_getElem? (i := 6) rfl)), (hw _ (List.mem_of_getElem? (i := 33) rfl))⟩)
  have q8 := own_ord v8 o8
  obtain ⟨a9, v9⟩ := exa_v x9
  have E9 := Exa.start v9 x9
  have S9 := Sta.start v9 (Or.inr ⟨(hw _ (List.mem_of_getElem? (i := 6) rfl)), (hw _ (List.mem_of_getElem? (i := 38) rfl))⟩)
  have q9 := own_ord v9 o9
  obtain ⟨a10, v10⟩ := exa_v x10
  have E10 := Exa.start v10 x10
  have S10 := Sta.start v10 (Or.inr ⟨(hw _ (List.mem_of_getElem? (i := 6) rfl)), (hw _ (List.mem_of_getElem? (i := 36) rfl))⟩)
  have q10 := own_ord v10 o10
  obtain ⟨a11, v11⟩ := exa_v x11
  have E11 := Exa.start v11 x11
  have S11 := Sta.start v11 (Or.inr ⟨(hw _ (List.mem_of_getElem? (i := 6) rfl)), (hw _ (List.mem_of_getElem? (i := 29) rfl))⟩)
  have q11 := own_ord v11 o11
  have hq : ∀ i, i < 12 → s.fieldOf? ([a0, a1, a2, a3, a4, a5, a6, a7, a8, a9, a10, a11].getD i a0) "java/lang/Enum" "ordinal" "I" = some (.int (Int32.ofNat i)) := by
    intro i hi
    match i, hi with
    | 0, _ => exact q0
    | 1, _ => exact q1
    | 2, _ => exact q2
    | 3, _ => exact q3
    | 4, _ => exact q4
    | 5, _ => exact q5
    | 6, _ => exact q6
    | 7, _ => exact q7
    | 8, _ => exact q8
    | 9, _ => exact q9
    | 10, _ => exact q10
    | 11, _ => exact q11
    | n + 12, h => exact absurd h (by omega)
  have hE : ∀ i, i < 12 → Exa s s.heap ([a0, a1, a2, a3, a4, a5, a6, a7, a8, a9, a10, a11].getD i a0) "com/example/portcullis/portcullis/mcl/EquationSystem$Op" := by
    intro i hi
    match i, hi with
    | 0, _ => exact E0
    | 1, _ => exact E1
    | 2, _ => exact E2
    | 3, _ => exact E3
    | 4, _ => exact E4
    | 5, _ => exact E5
    | 6, _ => exact E6
    | 7, _ => exact E7
    | 8, _ => exact E8
    | 9, _ => exact E9
    | 10, _ => exact E10
    | 11, _ => exact E11
    | n + 12, h => exact absurd h (by omega)
  have hsm : ∀ i j : Fin 12, Int32.ofNat i.1 = Int32.ofNat j.1 → i.1 = j.1 := by decide +kernel
  have hinj : ∀ i j : Nat, i < 12 → j < 12 → [a0, a1, a2, a3, a4, a5, a6, a7, a8, a9, a10, a11].getD i a0 = [a0, a1, a2, a3, a4, a5, a6, a7, a8, a9, a10, a11].getD j a0 → i = j := fun i j hi hj h => by
    have h1 := hq i hi
    rw [h, hq j hj] at h1
    exact (hsm ⟨j, hj⟩ ⟨i, hi⟩ (Value.int.inj (Option.some.inj h1))).symm
  obtain ⟨n, o, h1, h2, h3, _, L, rfl, ⟨rfl, N⟩, hq⟩ := rm0 l s _ hw tables_1 i0 (fun i => [a0, a1, a2, a3, a4, a5, a6, a7, a8, a9, a10, a11].getD i a0) s.heap s.heap.size (Nat.le_refl _) S0 S1 S2 S3 S4 S5 S6 S7 S8 S9 S10 S11 hE hinj  p e ha hc hk s m _ below hf ((Spec.applies_iff_loose hf).mp happ).1 ⟨rfl, State.Warmed39.refl s, rfl⟩ trivial
  refine ⟨n, _, h1, h2, h3, hpost _ _ _ _ _ _ ⟨Cond.after_iff.mpr rfl, Cond.after_iff.mpr (eq_i res_at (Term.int_eval (1)) rfl), trivial⟩ ⟨hq.1, hq.2.1, (hq.2.2.sift fun y hy => Or.inr (N y hy)).mono (by decide) (by decide)⟩⟩
theorem main_1_1 : Claimed_1_1 := comes_1 fun _ _ _ _ _ _ h hF => ⟨h.1, hF⟩
theorem main_1_2 : Claimed_1_2 := comes_1 fun _ _ _ _ _ _ h hF => ⟨h.2.1, hF⟩
end Jvm.Pilot.@@N@@
namespace Jvm.Pilot.@@N@@
open Jvm Jvm.ClassFile Sem Op Lib Jvm.Free Jvm.Stand Jvm.Pilot.@@N@@.Jvm.D
/-! MADE BY PROGRAM (witnessworld.py) out of the Statement's table words and the real class files: 12 classes; the members and pool entries that the words name. The judged class is class 1, her method 1. -/
namespace start1
open Jvm.ClassFile
def u (s : String) : CpInfo := .utf8 (stringToUtf16 s)
/-- a pool by its gaps: so many unusable entries, then the entry; so many at the end -/
def gap : Nat → List CpInfo → List CpInfo
  | 0, r => r
  | n + 1, r => .unusable :: gap n r
def poolList (es : List (Nat × CpInfo)) (last : Nat) : List CpInfo := es.foldr (fun e r => gap e.1 (e.2 :: r)) (gap last [])
def pool (es : List (Nat × CpInfo)) (last : Nat) : Array CpInfo := ⟨poolList es last⟩
def fileOf (pool : Array CpInfo) (this : Nat) (attrs : Array Attribute := #[]) (ms : Array MethodInfo := #[]) (fl : Nat := 33) (sup : Nat := 0) (ifs : Array Nat := #[]) (fds : Array FieldInfo := #[]) : ClassFile where
  minorVersion := 0
  majorVersion := 65
  constantPool := pool
  accessFlags := fl
  thisClass := this
  superClass := sup
  interfaces := ifs
  fields := fds
  methods := ms
  attributes := attrs
def plain (name : String) (sup : Option ClassId) : Class where
  name := name
  kind := .ordinary
  loader := none
  accessFlags := 33
  super := sup
  interfaces := #[]
  cf := none
  fields := #[]
  methods := #[]
  instanceTypes := #[]
  staticTypes := #[]
  resolved := #[]
  callSites := []
  init := .initialized
  statics := none
  mirror := none

def pool0 : Array CpInfo := pool [(5, u "<init>"), (0, u "()V"), (1, .class_ 10), (1, u "java/lang/Object")] 113

def k0m0 : Method := { name := "<init>", desc := "()V", sig := { parameters := [], returnType := none }, accessFlags := 1, code := none }
/-- java/lang/Object -/
def k0 : Class := { plain "java/lang/Object" none with
  accessFlags := 33
  interfaces := #[]
  cf := some (fileOf pool0 8 #[] #[{ accessFlags := 1, nameIndex := 5, descriptorIndex := 6, attributes := #[] }] 33 0 #[] #[])
  fields := #[]
  methods := #[k0m0]
  instanceTypes := #[]
  staticTypes := #[]
  resolved := Array.replicate 124 none
  statics := none }

def pool1 : Array CpInfo := pool [(2, .class_ 4), (1, u "java/lang/Object"), (0, u "<init>"), (0, u "()V"), (0, .integer 2147483647), (0, .methodref 9 10), (0, .class_ 11), (0, .nameAndType 12 13), (0, u "com/example/portcullis/portcullis/mcl/OpIsEvaluatedPinLaw"), (0, u "opOf"), (0, u "(I)Lcom/example/portcullis/portcullis/mcl/EquationSystem$Op;"), (0, .methodref 15 16), (0, .class_ 17), (0, .nameAndType 18 19), (0, u "com/example/portcullis/portcullis/mcl/EquationSystem$Op"), (0, u "isEvaluated"), (0, u "()Z"), (0, .methodref 9 21), (0, .nameAndType 22 23), (0, u "expected"), (0, u "(I)Z"), (0, .fieldref 15 25), (0, .nameAndType 26 27), (0, u "TRUE"), (0, u "Lcom/example/portcullis/portcullis/mcl/EquationSystem$Op;"), (0, .fieldref 15 29), (0, .nameAndType 30 27), (0, u "FALSE"), (0, .fieldref 15 32), (0, .nameAndType 33 27), (0, u "AND"), (0, .fieldref 15 35), (0, .nameAndType 36 27), (0, u "OR"), (0, .fieldref 15 38), (0, .nameAndType 39 27), (0, u "DIAMOND"), (0, .fieldref 15 41), (0, .nameAndType 42 27), (0, u "BOX"), (0, .fieldref 15 44), (0, .nameAndType 45 27), (0, u "PREDICATE"), (0, .fieldref 15 47), (0, .nameAndType 48 27), (0, u "NEGATED_PREDICATE"), (0, .fieldref 15 50), (0, .nameAndType 51 27), (0, u "ASSIGN"), (0, .fieldref 15 53), (0, .nameAndType 54 27), (0, u "EXISTS"), (0, .fieldref 15 56), (0, .nameAndType 57 27), (0, u "FORALL"), (0, .fieldref 15 59), (0, .nameAndType 60 27), (0, u "MATCH"), (2, u "law")] 7

def k1m0 : Method := { name := "<init>", desc := "()V", sig := { parameters := [], returnType := none }, accessFlags := 2, code := none }
def k1c1 : Code := { maxStack := 2, maxLocals := 3, code := code, exceptionTable := #[], attributes := #[] }
def k1m1 : Method := { name := "law", desc := "(I)Z", sig := { parameters := [.int], returnType := some .boolean }, accessFlags := 9, code := some k1c1 }
def k1c2 : Code := { maxStack := 2, maxLocals := 1, code := method_3_code, exceptionTable := #[], attributes := #[] }
def k1m2 : Method := { name := "opOf", desc := "(I)Lcom/example/portcullis/portcullis/mcl/EquationSystem$Op;", sig := { parameters := [.int], returnType := some (.object "com/example/portcullis/portcullis/mcl/EquationSystem$Op") }, accessFlags := 10, code := some k1c2 }
def k1c3 : Code := { maxStack := 2, maxLocals := 1, code := method_4_code, exceptionTable := #[], attributes := #[] }
def k1m3 : Method := { name := "expected", desc := "(I)Z", sig := { parameters := [.int], returnType := some .boolean }, accessFlags := 10, code := some k1c3 }
/-- com/example/portcullis/portcullis/mcl/OpIsEvaluatedPinLaw -/
def k1 : Class := { plain "com/example/portcullis/portcullis/mcl/OpIsEvaluatedPinLaw" (some 0) with
  accessFlags := 49
  interfaces := #[]
  cf := some (fileOf pool1 9 #[] #[{ accessFlags := 2, nameIndex := 5, descriptorIndex := 6, attributes := #[] }, { accessFlags := 9, nameIndex := 63, descriptorIndex := 23, attributes := #[] }, { accessFlags := 10, nameIndex := 12, descriptorIndex := 13, attributes := #[] }, { accessFlags := 10, nameIndex := 22, descriptorIndex := 23, attributes := #[] }] 49 2 #[] #[])
  fields := #[]
  methods := #[k1m0, k1m1, k1m2, k1m3]
  instanceTypes := #[]
  staticTypes := #[]
  resolved := Array.replicate 71 none
  statics := none }

def pool2 : Array CpInfo := pool [(1, .class_ 2), (0, u "java/lang/constant/Constable"), (0, .class_ 4), (0, u "java/lang/Object")] 6

/-- java/lang/constant/Constable -/
def k2 : Class := { plain "java/lang/constant/Constable" (some 0) with
  accessFlags := 1537
  interfaces := #[]
  cf := some (fileOf pool2 1 #[] #[] 1537 3 #[] #[])
  fields := #[]
  methods := #[]
  instanceTypes := #[]
  staticTypes := #[]
  resolved := Array.replicate 11 none
  statics := none }

def pool3 : Array CpInfo := pool [(1, .class_ 2), (0, u "java/lang/Comparable"), (0, .class_ 4), (0, u "java/lang/Object")] 7

/-- java/lang/Comparable -/
def k3 : Class := { plain "java/lang/Comparable" (some 0) with
  accessFlags := 1537
  interfaces := #[]
  cf := some (fileOf pool3 1 #[] #[] 1537 3 #[] #[])
  fields := #[]
  methods := #[]
  instanceTypes := #[]
  staticTypes := #[]
  resolved := Array.replicate 12 none
  statics := none }

def pool4 : Array CpInfo := pool [(1, .class_ 2), (0, u "java/io/Serializable"), (0, .class_ 4), (0, u "java/lang/Object")] 2

/-- java/io/Serializable -/
def k4 : Class := { plain "java/io/Serializable" (some 0) with
  accessFlags := 1537
  interfaces := #[]
  cf := some (fileOf pool4 1 #[] #[] 1537 3 #[] #[])
  fields := #[]
  methods := #[]
  instanceTypes := #[]
  staticTypes := #[]
  resolved := Array.replicate 7 none
  statics := none }

def pool5 : Array CpInfo := pool [(2, .class_ 4), (1, u "java/lang/Enum"), (0, u "name"), (0, u "Ljava/lang/String;"), (2, u "ordinal"), (0, u "I"), (1, .class_ 14), (1, u "java/lang/Object"), (4, u "hash"), (86, .class_ 108), (1, u "java/lang/Enum$EnumDesc"), (2, .class_ 112), (0, u "java/lang/constant/Constable"), (0, .class_ 114), (0, u "java/lang/Comparable"), (0, .class_ 116), (0, u "java/io/Serializable")] 87

/-- java/lang/Enum -/
def k5 : Class := { plain "java/lang/Enum" (some 0) with
  accessFlags := 1057
  interfaces := #[2, 3, 4]
  cf := some (fileOf pool5 2 #[.nestMembers #[106]] #[] 1057 12 #[111, 113, 115] #[{ accessFlags := 18, nameIndex := 5, descriptorIndex := 6, attributes := #[] }, { accessFlags := 18, nameIndex := 9, descriptorIndex := 10, attributes := #[] }, { accessFlags := 2, nameIndex := 19, descriptorIndex := 10, attributes := #[] }])
  fields := #[{ name := "name", type := (.object "java/lang/String"), accessFlags := 18, slot := 0, constantValue := 0 }, { name := "ordinal", type := .int, accessFlags := 18, slot := 1, constantValue := 0 }, { name := "hash", type := .int, accessFlags := 2, slot := 2, constantValue := 0 }]
  methods := #[]
  instanceTypes := #[(.object "java/lang/String"), .int, .int]
  staticTypes := #[]
  resolved := Array.replicate 204 none
  statics := none }

def pool6 : Array CpInfo := pool [(1, .class_ 2), (0, u "com/example/portcullis/portcullis/mcl/EquationSystem$Op"), (0, .fieldref 1 4), (0, .nameAndType 5 6), (0, u "TRUE"), (0, u "Lcom/example/portcullis/portcullis/mcl/EquationSystem$Op;"), (0, .fieldref 1 8), (0, .nameAndType 9 6), (0, u "FALSE"), (2, u "AND"), (2, u "OR"), (2, u "DIAMOND"), (2, u "BOX"), (0, .fieldref 1 23), (0, .nameAndType 24 6), (0, u "PREDICATE"), (0, .fieldref 1 26), (0, .nameAndType 27 6), (0, u "NEGATED_PREDICATE"), (2, u "ASSIGN"), (2, u "EXISTS"), (2, u "FORALL"), (2, u "MATCH"), (2, u "$VALUES"), (0, u "[Lcom/example/portcullis/portcullis/mcl/EquationSystem$Op;"), (6, .class_ 52), (1, u "java/lang/Enum"), (8, u "conjunctive"), (0, u "Z"), (27, u "()Z"), (0, u "isEvaluated"), (7, .class_ 100), (0, u "com/example/portcullis/portcullis/mcl/EquationSystem")] 2

def k6c0 : Code := { maxStack := 2, maxLocals := 1, code := prog_113_method_5_code, exceptionTable := #[], attributes := #[] }
def k6m0 : Method := { name := "isEvaluated", desc := "()Z", sig := { parameters := [], returnType := some .boolean }, accessFlags := 0, code := some k6c0 }
/-- com/example/portcullis/portcullis/mcl/EquationSystem$Op -/
def k6 : Class := { plain "com/example/portcullis/portcullis/mcl/EquationSystem$Op" (some 5) with
  accessFlags := 16432
  interfaces := #[]
  cf := some (fileOf pool6 1 #[.nestHost 99] #[{ accessFlags := 0, nameIndex := 91, descriptorIndex := 90, attributes := #[] }] 16432 50 #[] #[{ accessFlags := 16409, nameIndex := 5, descriptorIndex := 6, attributes := #[] }, { accessFlags := 16409, nameIndex := 9, descriptorIndex := 6, attributes := #[] }, { accessFlags := 16409, nameIndex := 12, descriptorIndex := 6, attributes := #[] }, { accessFlags := 16409, nameIndex := 15, descriptorIndex := 6, attributes := #[] }, { accessFlags := 16409, nameIndex := 18, descriptorIndex := 6, attributes := #[] }, { accessFlags := 16409, nameIndex := 21, descriptorIndex := 6, attributes := #[] }, { accessFlags := 16409, nameIndex := 24, descriptorIndex := 6, attributes := #[] }, { accessFlags := 16409, nameIndex := 27, descriptorIndex := 6, attributes := #[] }, { accessFlags := 16409, nameIndex := 30, descriptorIndex := 6, attributes := #[] }, { accessFlags := 16409, nameIndex := 33, descriptorIndex := 6, attributes := #[] }, { accessFlags := 16409, nameIndex := 36, descriptorIndex := 6, attributes := #[] }, { accessFlags := 16409, nameIndex := 39, descriptorIndex := 6, attributes := #[] }, { accessFlags := 18, nameIndex := 61, descriptorIndex := 62, attributes := #[] }, { accessFlags := 4122, nameIndex := 42, descriptorIndex := 43, attributes := #[] }])
  fields := #[{ name := "TRUE", type := (.object "com/example/portcullis/portcullis/mcl/EquationSystem$Op"), accessFlags := 16409, slot := 0, constantValue := 0 }, { name := "FALSE", type := (.object "com/example/portcullis/portcullis/mcl/EquationSystem$Op"), accessFlags := 16409, slot := 1, constantValue := 0 }, { name := "AND", type := (.object "com/example/portcullis/portcullis/mcl/EquationSystem$Op"), accessFlags := 16409, slot := 2, constantValue := 0 }, { name := "OR", type := (.object "com/example/portcullis/portcullis/mcl/EquationSystem$Op"), accessFlags := 16409, slot := 3, constantValue := 0 }, { name := "DIAMOND", type := (.object "com/example/portcullis/portcullis/mcl/EquationSystem$Op"), accessFlags := 16409, slot := 4, constantValue := 0 }, { name := "BOX", type := (.object "com/example/portcullis/portcullis/mcl/EquationSystem$Op"), accessFlags := 16409, slot := 5, constantValue := 0 }, { name := "PREDICATE", type := (.object "com/example/portcullis/portcullis/mcl/EquationSystem$Op"), accessFlags := 16409, slot := 6, constantValue := 0 }, { name := "NEGATED_PREDICATE", type := (.object "com/example/portcullis/portcullis/mcl/EquationSystem$Op"), accessFlags := 16409, slot := 7, constantValue := 0 }, { name := "ASSIGN", type := (.object "com/example/portcullis/portcullis/mcl/EquationSystem$Op"), accessFlags := 16409, slot := 8, constantValue := 0 }, { name := "EXISTS", type := (.object "com/example/portcullis/portcullis/mcl/EquationSystem$Op"), accessFlags := 16409, slot := 9, constantValue := 0 }, { name := "FORALL", type := (.object "com/example/portcullis/portcullis/mcl/EquationSystem$Op"), accessFlags := 16409, slot := 10, constantValue := 0 }, { name := "MATCH", type := (.object "com/example/portcullis/portcullis/mcl/EquationSystem$Op"), accessFlags := 16409, slot := 11, constantValue := 0 }, { name := "conjunctive", type := .boolean, accessFlags := 18, slot := 3, constantValue := 0 }, { name := "$VALUES", type := (.array (.object "com/example/portcullis/portcullis/mcl/EquationSystem$Op")), accessFlags := 4122, slot := 12, constantValue := 0 }]
  methods := #[k6m0]
  instanceTypes := #[(.object "java/lang/String"), .int, .int, .boolean]
  staticTypes := #[(.object "com/example/portcullis/portcullis/mcl/EquationSystem$Op"), (.object "com/example/portcullis/portcullis/mcl/EquationSystem$Op"), (.object "com/example/portcullis/portcullis/mcl/EquationSystem$Op"), (.object "com/example/portcullis/portcullis/mcl/EquationSystem$Op"), (.object "com/example/portcullis/portcullis/mcl/EquationSystem$Op"), (.object "com/example/portcullis/portcullis/mcl/EquationSystem$Op"), (.object "com/example/portcullis/portcullis/mcl/EquationSystem$Op"), (.object "com/example/portcullis/portcullis/mcl/EquationSystem$Op"), (.object "com/example/portcullis/portcullis/mcl/EquationSystem$Op"), (.object "com/example/portcullis/portcullis/mcl/EquationSystem$Op"), (.object "com/example/portcullis/portcullis/mcl/EquationSystem$Op"), (.object "com/example/portcullis/portcullis/mcl/EquationSystem$Op"), (.array (.object "com/example/portcullis/portcullis/mcl/EquationSystem$Op"))]
  resolved := Array.replicate 103 none
  statics := some 0 }

def pool7 : Array CpInfo := pool [(1, u "java/lang/Cloneable"), (0, .class_ 1), (0, u "java/lang/Object"), (0, .class_ 3)] 3

/-- java/lang/Cloneable -/
def k7 : Class := { plain "java/lang/Cloneable" (some 0) with
  accessFlags := 1537
  interfaces := #[]
  cf := some (fileOf pool7 2 #[] #[] 1537 4 #[] #[])
  fields := #[]
  methods := #[]
  instanceTypes := #[]
  staticTypes := #[]
  resolved := Array.replicate 8 none
  statics := none }

/-- the primitive byte -/
def k8 : Class := { plain "byte" none with kind := .primitive 'B', accessFlags := 0x411 }
/-- [B -/
def k9 : Class := { plain "[B" (some 0) with kind := .array 8 .byte, interfaces := #[7, 4], accessFlags := 1041 }

/-- the primitive int -/
def k10 : Class := { plain "int" none with kind := .primitive 'I', accessFlags := 0x411 }
/-- [I -/
def k11 : Class := { plain "[I" (some 0) with kind := .array 10 .int, interfaces := #[7, 4], accessFlags := 1041 }

def heap : Heap := #[{ cls := 6, slots := #[.ref 1, .ref 2, .ref 3, .ref 4, .ref 5, .ref 6, .ref 7, .ref 8, .ref 9, .ref 10, .ref 11, .ref 12, .null], vm := .statics 6 },
  { cls := 6, slots := #[.null, .int 0, .int 0, .int 0], vm := .none },
  { cls := 6, slots := #[.null, .int 1, .int 0, .int 0], vm := .none },
  { cls := 6, slots := #[.null, .int 2, .int 0, .int 0], vm := .none },
  { cls := 6, slots := #[.null, .int 3, .int 0, .int 0], vm := .none },
  { cls := 6, slots := #[.null, .int 4, .int 0, .int 0], vm := .none },
  { cls := 6, slots := #[.null, .int 5, .int 0, .int 0], vm := .none },
  { cls := 6, slots := #[.null, .int 6, .int 0, .int 0], vm := .none },
  { cls := 6, slots := #[.null, .int 7, .int 0, .int 0], vm := .none },
  { cls := 6, slots := #[.null, .int 8, .int 0, .int 0], vm := .none },
  { cls := 6, slots := #[.null, .int 9, .int 0, .int 0], vm := .none },
  { cls := 6, slots := #[.null, .int 10, .int 0, .int 0], vm := .none },
  { cls := 6, slots := #[.null, .int 11, .int 0, .int 0], vm := .none }]
def classes : Array Class := #[k0, k1, k2, k3, k4, k5, k6, k7, k8, k9, k10, k11]
def interned : List (Array UInt16 × Addr) := []
def slotsUsed : Nat := 61
def theMethod : MethodId := ⟨1, 1⟩
def args0 : Array Value := #[.int 5]
def aboutOver (below : List Frame) : State where
  vm := { classes := classes, interned := interned.toArray }
  heap := heap
  slotsUsed := slotsUsed
  threads := #[{ frames := .invoking theMethod args0 :: below }]
def below0 : List Frame := [.native { method := ⟨0, 0⟩, args := #[] }]
def about1 : State := aboutOver below0
def p0 : Program := .bare "" "" ""
def e0 : Env := launch0.env 0 0 0
theorem w_frames : about1.frames = Frame.invoking theMethod args0 :: below0 := rfl
set_option maxRecDepth 65536 in
theorem w_args : argsFit about1.vm theMethod args0 = true := by decide +kernel
set_option maxRecDepth 65536 in
theorem w_heap : heapFits about1 = true := by decide +kernel
set_option maxRecDepth 65536 in
theorem w_runnable : about1.curStatus? = some .runnable := by decide +kernel
set_option maxRecDepth 65536 in
theorem w_alone : about1.alone = true := by decide +kernel
set_option maxRecDepth 65536 in
theorem w_named : about1.methodNamed? x = some theMethod := by decide +kernel
set_option maxRecDepth 65536 in
theorem w_hears : about1.hears theMethod below0 = true := by decide +kernel
set_option maxRecDepth 65536 in
theorem w_ripe : about1.ripe theMethod args0 below0 = true := by decide +kernel
theorem w_running : about1.status = .running := rfl
set_option maxRecDepth 65536 in
theorem w_room : about1.hasRoom e0.platform room_1 = true :=
  launch0.hasRoom_least _ room_1 (by decide +kernel) (by decide +kernel) (by decide +kernel) (by decide +kernel) (by decide +kernel) (by decide +kernel)
theorem allAtoms_all (ts : List Jvm.Cond) (a : Array Jvm.Value) (st : Jvm.State) : (allAtoms ts).before a st = ts.all (fun c => c.before a st) := by
  induction ts with
  | nil => rfl
  | cons c t ih =>
    show (Jvm.Cond.and c (allAtoms t)).before a st = _
    rw [Jvm.Cond.before_and, ih, List.all_cons]
def words1 : List Jvm.Cond := Jvm.Cond.code x code maxLocals ret :: tables_1
/-- a 'code' word, met by the world's own term for the bytes: nothing is compared byte by byte -/
theorem code_word {y : MethodName} {bytes : ByteArray} {mx : Nat} {rt : Option FieldType} {a : Array Value} {s : State} {m : MethodId} {meth : Method} {c : Code} (h1 : s.methodNamed? y = some m) (h2 : s.vm.method? m = some meth) (h3 : meth.code = some c) (h4 : c.code = bytes)
    (h5 : (c.maxLocals == mx && c.exceptionTable.isEmpty && decide (c.maxStack ≤ mostOperands) && decide (meth.sig.returnType = rt) && !meth.locks && decide (parseMethodDescriptor y.desc = some meth.sig)) = true) : (Jvm.Cond.code y bytes mx rt).before a s = true := by
  simp only [Bool.and_eq_true, beq_iff_eq, Bool.not_eq_true', decide_eq_true_eq] at h5
  obtain ⟨⟨⟨⟨⟨g1, g2⟩, g3⟩, g4⟩, g5⟩, g6⟩ := h5
  simp [Cond.before, Cond.holds, Cond.value, h1, h2, h3, h4, g1, g2, g3, g4, g5, g6]
def isCode : Jvm.Cond → Bool
  | .code _ _ _ _ => true
  | _ => false
theorem all_split {L : List Jvm.Cond} {P : Jvm.Cond → Bool} (h1 : L.all (fun c => isCode c || P c) = true) (h2 : ∀ c ∈ L.filter isCode, P c = true) : L.all P = true := by
  refine List.all_eq_true.mpr fun c hc => ?_
  have h := List.all_eq_true.mp h1 c hc
  rcases Bool.eq_false_or_eq_true (isCode c) with hi | hi
  · exact h2 c (List.mem_filter.mpr ⟨hc, hi⟩)
  · simpa [hi] using h
set_option maxRecDepth 65536 in
theorem w_c0 : (Jvm.Cond.code x code maxLocals ret).before args0 about1 = true := code_word (m := ⟨1, 1⟩) (meth := k1m1) (c := k1c1) (by decide +kernel) rfl rfl rfl (by decide +kernel)
set_option maxRecDepth 65536 in
theorem w_c1 : (Jvm.Cond.code ({ cls := "com/example/portcullis/portcullis/mcl/OpIsEvaluatedPinLaw", name := "opOf", desc := "(I)Lcom/example/portcullis/portcullis/mcl/EquationSystem$Op;" } : Jvm.MethodName) method_3_code (1 : Nat) (Option.some (Jvm.ClassFile.FieldType.object "com/example/portcullis/portcullis/mcl/EquationSystem$Op"))).before args0 about1 = true := code_word (m := ⟨1, 2⟩) (meth := k1m2) (c := k1c2) (by decide +kernel) rfl rfl rfl (by decide +kernel)
set_option maxRecDepth 65536 in
theorem w_c2 : (Jvm.Cond.code ({ cls := "com/example/portcullis/portcullis/mcl/EquationSystem$Op", name := "isEvaluated", desc := "()Z" } : Jvm.MethodName) prog_113_method_5_code (1 : Nat) (Option.some Jvm.ClassFile.FieldType.boolean)).before args0 about1 = true := code_word (m := ⟨6, 0⟩) (meth := k6m0) (c := k6c0) (by decide +kernel) rfl rfl rfl (by decide +kernel)
set_option maxRecDepth 65536 in
theorem w_c3 : (Jvm.Cond.code ({ cls := "com/example/portcullis/portcullis/mcl/OpIsEvaluatedPinLaw", name := "expected", desc := "(I)Z" } : Jvm.MethodName) method_4_code (1 : Nat) (Option.some Jvm.ClassFile.FieldType.boolean)).before args0 about1 = true := code_word (m := ⟨1, 3⟩) (meth := k1m3) (c := k1c3) (by decide +kernel) rfl rfl rfl (by decide +kernel)
def codes1 : List Jvm.Cond := [Jvm.Cond.code x code maxLocals ret, Jvm.Cond.code ({ cls := "com/example/portcullis/portcullis/mcl/OpIsEvaluatedPinLaw", name := "opOf", desc := "(I)Lcom/example/portcullis/portcullis/mcl/EquationSystem$Op;" } : Jvm.MethodName) method_3_code (1 : Nat) (Option.some (Jvm.ClassFile.FieldType.object "com/example/portcullis/portcullis/mcl/EquationSystem$Op")), Jvm.Cond.code ({ cls := "com/example/portcullis/portcullis/mcl/EquationSystem$Op", name := "isEvaluated", desc := "()Z" } : Jvm.MethodName) prog_113_method_5_code (1 : Nat) (Option.some Jvm.ClassFile.FieldType.boolean), Jvm.Cond.code ({ cls := "com/example/portcullis/portcullis/mcl/OpIsEvaluatedPinLaw", name := "expected", desc := "(I)Z" } : Jvm.MethodName) method_4_code (1 : Nat) (Option.some Jvm.ClassFile.FieldType.boolean)]
set_option maxRecDepth 65536 in
theorem codes_eq : words1.filter isCode = codes1 := rfl
theorem w_codes : ∀ c ∈ words1.filter isCode, c.before args0 about1 = true := by
  rw [codes_eq]
  intro c hc
  simp only [codes1, List.mem_cons, List.not_mem_nil, or_false] at hc
  rcases hc with rfl | rfl | rfl | rfl
  · exact w_c0
  · exact w_c1
  · exact w_c2
  · exact w_c3
set_option maxRecDepth 65536 in
theorem w_t1 : (words1.take 24).all (fun c => isCode c || c.before args0 about1) = true := by decide +kernel
set_option maxRecDepth 65536 in
theorem w_t2 : (words1.drop 24).all (fun c => isCode c || c.before args0 about1) = true := by decide +kernel
theorem w_tables : (allAtoms (Jvm.Cond.code x code maxLocals ret :: tables_1)).before args0 about1 = true := by
  rw [allAtoms_all]
  show words1.all (fun c => c.before args0 about1) = true
  refine all_split ?_ w_codes
  rw [← List.take_append_drop 24 words1, List.all_append, w_t1, w_t2]
  rfl
set_option maxRecDepth 65536 in
theorem w_case : (Jvm.Cond.and given_1 narrow_1).before args0 about1 = true := by decide +kernel
theorem w_applies : (headSpec (Jvm.Cond.code x code maxLocals ret :: tables_1) room_1).applies x e0.platform about1 = true :=
  (Spec.applies_iff w_frames).mpr ⟨w_running, w_runnable, w_alone, w_named, w_hears, w_ripe, w_room, w_tables⟩
theorem atStart : AtStart classFile x code maxLocals ret World_1 tables_1 room_1 Calls_1 rest_1 Pre_1 launch0 p0 e0 about1 theMethod args0 below0 :=
  ⟨lists_1, trivial, launch0.admits_env _ _ _, launch0.least_env, fairChoices_fair.cas, fairChoices_fair.clock, w_frames, w_args, w_heap, w_applies, trivial, trivial, w_case⟩
end start1
theorem witness_1 : WitnessClaimed_1 := ⟨start1.p0, start1.e0, start1.about1, start1.theMethod, start1.args0, start1.below0, start1.atStart⟩
end Jvm.Pilot.@@N@@
