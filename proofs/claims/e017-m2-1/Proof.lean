import JvmDerived
import JvmDerived.Pilot.@@N@@Statement
import JvmDerived.Pilot.@@N@@Code
set_option linter.unusedVariables false
set_option linter.unusedSimpArgs false
namespace Jvm.Pilot.@@N@@
open Jvm Jvm.ClassFile Sem Op Lib Jvm.Free Jvm.Stand Jvm.LawKit Jvm.RoadKit Bundle Jvm.Pilot.@@N@@.Jvm.D
/-! what a walk owes: from the state U on the run comes to the end of the method's frame, and Q holds there -/
def own_Ends (p : Program) (e : Env) (s : State) (below : List Frame) (Q : Option Value → Heap → List Loc → Prop) (kc ks : Nat) (U : State) : Prop :=
  ∃ s₂ o, Steps p.tables e below U s₂ ∧ s₂.status = .running ∧ Ended s₂ below o ∧ ∃ v L, o = .returned v ∧ Q v s₂.heap L ∧ FrameEnd s o s₂ L kc ks
section OwnWalk
variable {p : Program} {l : Launch} {e : Env} {R : Room} {s : State} {m : MethodId} {args : Array Value} {below : List Frame} {meth : Method} {c : Code} {T : State} {locs : List Loc} {cells slots : Nat} {Q : Option Value → Heap → List Loc → Prop} {kc ks : Nat} {U U' : State}
theorem own_st (k : ∀ t, Steps p.tables e below U' t → Steps p.tables e below U t) (h : own_Ends p e s below Q kc ks U') : own_Ends p e s below Q kc ks U := by
  obtain ⟨s₂, o, h1, h2⟩ := h
  exact ⟨s₂, o, k _ h1, h2⟩
theorem own_tr (k : Steps p.tables e below U U') (h : own_Ends p e s below Q kc ks U') : own_Ends p e s below Q kc ks U := own_st (fun _ h => k.trans h) h
theorem own_fin (X : Stand p l e R s m args below meth c T locs cells slots) {v : Option Value} {g : JFrame} (hv : meth.sig.returnType = none → v = none) (hlk : meth.locks = false) (hc : cells ≤ kc) (hs : slots ≤ ks) (hQ : Q v T.heap locs)
    (st : ∀ fs, (∀ (f : JFrame) (acts : List Action), f.method = m → f.locked = none → f.entered = [] → (doReturn e (T.setTop f) acts v).1 = T.setFrames fs) → Steps p.tables e below (T.setTop g) (T.setFrames fs)) : own_Ends p e s below Q kc ks (T.setTop g) := by
  obtain ⟨fs, hr, hrun, hended, hW, hsame⟩ := X.leave (v := v) hv hlk
  exact ⟨_, _, st fs hr, hrun, hended, v, locs, rfl, hQ, ⟨_, rfl⟩, hW, hsame.mono hc hs⟩
theorem own_retV (X : Stand p l e R s m args below meth c T locs cells slots) (hx : p.tables.exec = Jvm.exec) {pc : Nat} {Ls : Array Slot} {st : List Value} (hret : meth.sig.returnType = none) (hlk : meth.locks = false) (hd : decode c.code pc = .ok (.return_, 1)) (hc : cells ≤ kc) (hs : slots ≤ ks) (hQ : Q none T.heap locs) : own_Ends p e s below Q kc ks (T.setTop (mkF m pc Ls [])) :=
  own_fin X (v := none) (fun _ => rfl) hlk hc hs hQ fun fs hr => X.returnOut hx hret hd hr
theorem own_retN (X : Stand p l e R s m args below meth c T locs cells slots) (hx : p.tables.exec = Jvm.exec) {pc : Nat} {Ls : Array Slot} {z : Int32} {t : FieldType} {rest : List Value} (hret : meth.sig.returnType = some t) (hlk : meth.locks = false) (ht : t = .boolean ∨ t = .byte ∨ t = .char ∨ t = .short) (hz : nar t z = z) (hd : decode c.code pc = .ok (.ireturn, 1)) (hc : cells ≤ kc) (hs : slots ≤ ks) (hQ : Q (some (.int z)) T.heap locs) : own_Ends p e s below Q kc ks (T.setTop (mkF m pc Ls (.int z :: rest))) :=
  own_fin X (v := some (.int z)) (fun h => by rw [hret] at h; cases h) hlk hc hs hQ fun fs hr => retN X hx hret ht hd (by rw [hz]; exact hr)
theorem own_retO (X : Stand p l e R s m args below meth c T locs cells slots) (hx : p.tables.exec = Jvm.exec) {pc : Nat} {Ls : Array Slot} {w : Value} {t : FieldType} {i : Instr} {rest : List Value} (hret : meth.sig.returnType = some t) (hlk : meth.locks = false) (hn : narrow t w = w)
    (hi : (i = .ireturn ∧ (t = .int ∨ t = .boolean ∨ t = .byte ∨ t = .char ∨ t = .short) ∧ ∃ z, w = .int z) ∨ (i = .lreturn ∧ t = .long ∧ ∃ z, w = .long z) ∨ (i = .dreturn ∧ t = .double ∧ ∃ z, w = .double z) ∨ (i = .freturn ∧ t = .float ∧ ∃ z, w = .float z) ∨ (i = .areturn ∧ t.isReference = true ∧ w.isRef = true))
    (hd : decode c.code pc = .ok (i, 1)) (hc : cells ≤ kc) (hs : slots ≤ ks) (hQ : Q (some w) T.heap locs) : own_Ends p e s below Q kc ks (T.setTop (mkF m pc Ls (w :: rest))) :=
  own_fin X (v := some w) (fun h => by rw [hret] at h; cases h) hlk hc hs hQ fun fs hr => retOut X hx hret hn hi hd hr
theorem own_retI (X : Stand p l e R s m args below meth c T locs cells slots) (hx : p.tables.exec = Jvm.exec) {pc : Nat} {Ls : Array Slot} {z : Int32} {rest : List Value} (hret : meth.sig.returnType = some .int) (hlk : meth.locks = false) (hd : decode c.code pc = .ok (.ireturn, 1)) (hc : cells ≤ kc) (hs : slots ≤ ks) (hQ : Q (some (.int z)) T.heap locs) : own_Ends p e s below Q kc ks (T.setTop (mkF m pc Ls (.int z :: rest))) :=
  own_retO X hx hret hlk rfl (Or.inl ⟨rfl, Or.inl rfl, _, rfl⟩) hd hc hs hQ
theorem own_retJ (X : Stand p l e R s m args below meth c T locs cells slots) (hx : p.tables.exec = Jvm.exec) {pc : Nat} {Ls : Array Slot} {z : Int64} {rest : List Value} (hret : meth.sig.returnType = some .long) (hlk : meth.locks = false) (hd : decode c.code pc = .ok (.lreturn, 1)) (hc : cells ≤ kc) (hs : slots ≤ ks) (hQ : Q (some (.long z)) T.heap locs) : own_Ends p e s below Q kc ks (T.setTop (mkF m pc Ls (.long z :: rest))) :=
  own_retO X hx hret hlk rfl (Or.inr (Or.inl ⟨rfl, rfl, _, rfl⟩)) hd hc hs hQ
theorem own_retA (X : Stand p l e R s m args below meth c T locs cells slots) (hx : p.tables.exec = Jvm.exec) {pc : Nat} {Ls : Array Slot} {a : Addr} {t : FieldType} {rest : List Value} (hret : meth.sig.returnType = some t) (hlk : meth.locks = false) (ht : t.isReference = true) (hn : narrow t (.ref a) = .ref a) (hd : decode c.code pc = .ok (.areturn, 1)) (hc : cells ≤ kc) (hs : slots ≤ ks) (hQ : Q (some (.ref a)) T.heap locs) : own_Ends p e s below Q kc ks (T.setTop (mkF m pc Ls (.ref a :: rest))) :=
  own_retO X hx hret hlk hn (Or.inr (Or.inr (Or.inr (Or.inr ⟨rfl, ht, rfl⟩)))) hd hc hs hQ
end OwnWalk
/-! the plain law -/
def own_o (x : Int32) : Int32 := (178 : Int32) + (x &&& (7 : Int32))
/-- what the project's method answers -/
def own_ref (o t : Int32) : Int32 := if 181 < o then (if o = 182 then (if t = 10 then 1 else 0) else if o = 185 then (if t = 11 then 1 else 0) else if t = 10 then 1 else if t = 11 then 1 else 0) else if t = 9 then 1 else 0
/-- the kinds that the law allows -/
def own_all (o : Int32) : Int32 := if o = 178 then 1 else if o = 179 then 1 else if o = 180 then 1 else if o = 181 then 1 else if o = 182 then 2 else if o = 185 then 4 else 6
theorem own_o_cases (x : Int32) : own_o x = 178 ∨ own_o x = 179 ∨ own_o x = 180 ∨ own_o x = 181 ∨ own_o x = 182 ∨ own_o x = 183 ∨ own_o x = 184 ∨ own_o x = 185 := by
  have h : ∃ n : Fin 8, (x &&& (7 : Int32)) = Int32.ofNat n.1 := by
    refine ⟨⟨(x &&& 7).toBitVec.toNat, ?_⟩, ?_⟩
    · simp only [Int32.toBitVec_and, BitVec.toNat_and]
      exact Nat.lt_of_le_of_lt Nat.and_le_right (by decide)
    · apply Int32.toBitVec_inj.mp
      show _ = BitVec.ofNat 32 _
      rw [BitVec.ofNat_toNat]; simp
  obtain ⟨n, hn⟩ := h
  unfold own_o
  rw [hn]
  clear hn
  revert n
  decide +kernel
theorem own_t_cases (t : Int32) (h1 : ¬ t < 9) (h2 : ¬ 11 < t) : t = 9 ∨ t = 10 ∨ t = 11 := by
  rw [Int32.lt_iff_toInt_lt] at h1 h2
  have e1 : (9 : Int32).toInt = 9 := rfl
  have e2 : (11 : Int32).toInt = 11 := rfl
  have h : t.toInt = 9 ∨ t.toInt = 10 ∨ t.toInt = 11 := by omega
  rcases h with h | h | h
  · exact Or.inl (Int32.toInt_inj.mp h)
  · exact Or.inr (Or.inl (Int32.toInt_inj.mp h))
  · exact Or.inr (Or.inr (Int32.toInt_inj.mp h))
theorem own_mid (x t : Int32) (h1 : ¬ t < 9) (h2 : ¬ 11 < t) : own_ref (own_o x) t = (if ((own_all (own_o x) >>> ((t - 9) &&& 31)) &&& 1) = 0 then 0 else 1) := by
  rcases own_o_cases x with h | h | h | h | h | h | h | h <;> rw [h] <;> rcases own_t_cases t h1 h2 with rfl | rfl | rfl <;> decide +kernel
theorem own_out (o t : Int32) (h : t < 9 ∨ 11 < t) : own_ref o t = 0 := by
  have n1 : ¬ t = 9 := fun q => by subst q; exact absurd h (by decide)
  have n2 : ¬ t = 10 := fun q => by subst q; exact absurd h (by decide)
  have n3 : ¬ t = 11 := fun q => by subst q; exact absurd h (by decide)
  simp [own_ref, n1, n2, n3]
theorem d1_0 : decode prog_73_method_6_code 0 = .ok (.iload_n 0, 1) := by decide +kernel
theorem d1_1 : decode prog_73_method_6_code 1 = .ok (.sipush 181, 3) := by decide +kernel
theorem d1_4 : decode prog_73_method_6_code 4 = .ok (.if_icmp .gt 15, 3) := by decide +kernel
theorem d1_7 : decode prog_73_method_6_code 7 = .ok (.iload_n 1, 1) := by decide +kernel
theorem d1_8 : decode prog_73_method_6_code 8 = .ok (.bipush 9, 2) := by decide +kernel
theorem d1_10 : decode prog_73_method_6_code 10 = .ok (.if_icmp .ne 7, 3) := by decide +kernel
theorem d1_13 : decode prog_73_method_6_code 13 = .ok (.iconst 1, 1) := by decide +kernel
theorem d1_14 : decode prog_73_method_6_code 14 = .ok (.goto 4, 3) := by decide +kernel
theorem d1_17 : decode prog_73_method_6_code 17 = .ok (.iconst 0, 1) := by decide +kernel
theorem d1_18 : decode prog_73_method_6_code 18 = .ok (.ireturn, 1) := by decide +kernel
theorem d1_19 : decode prog_73_method_6_code 19 = .ok (.iload_n 0, 1) := by decide +kernel
theorem d1_20 : decode prog_73_method_6_code 20 = .ok (.sipush 182, 3) := by decide +kernel
theorem d1_23 : decode prog_73_method_6_code 23 = .ok (.if_icmp .ne 15, 3) := by decide +kernel
theorem d1_26 : decode prog_73_method_6_code 26 = .ok (.iload_n 1, 1) := by decide +kernel
theorem d1_27 : decode prog_73_method_6_code 27 = .ok (.bipush 10, 2) := by decide +kernel
theorem d1_29 : decode prog_73_method_6_code 29 = .ok (.if_icmp .ne 7, 3) := by decide +kernel
theorem d1_32 : decode prog_73_method_6_code 32 = .ok (.iconst 1, 1) := by decide +kernel
theorem d1_33 : decode prog_73_method_6_code 33 = .ok (.goto 4, 3) := by decide +kernel
theorem d1_36 : decode prog_73_method_6_code 36 = .ok (.iconst 0, 1) := by decide +kernel
theorem d1_37 : decode prog_73_method_6_code 37 = .ok (.ireturn, 1) := by decide +kernel
theorem d1_38 : decode prog_73_method_6_code 38 = .ok (.iload_n 0, 1) := by decide +kernel
theorem d1_39 : decode prog_73_method_6_code 39 = .ok (.sipush 185, 3) := by decide +kernel
theorem d1_42 : decode prog_73_method_6_code 42 = .ok (.if_icmp .ne 15, 3) := by decide +kernel
theorem d1_45 : decode prog_73_method_6_code 45 = .ok (.iload_n 1, 1) := by decide +kernel
theorem d1_46 : decode prog_73_method_6_code 46 = .ok (.bipush 11, 2) := by decide +kernel
theorem d1_48 : decode prog_73_method_6_code 48 = .ok (.if_icmp .ne 7, 3) := by decide +kernel
theorem d1_51 : decode prog_73_method_6_code 51 = .ok (.iconst 1, 1) := by decide +kernel
theorem d1_52 : decode prog_73_method_6_code 52 = .ok (.goto 4, 3) := by decide +kernel
theorem d1_55 : decode prog_73_method_6_code 55 = .ok (.iconst 0, 1) := by decide +kernel
theorem d1_56 : decode prog_73_method_6_code 56 = .ok (.ireturn, 1) := by decide +kernel
theorem d1_57 : decode prog_73_method_6_code 57 = .ok (.iload_n 1, 1) := by decide +kernel
theorem d1_58 : decode prog_73_method_6_code 58 = .ok (.bipush 10, 2) := by decide +kernel
theorem d1_60 : decode prog_73_method_6_code 60 = .ok (.if_icmp .eq 9, 3) := by decide +kernel
theorem d1_63 : decode prog_73_method_6_code 63 = .ok (.iload_n 1, 1) := by decide +kernel
theorem d1_64 : decode prog_73_method_6_code 64 = .ok (.bipush 11, 2) := by decide +kernel
theorem d1_66 : decode prog_73_method_6_code 66 = .ok (.if_icmp .ne 7, 3) := by decide +kernel
theorem d1_69 : decode prog_73_method_6_code 69 = .ok (.iconst 1, 1) := by decide +kernel
theorem d1_70 : decode prog_73_method_6_code 70 = .ok (.goto 4, 3) := by decide +kernel
theorem d1_73 : decode prog_73_method_6_code 73 = .ok (.iconst 0, 1) := by decide +kernel
theorem d1_74 : decode prog_73_method_6_code 74 = .ok (.ireturn, 1) := by decide +kernel
theorem pn_rm1 : plainName "com/example/bytewright/bytewright/io/Opcodes" = true := by first | (simp [plainName, overriddenIn]; done) | decide +kernel
theorem pd_d1 : parseMethodDescriptor "(II)Z" = some ⟨[.int, .int], some .boolean⟩ := by decide +kernel
theorem ef_rm1 (m : MethodId) (x0 : Int32) (x1 : Int32) : entryFrame m #[(.int x0), (.int x1)] 2 = mkF m 0 #[.val (.int x0), .val (.int x1)] [] := by first | (simp [entryFrame, mkF, argsToLocals, Value.category, maxLocals]; done) | rfl
def Q_rm1 (Z : State) (p1 : Int32) (p2 : Int32) (h0 : Heap) (n0 : Nat) (v : Option Value) (h : Heap) (L : List Loc) : Prop := v = some (.int (own_ref p1 p2)) ∧ Fr n0 L ∧ h = h0
set_option maxRecDepth 65536 in
set_option maxHeartbeats 40000000 in
theorem rm1 (l : Launch) (Z : State) (a0 : Array Value) (hw : ∀ d ∈ tables_1, d.before a0 Z = true) (ws : List Jvm.Cond) (p1 : Int32) (p2 : Int32) (h0 : Heap) (n0 : Nat) (Z0 : n0 ≤ h0.size)  :
    MetFree l (⟨"com/example/bytewright/bytewright/io/Opcodes", "refersTo", "(II)Z"⟩ : MethodName) (head1 (Jvm.Cond.code (⟨"com/example/bytewright/bytewright/io/Opcodes", "refersTo", "(II)Z"⟩ : MethodName) prog_73_method_6_code 2 (some .boolean) :: ws) ({ frames := 0, cells := 0, slots := 0, locals := 0 } : Room)) (fun as1 U => as1 = #[(.int p1), (.int p2)] ∧ Z.Warmed39 U.vm ∧ U.heap = h0) (fun _ _ _ _ _ => True) (fun _ U o U' => ∃ v L, o = .returned v ∧ Q_rm1 Z p1 p2 h0 n0 v U'.heap L ∧ FrameEnd U o U' L ({ frames := 0, cells := 0, slots := 0, locals := 0 } : Room).cells ({ frames := 0, cells := 0, slots := 0, locals := 0 } : Room).slots) := by
  refine MetFree.of_bodySF (plainFor_of_name pn_rm1) hisR ?_
  intro p e s m args below meth c s₁ Bd hml0 hP hK
  obtain ⟨rfl, hZ, hh⟩ := hP
  have hx := Bd.exec
  have hby := Bd.bytes
  have hml : c.maxLocals = 2 := hml0
  have hown : s.vm.findClass "com/example/bytewright/bytewright/io/Opcodes" = some m.cls := findClass_of_methodNamed Bd.named
  have hnm := (name_of_methodNamed Bd.named Bd.method).1
  have X0 : Stand p l e ({ frames := 0, cells := 0, slots := 0, locals := 0 } : Room) s m #[(.int p1), (.int p2)] below meth c s₁ [] 0 0 := Stand.of_body Bd
  have e0 : s₁.heap = h0 := by rw [← hh, Bd.state]; rfl
  have N0 := Fr.nil n0
  show own_Ends p e s below (Q_rm1 Z p1 p2 h0 n0) ({ frames := 0, cells := 0, slots := 0, locals := 0 } : Room).cells ({ frames := 0, cells := 0, slots := 0, locals := 0 } : Room).slots (s₁.setTop (entryFrame m #[(.int p1), (.int p2)] 2))
  refine own_st (U' := (s₁.setTop (mkF m 0 #[.val (.int p1), .val (.int p2)] []))) (fun _ k => castTop (ef_rm1 m p1 p2) k) ?_
  refine own_st (U' := (s₁.setTop (mkF m 1 #[.val (.int p1), .val (.int p2)] [(.int p1)]))) (fun _ k => XS.iloadN X0.here hx rfl (hb hby d1_0) rfl k) ?_
  refine own_st (U' := (s₁.setTop (mkF m 4 #[.val (.int p1), .val (.int p2)] [(.int (181 : Int32)), (.int p1)]))) (fun _ k => XS.sipush X0.here hx rfl (hb hby d1_1) k) ?_
  by_cases c0 : (181 : Int32) < p1
  · skip
    refine own_st (U' := (s₁.setTop (mkF m 19 #[.val (.int p1), .val (.int p2)] []))) (fun _ k => XS.icmpYes X0.here hx rfl (pc0 := 4) (pc' := 19) rfl (hb hby d1_4) rfl (tlt c0).2.2.1 (by decide) (by decide) k) ?_
    refine own_st (U' := (s₁.setTop (mkF m 20 #[.val (.int p1), .val (.int p2)] [(.int p1)]))) (fun _ k => XS.iloadN X0.here hx rfl (hb hby d1_19) rfl k) ?_
    refine own_st (U' := (s₁.setTop (mkF m 23 #[.val (.int p1), .val (.int p2)] [(.int (182 : Int32)), (.int p1)]))) (fun _ k => XS.sipush X0.here hx rfl (hb hby d1_20) k) ?_
    by_cases c1 : p1 = (182 : Int32)
    · skip
      refine own_st (U' := (s₁.setTop (mkF m 26 #[.val (.int p1), .val (.int p2)] []))) (fun _ k => XS.icmpNo X0.here hx rfl (hb hby d1_23) rfl (teq c1).2 k) ?_
      refine own_st (U' := (s₁.setTop (mkF m 27 #[.val (.int p1), .val (.int p2)] [(.int p2)]))) (fun _ k => XS.iloadN X0.here hx rfl (hb hby d1_26) rfl k) ?_
      refine own_st (U' := (s₁.setTop (mkF m 29 #[.val (.int p1), .val (.int p2)] [(.int (10 : Int32)), (.int p2)]))) (fun _ k => XS.bipush X0.here hx rfl (hb hby d1_27) k) ?_
      by_cases c2 : p2 = (10 : Int32)
      · skip
        refine own_st (U' := (s₁.setTop (mkF m 32 #[.val (.int p1), .val (.int p2)] []))) (fun _ k => XS.icmpNo X0.here hx rfl (hb hby d1_29) rfl (teq c2).2 k) ?_
        have q : own_ref p1 p2 = 1 := by simp [own_ref, c0, c1, c2]
        refine own_st (U' := (s₁.setTop (mkF m 33 #[.val (.int p1), .val (.int p2)] [(.int (1 : Int32))]))) (fun _ k => XS.iconst X0.here hx rfl (hb hby d1_32) k) ?_
        refine own_st (U' := (s₁.setTop (mkF m 37 #[.val (.int p1), .val (.int p2)] [(.int (1 : Int32))]))) (fun _ k => XS.goto X0.here hx rfl (pc0 := 33) (pc' := 37) rfl (hb hby d1_33) (by decide) (by decide) k) ?_
        exact own_retN X0 hx (t := .boolean) Bd.returns Bd.notSynchronized (by simp) rfl (hb hby d1_37) (by decide) (by decide) (⟨by rw [q], N0, e0⟩)
      · skip
        refine own_st (U' := (s₁.setTop (mkF m 36 #[.val (.int p1), .val (.int p2)] []))) (fun _ k => XS.icmpYes X0.here hx rfl (pc0 := 29) (pc' := 36) rfl (hb hby d1_29) rfl (feq c2).2 (by decide) (by decide) k) ?_
        have q : own_ref p1 p2 = 0 := by simp [own_ref, c0, c1, c2]
        refine own_st (U' := (s₁.setTop (mkF m 37 #[.val (.int p1), .val (.int p2)] [(.int (0 : Int32))]))) (fun _ k => XS.iconst X0.here hx rfl (hb hby d1_36) k) ?_
        exact own_retN X0 hx (t := .boolean) Bd.returns Bd.notSynchronized (by simp) rfl (hb hby d1_37) (by decide) (by decide) (⟨by rw [q], N0, e0⟩)
    · skip
      refine own_st (U' := (s₁.setTop (mkF m 38 #[.val (.int p1), .val (.int p2)] []))) (fun _ k => XS.icmpYes X0.here hx rfl (pc0 := 23) (pc' := 38) rfl (hb hby d1_23) rfl (feq c1).2 (by decide) (by decide) k) ?_
      refine own_st (U' := (s₁.setTop (mkF m 39 #[.val (.int p1), .val (.int p2)] [(.int p1)]))) (fun _ k => XS.iloadN X0.here hx rfl (hb hby d1_38) rfl k) ?_
      refine own_st (U' := (s₁.setTop (mkF m 42 #[.val (.int p1), .val (.int p2)] [(.int (185 : Int32)), (.int p1)]))) (fun _ k => XS.sipush X0.here hx rfl (hb hby d1_39) k) ?_
      by_cases c2 : p1 = (185 : Int32)
      · skip
        refine own_st (U' := (s₁.setTop (mkF m 45 #[.val (.int p1), .val (.int p2)] []))) (fun _ k => XS.icmpNo X0.here hx rfl (hb hby d1_42) rfl (teq c2).2 k) ?_
        refine own_st (U' := (s₁.setTop (mkF m 46 #[.val (.int p1), .val (.int p2)] [(.int p2)]))) (fun _ k => XS.iloadN X0.here hx rfl (hb hby d1_45) rfl k) ?_
        refine own_st (U' := (s₁.setTop (mkF m 48 #[.val (.int p1), .val (.int p2)] [(.int (11 : Int32)), (.int p2)]))) (fun _ k => XS.bipush X0.here hx rfl (hb hby d1_46) k) ?_
        by_cases c3 : p2 = (11 : Int32)
        · skip
          refine own_st (U' := (s₁.setTop (mkF m 51 #[.val (.int p1), .val (.int p2)] []))) (fun _ k => XS.icmpNo X0.here hx rfl (hb hby d1_48) rfl (teq c3).2 k) ?_
          have q : own_ref p1 p2 = 1 := by simp [own_ref, c0, c1, c2, c3]
          refine own_st (U' := (s₁.setTop (mkF m 52 #[.val (.int p1), .val (.int p2)] [(.int (1 : Int32))]))) (fun _ k => XS.iconst X0.here hx rfl (hb hby d1_51) k) ?_
          refine own_st (U' := (s₁.setTop (mkF m 56 #[.val (.int p1), .val (.int p2)] [(.int (1 : Int32))]))) (fun _ k => XS.goto X0.here hx rfl (pc0 := 52) (pc' := 56) rfl (hb hby d1_52) (by decide) (by decide) k) ?_
          exact own_retN X0 hx (t := .boolean) Bd.returns Bd.notSynchronized (by simp) rfl (hb hby d1_56) (by decide) (by decide) (⟨by rw [q], N0, e0⟩)
        · skip
          refine own_st (U' := (s₁.setTop (mkF m 55 #[.val (.int p1), .val (.int p2)] []))) (fun _ k => XS.icmpYes X0.here hx rfl (pc0 := 48) (pc' := 55) rfl (hb hby d1_48) rfl (feq c3).2 (by decide) (by decide) k) ?_
          have q : own_ref p1 p2 = 0 := by simp [own_ref, c0, c1, c2, c3]
          refine own_st (U' := (s₁.setTop (mkF m 56 #[.val (.int p1), .val (.int p2)] [(.int (0 : Int32))]))) (fun _ k => XS.iconst X0.here hx rfl (hb hby d1_55) k) ?_
          exact own_retN X0 hx (t := .boolean) Bd.returns Bd.notSynchronized (by simp) rfl (hb hby d1_56) (by decide) (by decide) (⟨by rw [q], N0, e0⟩)
      · skip
        refine own_st (U' := (s₁.setTop (mkF m 57 #[.val (.int p1), .val (.int p2)] []))) (fun _ k => XS.icmpYes X0.here hx rfl (pc0 := 42) (pc' := 57) rfl (hb hby d1_42) rfl (feq c2).2 (by decide) (by decide) k) ?_
        refine own_st (U' := (s₁.setTop (mkF m 58 #[.val (.int p1), .val (.int p2)] [(.int p2)]))) (fun _ k => XS.iloadN X0.here hx rfl (hb hby d1_57) rfl k) ?_
        refine own_st (U' := (s₁.setTop (mkF m 60 #[.val (.int p1), .val (.int p2)] [(.int (10 : Int32)), (.int p2)]))) (fun _ k => XS.bipush X0.here hx rfl (hb hby d1_58) k) ?_
        by_cases c3 : p2 = (10 : Int32)
        · skip
          refine own_st (U' := (s₁.setTop (mkF m 69 #[.val (.int p1), .val (.int p2)] []))) (fun _ k => XS.icmpYes X0.here hx rfl (pc0 := 60) (pc' := 69) rfl (hb hby d1_60) rfl (teq c3).1 (by decide) (by decide) k) ?_
          have q : own_ref p1 p2 = 1 := by simp [own_ref, c0, c1, c2, c3]
          refine own_st (U' := (s₁.setTop (mkF m 70 #[.val (.int p1), .val (.int p2)] [(.int (1 : Int32))]))) (fun _ k => XS.iconst X0.here hx rfl (hb hby d1_69) k) ?_
          refine own_st (U' := (s₁.setTop (mkF m 74 #[.val (.int p1), .val (.int p2)] [(.int (1 : Int32))]))) (fun _ k => XS.goto X0.here hx rfl (pc0 := 70) (pc' := 74) rfl (hb hby d1_70) (by decide) (by decide) k) ?_
          exact own_retN X0 hx (t := .boolean) Bd.returns Bd.notSynchronized (by simp) rfl (hb hby d1_74) (by decide) (by decide) (⟨by rw [q], N0, e0⟩)
        · skip
          refine own_st (U' := (s₁.setTop (mkF m 63 #[.val (.int p1), .val (.int p2)] []))) (fun _ k => XS.icmpNo X0.here hx rfl (hb hby d1_60) rfl (feq c3).1 k) ?_
          refine own_st (U' := (s₁.setTop (mkF m 64 #[.val (.int p1), .val (.int p2)] [(.int p2)]))) (fun _ k => XS.iloadN X0.here hx rfl (hb hby d1_63) rfl k) ?_
          refine own_st (U' := (s₁.setTop (mkF m 66 #[.val (.int p1), .val (.int p2)] [(.int (11 : Int32)), (.int p2)]))) (fun _ k => XS.bipush X0.here hx rfl (hb hby d1_64) k) ?_
          by_cases c4 : p2 = (11 : Int32)
          · skip
            refine own_st (U' := (s₁.setTop (mkF m 69 #[.val (.int p1), .val (.int p2)] []))) (fun _ k => XS.icmpNo X0.here hx rfl (hb hby d1_66) rfl (teq c4).2 k) ?_
            have q : own_ref p1 p2 = 1 := by simp [own_ref, c0, c1, c2, c3, c4]
            refine own_st (U' := (s₁.setTop (mkF m 70 #[.val (.int p1), .val (.int p2)] [(.int (1 : Int32))]))) (fun _ k => XS.iconst X0.here hx rfl (hb hby d1_69) k) ?_
            refine own_st (U' := (s₁.setTop (mkF m 74 #[.val (.int p1), .val (.int p2)] [(.int (1 : Int32))]))) (fun _ k => XS.goto X0.here hx rfl (pc0 := 70) (pc' := 74) rfl (hb hby d1_70) (by decide) (by decide) k) ?_
            exact own_retN X0 hx (t := .boolean) Bd.returns Bd.notSynchronized (by simp) rfl (hb hby d1_74) (by decide) (by decide) (⟨by rw [q], N0, e0⟩)
          · skip
            refine own_st (U' := (s₁.setTop (mkF m 73 #[.val (.int p1), .val (.int p2)] []))) (fun _ k => XS.icmpYes X0.here hx rfl (pc0 := 66) (pc' := 73) rfl (hb hby d1_66) rfl (feq c4).2 (by decide) (by decide) k) ?_
            have q : own_ref p1 p2 = 0 := by simp [own_ref, c0, c1, c2, c3, c4]
            refine own_st (U' := (s₁.setTop (mkF m 74 #[.val (.int p1), .val (.int p2)] [(.int (0 : Int32))]))) (fun _ k => XS.iconst X0.here hx rfl (hb hby d1_73) k) ?_
            exact own_retN X0 hx (t := .boolean) Bd.returns Bd.notSynchronized (by simp) rfl (hb hby d1_74) (by decide) (by decide) (⟨by rw [q], N0, e0⟩)
  · skip
    refine own_st (U' := (s₁.setTop (mkF m 7 #[.val (.int p1), .val (.int p2)] []))) (fun _ k => XS.icmpNo X0.here hx rfl (hb hby d1_4) rfl (flt c0).2.2.1 k) ?_
    refine own_st (U' := (s₁.setTop (mkF m 8 #[.val (.int p1), .val (.int p2)] [(.int p2)]))) (fun _ k => XS.iloadN X0.here hx rfl (hb hby d1_7) rfl k) ?_
    refine own_st (U' := (s₁.setTop (mkF m 10 #[.val (.int p1), .val (.int p2)] [(.int (9 : Int32)), (.int p2)]))) (fun _ k => XS.bipush X0.here hx rfl (hb hby d1_8) k) ?_
    by_cases c1 : p2 = (9 : Int32)
    · skip
      refine own_st (U' := (s₁.setTop (mkF m 13 #[.val (.int p1), .val (.int p2)] []))) (fun _ k => XS.icmpNo X0.here hx rfl (hb hby d1_10) rfl (teq c1).2 k) ?_
      have q : own_ref p1 p2 = 1 := by simp [own_ref, c0, c1]
      refine own_st (U' := (s₁.setTop (mkF m 14 #[.val (.int p1), .val (.int p2)] [(.int (1 : Int32))]))) (fun _ k => XS.iconst X0.here hx rfl (hb hby d1_13) k) ?_
      refine own_st (U' := (s₁.setTop (mkF m 18 #[.val (.int p1), .val (.int p2)] [(.int (1 : Int32))]))) (fun _ k => XS.goto X0.here hx rfl (pc0 := 14) (pc' := 18) rfl (hb hby d1_14) (by decide) (by decide) k) ?_
      exact own_retN X0 hx (t := .boolean) Bd.returns Bd.notSynchronized (by simp) rfl (hb hby d1_18) (by decide) (by decide) (⟨by rw [q], N0, e0⟩)
    · skip
      refine own_st (U' := (s₁.setTop (mkF m 17 #[.val (.int p1), .val (.int p2)] []))) (fun _ k => XS.icmpYes X0.here hx rfl (pc0 := 10) (pc' := 17) rfl (hb hby d1_10) rfl (feq c1).2 (by decide) (by decide) k) ?_
      have q : own_ref p1 p2 = 0 := by simp [own_ref, c0, c1]
      refine own_st (U' := (s₁.setTop (mkF m 18 #[.val (.int p1), .val (.int p2)] [(.int (0 : Int32))]))) (fun _ k => XS.iconst X0.here hx rfl (hb hby d1_17) k) ?_
      exact own_retN X0 hx (t := .boolean) Bd.returns Bd.notSynchronized (by simp) rfl (hb hby d1_18) (by decide) (by decide) (⟨by rw [q], N0, e0⟩)
theorem pn_rm0 : plainName "com/example/bytewright/bytewright/io/OpcodesRefersToPinLaw" = true := by first | (simp [plainName, overriddenIn]; done) | decide +kernel
theorem ef_rm0 (m : MethodId) (x0 : Int32) (x1 : Int32) : entryFrame m #[(.int x0), (.int x1)] maxLocals = mkF m 0 #[.val (.int x0), .val (.int x1), .unset, .unset, .unset, .unset] [] := by first | (simp [entryFrame, mkF, argsToLocals, Value.category, maxLocals]; done) | rfl
def Q_rm0 (Z : State) (i0 : Int32) (i1 : Int32) (h0 : Heap) (n0 : Nat) (v : Option Value) (h : Heap) (L : List Loc) : Prop := v = some (.int 1) ∧ Fr n0 L
set_option maxRecDepth 65536 in
set_option maxHeartbeats 40000000 in
theorem rm0 (l : Launch) (Z : State) (a0 : Array Value) (hw : ∀ d ∈ tables_1, d.before a0 Z = true) (ws : List Jvm.Cond) (i0 : Int32) (i1 : Int32) (h0 : Heap) (n0 : Nat) (Z0 : n0 ≤ h0.size)  :
    MetFree l x (head1 (Jvm.Cond.code x code maxLocals ret :: ws) room_1) (fun as1 U => as1 = #[(.int i0), (.int i1)] ∧ Z.Warmed39 U.vm ∧ U.heap = h0) (fun _ _ _ _ _ => True) (fun _ U o U' => ∃ v L, o = .returned v ∧ Q_rm0 Z i0 i1 h0 n0 v U'.heap L ∧ FrameEnd U o U' L room_1.cells room_1.slots) := by
  refine MetFree.of_bodySF (plainFor_of_name pn_rm0) hisR ?_
  intro p e s m args below meth c s₁ Bd hml0 hP hK
  obtain ⟨rfl, hZ, hh⟩ := hP
  have hx := Bd.exec
  have hby := Bd.bytes
  have hml : c.maxLocals = 6 := hml0
  have hown : s.vm.findClass "com/example/bytewright/bytewright/io/OpcodesRefersToPinLaw" = some m.cls := findClass_of_methodNamed Bd.named
  have hnm := (name_of_methodNamed Bd.named Bd.method).1
  have X0 : Stand p l e room_1 s m #[(.int i0), (.int i1)] below meth c s₁ [] 0 0 := Stand.of_body Bd
  have e0 : s₁.heap = h0 := by rw [← hh, Bd.state]; rfl
  have N0 := Fr.nil n0
  show own_Ends p e s below (Q_rm0 Z i0 i1 h0 n0) room_1.cells room_1.slots (s₁.setTop (entryFrame m #[(.int i0), (.int i1)] maxLocals))
  refine own_st (U' := (s₁.setTop (mkF m 0 #[.val (.int i0), .val (.int i1), .unset, .unset, .unset, .unset] []))) (fun _ k => castTop (ef_rm0 m i0 i1) k) ?_
  refine own_st (U' := (s₁.setTop (mkF m 3 #[.val (.int i0), .val (.int i1), .unset, .unset, .unset, .unset] [(.int (178 : Int32))]))) (fun _ k => XS.sipush X0.here hx rfl (hb hby at_0) k) ?_
  refine own_st (U' := (s₁.setTop (mkF m 4 #[.val (.int i0), .val (.int i1), .unset, .unset, .unset, .unset] [(.int i0), (.int (178 : Int32))]))) (fun _ k => XS.iloadN X0.here hx rfl (hb hby at_3) rfl k) ?_
  refine own_st (U' := (s₁.setTop (mkF m 6 #[.val (.int i0), .val (.int i1), .unset, .unset, .unset, .unset] [(.int (7 : Int32)), (.int i0), (.int (178 : Int32))]))) (fun _ k => XS.bipush X0.here hx rfl (hb hby at_4) k) ?_
  refine own_st (U' := (s₁.setTop (mkF m 7 #[.val (.int i0), .val (.int i1), .unset, .unset, .unset, .unset] [(.int (i0 &&& (7 : Int32))), (.int (178 : Int32))]))) (fun _ k => XS.iand X0.here hx rfl (hb hby at_6) rfl k) ?_
  refine own_st (U' := (s₁.setTop (mkF m 8 #[.val (.int i0), .val (.int i1), .unset, .unset, .unset, .unset] [(.int (own_o i0))]))) (fun _ k => XS.iadd X0.here hx rfl (hb hby at_7) rfl k) ?_
  refine own_st (U' := (s₁.setTop (mkF m 9 #[.val (.int i0), .val (.int i1), .val (.int (own_o i0)), .unset, .unset, .unset] []))) (fun _ k => XS.istoreN X0.here hx rfl (hb hby at_8) rfl (l' := #[.val (.int i0), .val (.int i1), .val (.int (own_o i0)), .unset, .unset, .unset]) rfl k) ?_
  refine own_st (U' := (s₁.setTop (mkF m 10 #[.val (.int i0), .val (.int i1), .val (.int (own_o i0)), .unset, .unset, .unset] [(.int i1)]))) (fun _ k => XS.iloadN X0.here hx rfl (hb hby at_9) rfl k) ?_
  refine own_st (U' := (s₁.setTop (mkF m 11 #[.val (.int i0), .val (.int i1), .val (.int (own_o i0)), .unset, .unset, .unset] [(.int (1 : Int32)), (.int i1)]))) (fun _ k => XS.iconst X0.here hx rfl (hb hby at_10) k) ?_
  refine own_st (U' := (s₁.setTop (mkF m 12 #[.val (.int i0), .val (.int i1), .val (.int (own_o i0)), .unset, .unset, .unset] [(.int (i1 &&& (1 : Int32)))]))) (fun _ k => XS.iand X0.here hx rfl (hb hby at_11) rfl k) ?_
  have tail3 : ∀ t a r : Int32, r = own_ref (own_o i0) t → own_Ends p e s below (Q_rm0 Z i0 i1 h0 n0) room_1.cells room_1.slots (s₁.setTop (mkF m 121 #[.val (.int i0), .val (.int i1), .val (.int (own_o i0)), .val (.int t), .val (.int a), .unset] [(.int r)])) := by
    intro t a r hr
    refine own_st (U' := (s₁.setTop (mkF m 123 #[.val (.int i0), .val (.int i1), .val (.int (own_o i0)), .val (.int t), .val (.int a), .val (.int r)] []))) (fun _ k => XS.istore X0.here hx rfl (hb hby at_121) rfl (l' := #[.val (.int i0), .val (.int i1), .val (.int (own_o i0)), .val (.int t), .val (.int a), .val (.int r)]) rfl k) ?_
    refine own_st (U' := (s₁.setTop (mkF m 124 #[.val (.int i0), .val (.int i1), .val (.int (own_o i0)), .val (.int t), .val (.int a), .val (.int r)] [(.int (own_o i0))]))) (fun _ k => XS.iloadN X0.here hx rfl (hb hby at_123) rfl k) ?_
    refine own_st (U' := (s₁.setTop (mkF m 125 #[.val (.int i0), .val (.int i1), .val (.int (own_o i0)), .val (.int t), .val (.int a), .val (.int r)] [(.int t), (.int (own_o i0))]))) (fun _ k => XS.iloadN X0.here hx rfl (hb hby at_124) rfl k) ?_
    obtain ⟨_, _, ⟨T1, L1, k1, n1⟩, -, X1, ⟨Lc1, hQ1, l1, y1, z1⟩, st1⟩ := Jvm.LawKit.callS X0 hx (y := (⟨"com/example/bytewright/bytewright/io/Opcodes", "refersTo", "(II)Z"⟩ : MethodName)) hown (mvT hZ (hw _ (List.mem_of_getElem? (i := 0) rfl))) (mvT hZ (hw _ (List.mem_of_getElem? (i := 1) rfl))) (mvT hZ (hw _ (List.mem_of_getElem? (i := 2) rfl))) (mvT hZ (hw _ (List.mem_of_getElem? (i := 3) rfl))) (by decide) (backOf (W := 0) (rm1 l Z a0 hw [] (own_o i0) t h0 n0 Z0) hZ (hw _ (List.mem_of_getElem? (i := 3) rfl)) (hw _ (List.mem_of_getElem? (i := 2) rfl)) (by decide) (by decide)) (g := (mkF m 125 #[.val (.int i0), .val (.int i1), .val (.int (own_o i0)), .val (.int t), .val (.int a), .val (.int r)] [(.int t), (.int (own_o i0))])) rfl (by rw [hml]; rfl) (argsL := [(.int (own_o i0)), (.int t)]) (rest := []) (lenOf (pd_d1) rfl) rfl (by show 2 * 0 + _ ≤ _; exact Nat.le_of_eq rfl) (hb hby at_125) (fun _ _ => ⟨rfl, e0, (Nat.le_of_ble_eq_true rfl), (Nat.le_of_ble_eq_true rfl)⟩)
    dsimp only [Pt.U, Pt.locs, Pt.cells, Pt.slots] at X1 l1 y1 z1 st1 hQ1
    subst l1 y1 z1
    obtain ⟨rfl, N1q, eq1⟩ := hQ1
    have N1 := Fr.app N0 N1q
    refine own_st (U' := (T1.setTop (mkF m 128 #[.val (.int i0), .val (.int i1), .val (.int (own_o i0)), .val (.int t), .val (.int a), .val (.int r)] [(.int (own_ref (own_o i0) t))]))) st1 ?_
    refine own_st (U' := (T1.setTop (mkF m 130 #[.val (.int i0), .val (.int i1), .val (.int (own_o i0)), .val (.int t), .val (.int a), .val (.int r)] [(.int r), (.int (own_ref (own_o i0) t))]))) (fun _ k => XS.iload X1.here hx rfl (hb hby at_128) rfl k) ?_
    refine own_st (U' := (T1.setTop (mkF m 133 #[.val (.int i0), .val (.int i1), .val (.int (own_o i0)), .val (.int t), .val (.int a), .val (.int r)] []))) (fun _ k => XS.icmpNo X1.here hx rfl (hb hby at_130) rfl (teq hr.symm).2 k) ?_
    refine own_st (U' := (T1.setTop (mkF m 134 #[.val (.int i0), .val (.int i1), .val (.int (own_o i0)), .val (.int t), .val (.int a), .val (.int r)] [(.int (1 : Int32))]))) (fun _ k => XS.iconst X1.here hx rfl (hb hby at_133) k) ?_
    refine own_st (U' := (T1.setTop (mkF m 138 #[.val (.int i0), .val (.int i1), .val (.int (own_o i0)), .val (.int t), .val (.int a), .val (.int r)] [(.int (1 : Int32))]))) (fun _ k => XS.goto X1.here hx rfl (pc0 := 134) (pc' := 138) rfl (hb hby at_134) (by decide) (by decide) k) ?_
    exact own_retN X1 hx (t := .boolean) Bd.returns Bd.notSynchronized (by simp) rfl (hb hby at_138) (by decide) (by decide) (⟨rfl, N1⟩)
  have tail2 : ∀ t : Int32, own_Ends p e s below (Q_rm0 Z i0 i1 h0 n0) room_1.cells room_1.slots (s₁.setTop (mkF m 92 #[.val (.int i0), .val (.int i1), .val (.int (own_o i0)), .val (.int t), .val (.int (own_all (own_o i0))), .unset] [])) := by
    intro t
    refine own_st (U' := (s₁.setTop (mkF m 93 #[.val (.int i0), .val (.int i1), .val (.int (own_o i0)), .val (.int t), .val (.int (own_all (own_o i0))), .unset] [(.int t)]))) (fun _ k => XS.iloadN X0.here hx rfl (hb hby at_92) rfl k) ?_
    refine own_st (U' := (s₁.setTop (mkF m 95 #[.val (.int i0), .val (.int i1), .val (.int (own_o i0)), .val (.int t), .val (.int (own_all (own_o i0))), .unset] [(.int (9 : Int32)), (.int t)]))) (fun _ k => XS.bipush X0.here hx rfl (hb hby at_93) k) ?_
    by_cases c1 : t < (9 : Int32)
    · skip
      refine own_st (U' := (s₁.setTop (mkF m 120 #[.val (.int i0), .val (.int i1), .val (.int (own_o i0)), .val (.int t), .val (.int (own_all (own_o i0))), .unset] []))) (fun _ k => XS.icmpYes X0.here hx rfl (pc0 := 95) (pc' := 120) rfl (hb hby at_95) rfl (tlt c1).1 (by decide) (by decide) k) ?_
      refine own_st (U' := (s₁.setTop (mkF m 121 #[.val (.int i0), .val (.int i1), .val (.int (own_o i0)), .val (.int t), .val (.int (own_all (own_o i0))), .unset] [(.int (0 : Int32))]))) (fun _ k => XS.iconst X0.here hx rfl (hb hby at_120) k) ?_
      exact tail3 _ _ _ (own_out _ _ (Or.inl c1)).symm
    · skip
      refine own_st (U' := (s₁.setTop (mkF m 98 #[.val (.int i0), .val (.int i1), .val (.int (own_o i0)), .val (.int t), .val (.int (own_all (own_o i0))), .unset] []))) (fun _ k => XS.icmpNo X0.here hx rfl (hb hby at_95) rfl (flt c1).1 k) ?_
      refine own_st (U' := (s₁.setTop (mkF m 99 #[.val (.int i0), .val (.int i1), .val (.int (own_o i0)), .val (.int t), .val (.int (own_all (own_o i0))), .unset] [(.int t)]))) (fun _ k => XS.iloadN X0.here hx rfl (hb hby at_98) rfl k) ?_
      refine own_st (U' := (s₁.setTop (mkF m 101 #[.val (.int i0), .val (.int i1), .val (.int (own_o i0)), .val (.int t), .val (.int (own_all (own_o i0))), .unset] [(.int (11 : Int32)), (.int t)]))) (fun _ k => XS.bipush X0.here hx rfl (hb hby at_99) k) ?_
      by_cases c2 : (11 : Int32) < t
      · skip
        refine own_st (U' := (s₁.setTop (mkF m 120 #[.val (.int i0), .val (.int i1), .val (.int (own_o i0)), .val (.int t), .val (.int (own_all (own_o i0))), .unset] []))) (fun _ k => XS.icmpYes X0.here hx rfl (pc0 := 101) (pc' := 120) rfl (hb hby at_101) rfl (tlt c2).2.2.1 (by decide) (by decide) k) ?_
        refine own_st (U' := (s₁.setTop (mkF m 121 #[.val (.int i0), .val (.int i1), .val (.int (own_o i0)), .val (.int t), .val (.int (own_all (own_o i0))), .unset] [(.int (0 : Int32))]))) (fun _ k => XS.iconst X0.here hx rfl (hb hby at_120) k) ?_
        exact tail3 _ _ _ (own_out _ _ (Or.inr c2)).symm
      · skip
        refine own_st (U' := (s₁.setTop (mkF m 104 #[.val (.int i0), .val (.int i1), .val (.int (own_o i0)), .val (.int t), .val (.int (own_all (own_o i0))), .unset] []))) (fun _ k => XS.icmpNo X0.here hx rfl (hb hby at_101) rfl (flt c2).2.2.1 k) ?_
        refine own_st (U' := (s₁.setTop (mkF m 106 #[.val (.int i0), .val (.int i1), .val (.int (own_o i0)), .val (.int t), .val (.int (own_all (own_o i0))), .unset] [(.int (own_all (own_o i0)))]))) (fun _ k => XS.iload X0.here hx rfl (hb hby at_104) rfl k) ?_
        refine own_st (U' := (s₁.setTop (mkF m 107 #[.val (.int i0), .val (.int i1), .val (.int (own_o i0)), .val (.int t), .val (.int (own_all (own_o i0))), .unset] [(.int t), (.int (own_all (own_o i0)))]))) (fun _ k => XS.iloadN X0.here hx rfl (hb hby at_106) rfl k) ?_
        refine own_st (U' := (s₁.setTop (mkF m 109 #[.val (.int i0), .val (.int i1), .val (.int (own_o i0)), .val (.int t), .val (.int (own_all (own_o i0))), .unset] [(.int (9 : Int32)), (.int t), (.int (own_all (own_o i0)))]))) (fun _ k => XS.bipush X0.here hx rfl (hb hby at_107) k) ?_
        refine own_st (U' := (s₁.setTop (mkF m 110 #[.val (.int i0), .val (.int i1), .val (.int (own_o i0)), .val (.int t), .val (.int (own_all (own_o i0))), .unset] [(.int (t - (9 : Int32))), (.int (own_all (own_o i0)))]))) (fun _ k => XS.isub X0.here hx rfl (hb hby at_109) rfl k) ?_
        refine own_st (U' := (s₁.setTop (mkF m 111 #[.val (.int i0), .val (.int i1), .val (.int (own_o i0)), .val (.int t), .val (.int (own_all (own_o i0))), .unset] [(.int ((own_all (own_o i0)) >>> ((t - (9 : Int32)) &&& 31)))]))) (fun _ k => XS.ishr X0.here hx rfl (hb hby at_110) rfl k) ?_
        refine own_st (U' := (s₁.setTop (mkF m 112 #[.val (.int i0), .val (.int i1), .val (.int (own_o i0)), .val (.int t), .val (.int (own_all (own_o i0))), .unset] [(.int (1 : Int32)), (.int ((own_all (own_o i0)) >>> ((t - (9 : Int32)) &&& 31)))]))) (fun _ k => XS.iconst X0.here hx rfl (hb hby at_111) k) ?_
        refine own_st (U' := (s₁.setTop (mkF m 113 #[.val (.int i0), .val (.int i1), .val (.int (own_o i0)), .val (.int t), .val (.int (own_all (own_o i0))), .unset] [(.int (((own_all (own_o i0)) >>> ((t - (9 : Int32)) &&& 31)) &&& (1 : Int32)))]))) (fun _ k => XS.iand X0.here hx rfl (hb hby at_112) rfl k) ?_
        by_cases c3 : (((own_all (own_o i0)) >>> ((t - (9 : Int32)) &&& 31)) &&& (1 : Int32)) = (0 : Int32)
        · skip
          refine own_st (U' := (s₁.setTop (mkF m 120 #[.val (.int i0), .val (.int i1), .val (.int (own_o i0)), .val (.int t), .val (.int (own_all (own_o i0))), .unset] []))) (fun _ k => XS.ifYes X0.here hx rfl (pc0 := 113) (pc' := 120) rfl (hb hby at_113) rfl ((if0 _ _).trans (teq c3).1) (by decide) (by decide) k) ?_
          refine own_st (U' := (s₁.setTop (mkF m 121 #[.val (.int i0), .val (.int i1), .val (.int (own_o i0)), .val (.int t), .val (.int (own_all (own_o i0))), .unset] [(.int (0 : Int32))]))) (fun _ k => XS.iconst X0.here hx rfl (hb hby at_120) k) ?_
          exact tail3 _ _ _ (by rw [own_mid _ _ c1 c2]; simp [c3])
        · skip
          refine own_st (U' := (s₁.setTop (mkF m 116 #[.val (.int i0), .val (.int i1), .val (.int (own_o i0)), .val (.int t), .val (.int (own_all (own_o i0))), .unset] []))) (fun _ k => XS.ifNo X0.here hx rfl (hb hby at_113) rfl ((if0 _ _).trans (feq c3).1) k) ?_
          refine own_st (U' := (s₁.setTop (mkF m 117 #[.val (.int i0), .val (.int i1), .val (.int (own_o i0)), .val (.int t), .val (.int (own_all (own_o i0))), .unset] [(.int (1 : Int32))]))) (fun _ k => XS.iconst X0.here hx rfl (hb hby at_116) k) ?_
          refine own_st (U' := (s₁.setTop (mkF m 121 #[.val (.int i0), .val (.int i1), .val (.int (own_o i0)), .val (.int t), .val (.int (own_all (own_o i0))), .unset] [(.int (1 : Int32))]))) (fun _ k => XS.goto X0.here hx rfl (pc0 := 117) (pc' := 121) rfl (hb hby at_117) (by decide) (by decide) k) ?_
          exact tail3 _ _ _ (by rw [own_mid _ _ c1 c2]; simp [c3])
  have tail1 : ∀ t : Int32, own_Ends p e s below (Q_rm0 Z i0 i1 h0 n0) room_1.cells room_1.slots (s₁.setTop (mkF m 27 #[.val (.int i0), .val (.int i1), .val (.int (own_o i0)), .unset, .unset, .unset] [(.int t)])) := by
    intro t
    refine own_st (U' := (s₁.setTop (mkF m 28 #[.val (.int i0), .val (.int i1), .val (.int (own_o i0)), .val (.int t), .unset, .unset] []))) (fun _ k => XS.istoreN X0.here hx rfl (hb hby at_27) rfl (l' := #[.val (.int i0), .val (.int i1), .val (.int (own_o i0)), .val (.int t), .unset, .unset]) rfl k) ?_
    refine own_st (U' := (s₁.setTop (mkF m 29 #[.val (.int i0), .val (.int i1), .val (.int (own_o i0)), .val (.int t), .unset, .unset] [(.int (own_o i0))]))) (fun _ k => XS.iloadN X0.here hx rfl (hb hby at_28) rfl k) ?_
    refine own_st (U' := (s₁.setTop (mkF m 32 #[.val (.int i0), .val (.int i1), .val (.int (own_o i0)), .val (.int t), .unset, .unset] [(.int (178 : Int32)), (.int (own_o i0))]))) (fun _ k => XS.sipush X0.here hx rfl (hb hby at_29) k) ?_
    by_cases c0 : (own_o i0) = (178 : Int32)
    · skip
      refine own_st (U' := (s₁.setTop (mkF m 56 #[.val (.int i0), .val (.int i1), .val (.int (own_o i0)), .val (.int t), .unset, .unset] []))) (fun _ k => XS.icmpYes X0.here hx rfl (pc0 := 32) (pc' := 56) rfl (hb hby at_32) rfl (teq c0).1 (by decide) (by decide) k) ?_
      have q : own_all (own_o i0) = 1 := by simp [own_all, c0]
      refine own_st (U' := (s₁.setTop (mkF m 57 #[.val (.int i0), .val (.int i1), .val (.int (own_o i0)), .val (.int t), .unset, .unset] [(.int (1 : Int32))]))) (fun _ k => XS.iconst X0.here hx rfl (hb hby at_56) k) ?_
      refine own_st (U' := (s₁.setTop (mkF m 59 #[.val (.int i0), .val (.int i1), .val (.int (own_o i0)), .val (.int t), .val (.int (1 : Int32)), .unset] []))) (fun _ k => XS.istore X0.here hx rfl (hb hby at_57) rfl (l' := #[.val (.int i0), .val (.int i1), .val (.int (own_o i0)), .val (.int t), .val (.int (1 : Int32)), .unset]) rfl k) ?_
      refine own_st (U' := (s₁.setTop (mkF m 92 #[.val (.int i0), .val (.int i1), .val (.int (own_o i0)), .val (.int t), .val (.int (1 : Int32)), .unset] []))) (fun _ k => XS.goto X0.here hx rfl (pc0 := 59) (pc' := 92) rfl (hb hby at_59) (by decide) (by decide) k) ?_
      rw [← q]
      exact tail2 t
    · skip
      refine own_st (U' := (s₁.setTop (mkF m 35 #[.val (.int i0), .val (.int i1), .val (.int (own_o i0)), .val (.int t), .unset, .unset] []))) (fun _ k => XS.icmpNo X0.here hx rfl (hb hby at_32) rfl (feq c0).1 k) ?_
      refine own_st (U' := (s₁.setTop (mkF m 36 #[.val (.int i0), .val (.int i1), .val (.int (own_o i0)), .val (.int t), .unset, .unset] [(.int (own_o i0))]))) (fun _ k => XS.iloadN X0.here hx rfl (hb hby at_35) rfl k) ?_
      refine own_st (U' := (s₁.setTop (mkF m 39 #[.val (.int i0), .val (.int i1), .val (.int (own_o i0)), .val (.int t), .unset, .unset] [(.int (179 : Int32)), (.int (own_o i0))]))) (fun _ k => XS.sipush X0.here hx rfl (hb hby at_36) k) ?_
      by_cases c1 : (own_o i0) = (179 : Int32)
      · skip
        refine own_st (U' := (s₁.setTop (mkF m 56 #[.val (.int i0), .val (.int i1), .val (.int (own_o i0)), .val (.int t), .unset, .unset] []))) (fun _ k => XS.icmpYes X0.here hx rfl (pc0 := 39) (pc' := 56) rfl (hb hby at_39) rfl (teq c1).1 (by decide) (by decide) k) ?_
        have q : own_all (own_o i0) = 1 := by simp [own_all, c0, c1]
        refine own_st (U' := (s₁.setTop (mkF m 57 #[.val (.int i0), .val (.int i1), .val (.int (own_o i0)), .val (.int t), .unset, .unset] [(.int (1 : Int32))]))) (fun _ k => XS.iconst X0.here hx rfl (hb hby at_56) k) ?_
        refine own_st (U' := (s₁.setTop (mkF m 59 #[.val (.int i0), .val (.int i1), .val (.int (own_o i0)), .val (.int t), .val (.int (1 : Int32)), .unset] []))) (fun _ k => XS.istore X0.here hx rfl (hb hby at_57) rfl (l' := #[.val (.int i0), .val (.int i1), .val (.int (own_o i0)), .val (.int t), .val (.int (1 : Int32)), .unset]) rfl k) ?_
        refine own_st (U' := (s₁.setTop (mkF m 92 #[.val (.int i0), .val (.int i1), .val (.int (own_o i0)), .val (.int t), .val (.int (1 : Int32)), .unset] []))) (fun _ k => XS.goto X0.here hx rfl (pc0 := 59) (pc' := 92) rfl (hb hby at_59) (by decide) (by decide) k) ?_
        rw [← q]
        exact tail2 t
      · skip
        refine own_st (U' := (s₁.setTop (mkF m 42 #[.val (.int i0), .val (.int i1), .val (.int (own_o i0)), .val (.int t), .unset, .unset] []))) (fun _ k => XS.icmpNo X0.here hx rfl (hb hby at_39) rfl (feq c1).1 k) ?_
        refine own_st (U' := (s₁.setTop (mkF m 43 #[.val (.int i0), .val (.int i1), .val (.int (own_o i0)), .val (.int t), .unset, .unset] [(.int (own_o i0))]))) (fun _ k => XS.iloadN X0.here hx rfl (hb hby at_42) rfl k) ?_
        refine own_st (U' := (s₁.setTop (mkF m 46 #[.val (.int i0), .val (.int i1), .val (.int (own_o i0)), .val (.int t), .unset, .unset] [(.int (180 : Int32)), (.int (own_o i0))]))) (fun _ k => XS.sipush X0.here hx rfl (hb hby at_43) k) ?_
        by_cases c2 : (own_o i0) = (180 : Int32)
        · skip
          refine own_st (U' := (s₁.setTop (mkF m 56 #[.val (.int i0), .val (.int i1), .val (.int (own_o i0)), .val (.int t), .unset, .unset] []))) (fun _ k => XS.icmpYes X0.here hx rfl (pc0 := 46) (pc' := 56) rfl (hb hby at_46) rfl (teq c2).1 (by decide) (by decide) k) ?_
          have q : own_all (own_o i0) = 1 := by simp [own_all, c0, c1, c2]
          refine own_st (U' := (s₁.setTop (mkF m 57 #[.val (.int i0), .val (.int i1), .val (.int (own_o i0)), .val (.int t), .unset, .unset] [(.int (1 : Int32))]))) (fun _ k => XS.iconst X0.here hx rfl (hb hby at_56) k) ?_
          refine own_st (U' := (s₁.setTop (mkF m 59 #[.val (.int i0), .val (.int i1), .val (.int (own_o i0)), .val (.int t), .val (.int (1 : Int32)), .unset] []))) (fun _ k => XS.istore X0.here hx rfl (hb hby at_57) rfl (l' := #[.val (.int i0), .val (.int i1), .val (.int (own_o i0)), .val (.int t), .val (.int (1 : Int32)), .unset]) rfl k) ?_
          refine own_st (U' := (s₁.setTop (mkF m 92 #[.val (.int i0), .val (.int i1), .val (.int (own_o i0)), .val (.int t), .val (.int (1 : Int32)), .unset] []))) (fun _ k => XS.goto X0.here hx rfl (pc0 := 59) (pc' := 92) rfl (hb hby at_59) (by decide) (by decide) k) ?_
          rw [← q]
          exact tail2 t
        · skip
          refine own_st (U' := (s₁.setTop (mkF m 49 #[.val (.int i0), .val (.int i1), .val (.int (own_o i0)), .val (.int t), .unset, .unset] []))) (fun _ k => XS.icmpNo X0.here hx rfl (hb hby at_46) rfl (feq c2).1 k) ?_
          refine own_st (U' := (s₁.setTop (mkF m 50 #[.val (.int i0), .val (.int i1), .val (.int (own_o i0)), .val (.int t), .unset, .unset] [(.int (own_o i0))]))) (fun _ k => XS.iloadN X0.here hx rfl (hb hby at_49) rfl k) ?_
          refine own_st (U' := (s₁.setTop (mkF m 53 #[.val (.int i0), .val (.int i1), .val (.int (own_o i0)), .val (.int t), .unset, .unset] [(.int (181 : Int32)), (.int (own_o i0))]))) (fun _ k => XS.sipush X0.here hx rfl (hb hby at_50) k) ?_
          by_cases c3 : (own_o i0) = (181 : Int32)
          · skip
            refine own_st (U' := (s₁.setTop (mkF m 56 #[.val (.int i0), .val (.int i1), .val (.int (own_o i0)), .val (.int t), .unset, .unset] []))) (fun _ k => XS.icmpNo X0.here hx rfl (hb hby at_53) rfl (teq c3).2 k) ?_
            have q : own_all (own_o i0) = 1 := by simp [own_all, c0, c1, c2, c3]
            refine own_st (U' := (s₁.setTop (mkF m 57 #[.val (.int i0), .val (.int i1), .val (.int (own_o i0)), .val (.int t), .unset, .unset] [(.int (1 : Int32))]))) (fun _ k => XS.iconst X0.here hx rfl (hb hby at_56) k) ?_
            refine own_st (U' := (s₁.setTop (mkF m 59 #[.val (.int i0), .val (.int i1), .val (.int (own_o i0)), .val (.int t), .val (.int (1 : Int32)), .unset] []))) (fun _ k => XS.istore X0.here hx rfl (hb hby at_57) rfl (l' := #[.val (.int i0), .val (.int i1), .val (.int (own_o i0)), .val (.int t), .val (.int (1 : Int32)), .unset]) rfl k) ?_
            refine own_st (U' := (s₁.setTop (mkF m 92 #[.val (.int i0), .val (.int i1), .val (.int (own_o i0)), .val (.int t), .val (.int (1 : Int32)), .unset] []))) (fun _ k => XS.goto X0.here hx rfl (pc0 := 59) (pc' := 92) rfl (hb hby at_59) (by decide) (by decide) k) ?_
            rw [← q]
            exact tail2 t
          · skip
            refine own_st (U' := (s₁.setTop (mkF m 62 #[.val (.int i0), .val (.int i1), .val (.int (own_o i0)), .val (.int t), .unset, .unset] []))) (fun _ k => XS.icmpYes X0.here hx rfl (pc0 := 53) (pc' := 62) rfl (hb hby at_53) rfl (feq c3).2 (by decide) (by decide) k) ?_
            refine own_st (U' := (s₁.setTop (mkF m 63 #[.val (.int i0), .val (.int i1), .val (.int (own_o i0)), .val (.int t), .unset, .unset] [(.int (own_o i0))]))) (fun _ k => XS.iloadN X0.here hx rfl (hb hby at_62) rfl k) ?_
            refine own_st (U' := (s₁.setTop (mkF m 66 #[.val (.int i0), .val (.int i1), .val (.int (own_o i0)), .val (.int t), .unset, .unset] [(.int (182 : Int32)), (.int (own_o i0))]))) (fun _ k => XS.sipush X0.here hx rfl (hb hby at_63) k) ?_
            by_cases c4 : (own_o i0) = (182 : Int32)
            · skip
              refine own_st (U' := (s₁.setTop (mkF m 69 #[.val (.int i0), .val (.int i1), .val (.int (own_o i0)), .val (.int t), .unset, .unset] []))) (fun _ k => XS.icmpNo X0.here hx rfl (hb hby at_66) rfl (teq c4).2 k) ?_
              have q : own_all (own_o i0) = 2 := by simp [own_all, c0, c1, c2, c3, c4]
              refine own_st (U' := (s₁.setTop (mkF m 70 #[.val (.int i0), .val (.int i1), .val (.int (own_o i0)), .val (.int t), .unset, .unset] [(.int (2 : Int32))]))) (fun _ k => XS.iconst X0.here hx rfl (hb hby at_69) k) ?_
              refine own_st (U' := (s₁.setTop (mkF m 72 #[.val (.int i0), .val (.int i1), .val (.int (own_o i0)), .val (.int t), .val (.int (2 : Int32)), .unset] []))) (fun _ k => XS.istore X0.here hx rfl (hb hby at_70) rfl (l' := #[.val (.int i0), .val (.int i1), .val (.int (own_o i0)), .val (.int t), .val (.int (2 : Int32)), .unset]) rfl k) ?_
              refine own_st (U' := (s₁.setTop (mkF m 92 #[.val (.int i0), .val (.int i1), .val (.int (own_o i0)), .val (.int t), .val (.int (2 : Int32)), .unset] []))) (fun _ k => XS.goto X0.here hx rfl (pc0 := 72) (pc' := 92) rfl (hb hby at_72) (by decide) (by decide) k) ?_
              rw [← q]
              exact tail2 t
            · skip
              refine own_st (U' := (s₁.setTop (mkF m 75 #[.val (.int i0), .val (.int i1), .val (.int (own_o i0)), .val (.int t), .unset, .unset] []))) (fun _ k => XS.icmpYes X0.here hx rfl (pc0 := 66) (pc' := 75) rfl (hb hby at_66) rfl (feq c4).2 (by decide) (by decide) k) ?_
              refine own_st (U' := (s₁.setTop (mkF m 76 #[.val (.int i0), .val (.int i1), .val (.int (own_o i0)), .val (.int t), .unset, .unset] [(.int (own_o i0))]))) (fun _ k => XS.iloadN X0.here hx rfl (hb hby at_75) rfl k) ?_
              refine own_st (U' := (s₁.setTop (mkF m 79 #[.val (.int i0), .val (.int i1), .val (.int (own_o i0)), .val (.int t), .unset, .unset] [(.int (185 : Int32)), (.int (own_o i0))]))) (fun _ k => XS.sipush X0.here hx rfl (hb hby at_76) k) ?_
              by_cases c5 : (own_o i0) = (185 : Int32)
              · skip
                refine own_st (U' := (s₁.setTop (mkF m 82 #[.val (.int i0), .val (.int i1), .val (.int (own_o i0)), .val (.int t), .unset, .unset] []))) (fun _ k => XS.icmpNo X0.here hx rfl (hb hby at_79) rfl (teq c5).2 k) ?_
                have q : own_all (own_o i0) = 4 := by simp [own_all, c0, c1, c2, c3, c4, c5]
                refine own_st (U' := (s₁.setTop (mkF m 83 #[.val (.int i0), .val (.int i1), .val (.int (own_o i0)), .val (.int t), .unset, .unset] [(.int (4 : Int32))]))) (fun _ k => XS.iconst X0.here hx rfl (hb hby at_82) k) ?_
                refine own_st (U' := (s₁.setTop (mkF m 85 #[.val (.int i0), .val (.int i1), .val (.int (own_o i0)), .val (.int t), .val (.int (4 : Int32)), .unset] []))) (fun _ k => XS.istore X0.here hx rfl (hb hby at_83) rfl (l' := #[.val (.int i0), .val (.int i1), .val (.int (own_o i0)), .val (.int t), .val (.int (4 : Int32)), .unset]) rfl k) ?_
                refine own_st (U' := (s₁.setTop (mkF m 92 #[.val (.int i0), .val (.int i1), .val (.int (own_o i0)), .val (.int t), .val (.int (4 : Int32)), .unset] []))) (fun _ k => XS.goto X0.here hx rfl (pc0 := 85) (pc' := 92) rfl (hb hby at_85) (by decide) (by decide) k) ?_
                rw [← q]
                exact tail2 t
              · skip
                refine own_st (U' := (s₁.setTop (mkF m 88 #[.val (.int i0), .val (.int i1), .val (.int (own_o i0)), .val (.int t), .unset, .unset] []))) (fun _ k => XS.icmpYes X0.here hx rfl (pc0 := 79) (pc' := 88) rfl (hb hby at_79) rfl (feq c5).2 (by decide) (by decide) k) ?_
                have q : own_all (own_o i0) = 6 := by simp [own_all, c0, c1, c2, c3, c4, c5]
                refine own_st (U' := (s₁.setTop (mkF m 90 #[.val (.int i0), .val (.int i1), .val (.int (own_o i0)), .val (.int t), .unset, .unset] [(.int (6 : Int32))]))) (fun _ k => XS.bipush X0.here hx rfl (hb hby at_88) k) ?_
                refine own_st (U' := (s₁.setTop (mkF m 92 #[.val (.int i0), .val (.int i1), .val (.int (own_o i0)), .val (.int t), .val (.int (6 : Int32)), .unset] []))) (fun _ k => XS.istore X0.here hx rfl (hb hby at_90) rfl (l' := #[.val (.int i0), .val (.int i1), .val (.int (own_o i0)), .val (.int t), .val (.int (6 : Int32)), .unset]) rfl k) ?_
                rw [← q]
                exact tail2 t
  by_cases c0 : (i1 &&& (1 : Int32)) = (0 : Int32)
  · skip
    refine own_st (U' := (s₁.setTop (mkF m 26 #[.val (.int i0), .val (.int i1), .val (.int (own_o i0)), .unset, .unset, .unset] []))) (fun _ k => XS.ifYes X0.here hx rfl (pc0 := 12) (pc' := 26) rfl (hb hby at_12) rfl ((if0 _ _).trans (teq c0).1) (by decide) (by decide) k) ?_
    refine own_st (U' := (s₁.setTop (mkF m 27 #[.val (.int i0), .val (.int i1), .val (.int (own_o i0)), .unset, .unset, .unset] [(.int i1)]))) (fun _ k => XS.iloadN X0.here hx rfl (hb hby at_26) rfl k) ?_
    exact tail1 _
  · skip
    refine own_st (U' := (s₁.setTop (mkF m 15 #[.val (.int i0), .val (.int i1), .val (.int (own_o i0)), .unset, .unset, .unset] []))) (fun _ k => XS.ifNo X0.here hx rfl (hb hby at_12) rfl ((if0 _ _).trans (feq c0).1) k) ?_
    refine own_st (U' := (s₁.setTop (mkF m 17 #[.val (.int i0), .val (.int i1), .val (.int (own_o i0)), .unset, .unset, .unset] [(.int (8 : Int32))]))) (fun _ k => XS.bipush X0.here hx rfl (hb hby at_15) k) ?_
    refine own_st (U' := (s₁.setTop (mkF m 18 #[.val (.int i0), .val (.int i1), .val (.int (own_o i0)), .unset, .unset, .unset] [(.int i1), (.int (8 : Int32))]))) (fun _ k => XS.iloadN X0.here hx rfl (hb hby at_17) rfl k) ?_
    refine own_st (U' := (s₁.setTop (mkF m 19 #[.val (.int i0), .val (.int i1), .val (.int (own_o i0)), .unset, .unset, .unset] [(.int (1 : Int32)), (.int i1), (.int (8 : Int32))]))) (fun _ k => XS.iconst X0.here hx rfl (hb hby at_18) k) ?_
    refine own_st (U' := (s₁.setTop (mkF m 20 #[.val (.int i0), .val (.int i1), .val (.int (own_o i0)), .unset, .unset, .unset] [(.int ((i1.toUInt32 >>> ((1 : Int32) &&& 31).toUInt32).toInt32)), (.int (8 : Int32))]))) (fun _ k => XS.iushr X0.here hx rfl (hb hby at_19) rfl k) ?_
    refine own_st (U' := (s₁.setTop (mkF m 21 #[.val (.int i0), .val (.int i1), .val (.int (own_o i0)), .unset, .unset, .unset] [(.int (3 : Int32)), (.int ((i1.toUInt32 >>> ((1 : Int32) &&& 31).toUInt32).toInt32)), (.int (8 : Int32))]))) (fun _ k => XS.iconst X0.here hx rfl (hb hby at_20) k) ?_
    refine own_st (U' := (s₁.setTop (mkF m 22 #[.val (.int i0), .val (.int i1), .val (.int (own_o i0)), .unset, .unset, .unset] [(.int (((i1.toUInt32 >>> ((1 : Int32) &&& 31).toUInt32).toInt32) &&& (3 : Int32))), (.int (8 : Int32))]))) (fun _ k => XS.iand X0.here hx rfl (hb hby at_21) rfl k) ?_
    refine own_st (U' := (s₁.setTop (mkF m 23 #[.val (.int i0), .val (.int i1), .val (.int (own_o i0)), .unset, .unset, .unset] [(.int ((8 : Int32) + (((i1.toUInt32 >>> ((1 : Int32) &&& 31).toUInt32).toInt32) &&& (3 : Int32))))]))) (fun _ k => XS.iadd X0.here hx rfl (hb hby at_22) rfl k) ?_
    refine own_st (U' := (s₁.setTop (mkF m 27 #[.val (.int i0), .val (.int i1), .val (.int (own_o i0)), .unset, .unset, .unset] [(.int ((8 : Int32) + (((i1.toUInt32 >>> ((1 : Int32) &&& 31).toUInt32).toInt32) &&& (3 : Int32))))]))) (fun _ k => XS.goto X0.here hx rfl (pc0 := 23) (pc' := 27) rfl (hb hby at_23) (by decide) (by decide) k) ?_
    exact tail1 _
set_option maxRecDepth 65536 in
set_option maxHeartbeats 40000000 in
theorem comes_1 {Post : Tables → Env → Array Value → State → Outcome → State → Prop} (hpost : ∀ tb e args s v u, (limb_1_1.after args s (.returned v) u = true ∧ limb_1_2.after args s (.returned v) u = true ∧ True) → FrameEnd s (.returned v) u (Jvm.fieldLocs frame_1_writes args s ++ Jvm.arrayLocs frame_1_arrays args s ++ Jvm.staticLocs frame_1_statics s) 0 0 → Post tb e args s (.returned v) u) :
    ArmFor flags0 classFile x code maxLocals ret World_1 tables_1 room_1 Calls_1 rest_1 Pre_1 Post := by
  intro l hfl _ _ p e ha hc hk s m args below hf hA hF happ hP
  obtain ⟨hcalls, hrest, hpre⟩ := hP
  obtain ⟨-, -, -, hnamed, -, -, -, hat⟩ := (Spec.applies_iff hf).mp happ
  obtain ⟨hg, hn⟩ := and_e (Cond.before_iff.mp (show (Jvm.Cond.and given_1 narrow_1).before args s = true from hpre))
  obtain ⟨gc, g0⟩ := and_e hg
  obtain ⟨w0, w1, rfl⟩ : ∃ w0 w1 : Value, args = #[w0, w1] := by
    have hs : args.size = 2 := by simpa [Cond.value, given_1] using gc
    obtain ⟨L⟩ := args
    match L, hs with
    | [w0, w1], _ => exact ⟨w0, w1, rfl⟩
  have hw := fun d (hd : d ∈ tables_1) => atoms_spec (ws := Jvm.Cond.code x code maxLocals ret :: tables_1) hat d (List.mem_cons_of_mem _ hd)
  obtain ⟨f0, g1⟩ := and_e g0
  obtain ⟨i0, ei0⟩ := is_v f0
  obtain rfl : w0 = (.int i0) := Option.some.inj ei0
  obtain ⟨i1, ei1⟩ := is_v g1
  obtain rfl : w1 = (.int i1) := Option.some.inj ei1
  obtain ⟨n, o, h1, h2, h3, _, L, rfl, ⟨rfl, N⟩, hq⟩ := rm0 l s _ hw tables_1 i0 i1 s.heap s.heap.size (Nat.le_refl _)  p e ha hc hk s m _ below hf ((Spec.applies_iff_loose hf).mp happ).1 ⟨rfl, State.Warmed39.refl s, rfl⟩ trivial
  refine ⟨n, _, h1, h2, h3, hpost _ _ _ _ _ _ ⟨Cond.after_iff.mpr rfl, Cond.after_iff.mpr (eq_i res_at (Term.int_eval (1)) rfl), trivial⟩ ⟨hq.1, hq.2.1, (hq.2.2.sift fun y hy => Or.inr (N y hy)).mono (by decide) (by decide)⟩⟩
theorem main_1_1 : Claimed_1_1 := comes_1 fun _ _ _ _ _ _ h hF => ⟨h.1, hF⟩
theorem main_1_2 : Claimed_1_2 := comes_1 fun _ _ _ _ _ _ h hF => ⟨h.2.1, hF⟩
end Jvm.Pilot.@@N@@
namespace Jvm.Pilot.@@N@@
open Jvm Jvm.ClassFile Sem Op Lib Jvm.Free Jvm.Stand Jvm.Pilot.@@N@@.Jvm.D
/-! MADE BY PROGRAM (witnessworld.py) out of the Statement's table words and the real class files: 9 classes; the members and pool entries that the words name. The judged class is class 1, her method 1. -/
namespace start1
open Jvm.ClassFile
def u (s : String) : CpInfo := .utf8 (stringToUtf16 s)
/-- a pool by its gaps: so many unusable entries, then the entry; so many at the end -/
def gap : Nat → List CpInfo → List CpInfo
  | 0, r => r
  | n + 1, r => .unusable :: gap n r
def poolList (es : List (Nat × CpInfo)) (last : Nat) : List CpInfo := es.foldr (fun e r => gap e.1 (e.2 :: r)) (gap last [])
def pool (es : List (Nat × CpInfo)) (last : Nat) : Array CpInfo := ⟨poolList es last⟩
def fileOf (pool : Array CpInfo) (this : Nat) (attrs : Array Attribute := #[]) (ms : Array MethodInfo := #[]) (fl : Nat := 33) (sup : Nat := 0) (ifs : Array Nat := #[]) (fds : Array FieldInfo := #[]) : ClassFile where
  minorVersion := 0
  majorVersion := 65
  constantPool := pool
  accessFlags := fl
  thisClass := this
  superClass := sup
  interfaces := ifs
  fields := fds
  methods := ms
  attributes := attrs
def plain (name : String) (sup : Option ClassId) : Class where
  name := name
  kind := .ordinary
  loader := none
  accessFlags := 33
  super := sup
  interfaces := #[]
  cf := none
  fields := #[]
  methods := #[]
  instanceTypes := #[]
  staticTypes := #[]
  resolved := #[]
  callSites := []
  init := .initialized
  statics := none
  mirror := none

def pool0 : Array CpInfo := pool [(5, u "<init>"), (0, u "()V"), (1, .class_ 10), (1, u "java/lang/Object")] 113

def k0m0 : Method := { name := "<init>", desc := "()V", sig := { parameters := [], returnType := none }, accessFlags := 1, code := none }
/-- java/lang/Object -/
def k0 : Class := { plain "java/lang/Object" none with
  accessFlags := 33
  interfaces := #[]
  cf := some (fileOf pool0 8 #[] #[{ accessFlags := 1, nameIndex := 5, descriptorIndex := 6, attributes := #[] }] 33 0 #[] #[])
  fields := #[]
  methods := #[k0m0]
  instanceTypes := #[]
  staticTypes := #[]
  resolved := Array.replicate 124 none
  statics := none }

def pool1 : Array CpInfo := pool [(2, .class_ 4), (1, u "java/lang/Object"), (0, u "<init>"), (0, u "()V"), (0, .methodref 8 9), (0, .class_ 10), (0, .nameAndType 11 12), (0, u "com/example/bytewright/bytewright/io/Opcodes"), (0, u "refersTo"), (0, u "(II)Z"), (0, .class_ 14), (0, u "com/example/bytewright/bytewright/io/OpcodesRefersToPinLaw"), (2, u "law")] 3

def k1m0 : Method := { name := "<init>", desc := "()V", sig := { parameters := [], returnType := none }, accessFlags := 1, code := none }
def k1c1 : Code := { maxStack := 3, maxLocals := 6, code := code, exceptionTable := #[], attributes := #[] }
def k1m1 : Method := { name := "law", desc := "(II)Z", sig := { parameters := [.int, .int], returnType := some .boolean }, accessFlags := 9, code := some k1c1 }
/-- com/example/bytewright/bytewright/io/OpcodesRefersToPinLaw -/
def k1 : Class := { plain "com/example/bytewright/bytewright/io/OpcodesRefersToPinLaw" (some 0) with
  accessFlags := 49
  interfaces := #[]
  cf := some (fileOf pool1 13 #[] #[{ accessFlags := 1, nameIndex := 5, descriptorIndex := 6, attributes := #[] }, { accessFlags := 9, nameIndex := 17, descriptorIndex := 12, attributes := #[] }] 49 2 #[] #[])
  fields := #[]
  methods := #[k1m0, k1m1]
  instanceTypes := #[]
  staticTypes := #[]
  resolved := Array.replicate 21 none
  statics := none }

def pool2 : Array CpInfo := pool [(2, .class_ 4), (1, u "java/lang/Object"), (0, u "<init>"), (0, u "()V"), (1, .class_ 10), (1, u "com/example/bytewright/bytewright/io/Opcodes"), (0, u "NAMES"), (0, u "[Ljava/lang/String;"), (2, u "FORMATS"), (0, u "[I"), (2, u "LENGTHS"), (2, u "FORMAT_LENGTHS"), (278, u "NOP"), (0, u "I"), (2, u "ACONST_NULL"), (1, u "ICONST_M1"), (1, u "ICONST_0"), (1, u "ICONST_1"), (1, u "ICONST_2"), (1, u "ICONST_3"), (1, u "ICONST_4"), (1, u "ICONST_5"), (1, u "LCONST_0"), (1, u "LCONST_1"), (1, u "FCONST_0"), (1, u "FCONST_1"), (1, u "FCONST_2"), (1, u "DCONST_0"), (1, u "DCONST_1"), (1, u "BIPUSH"), (1, u "SIPUSH"), (1, u "ILOAD"), (1, u "LLOAD"), (1, u "FLOAD"), (1, u "DLOAD"), (1, u "ALOAD"), (1, u "IALOAD"), (1, u "LALOAD"), (1, u "FALOAD"), (1, u "DALOAD"), (1, u "AALOAD"), (1, u "BALOAD"), (1, u "CALOAD"), (1, u "SALOAD"), (1, u "ISTORE"), (1, u "LSTORE"), (1, u "FSTORE"), (1, u "DSTORE"), (1, u "ASTORE"), (1, u "IASTORE"), (1, u "LASTORE"), (1, u "FASTORE"), (1, u "DASTORE"), (1, u "AASTORE"), (1, u "BASTORE"), (1, u "CASTORE"), (1, u "SASTORE"), (1, u "POP"), (1, u "POP2"), (1, u "DUP"), (1, u "DUP_X1"), (1, u "DUP_X2"), (1, u "DUP2"), (1, u "DUP2_X1"), (1, u "DUP2_X2"), (1, u "SWAP"), (1, u "IADD"), (1, u "LADD"), (1, u "FADD"), (1, u "DADD"), (1, u "ISUB"), (1, u "LSUB"), (1, u "FSUB"), (1, u "DSUB"), (1, u "IMUL"), (1, u "LMUL"), (1, u "FMUL"), (1, u "DMUL"), (1, u "IDIV"), (1, u "LDIV"), (1, u "FDIV"), (1, u "DDIV"), (1, u "IREM"), (1, u "LREM"), (1, u "FREM"), (1, u "DREM"), (1, u "INEG"), (1, u "LNEG"), (1, u "FNEG"), (1, u "DNEG"), (1, u "ISHL"), (1, u "LSHL"), (1, u "ISHR"), (1, u "LSHR"), (1, u "IUSHR"), (1, u "LUSHR"), (1, u "IAND"), (1, u "LAND"), (1, u "IOR"), (1, u "LOR"), (1, u "IXOR"), (1, u "LXOR"), (1, u "IINC"), (1, u "I2L"), (1, u "I2F"), (1, u "I2D"), (1, u "L2I"), (1, u "L2F"), (1, u "L2D"), (1, u "F2I"), (1, u "F2L"), (1, u "F2D"), (1, u "D2I"), (1, u "D2L"), (1, u "D2F"), (1, u "I2B"), (1, u "I2C"), (1, u "I2S"), (1, u "LCMP"), (1, u "FCMPL"), (1, u "FCMPG"), (1, u "DCMPL"), (1, u "DCMPG"), (1, u "IFEQ"), (1, u "IFNE"), (1, u "IFLT"), (1, u "IFGE"), (1, u "IFGT"), (1, u "IFLE"), (1, u "IF_ICMPEQ"), (1, u "IF_ICMPNE"), (1, u "IF_ICMPLT"), (1, u "IF_ICMPGE"), (1, u "IF_ICMPGT"), (1, u "IF_ICMPLE"), (1, u "IF_ACMPEQ"), (1, u "IF_ACMPNE"), (1, u "GOTO"), (1, u "JSR"), (1, u "RET"), (1, u "TABLESWITCH"), (1, u "LOOKUPSWITCH"), (1, u "IRETURN"), (1, u "LRETURN"), (1, u "FRETURN"), (1, u "DRETURN"), (1, u "ARETURN"), (1, u "RETURN"), (1, u "GETSTATIC"), (1, u "PUTSTATIC"), (1, u "GETFIELD"), (1, u "PUTFIELD"), (1, u "INVOKEVIRTUAL"), (1, u "INVOKESPECIAL"), (1, u "INVOKESTATIC"), (1, u "INVOKEINTERFACE"), (1, u "INVOKEDYNAMIC"), (1, u "NEW"), (1, u "NEWARRAY"), (1, u "ANEWARRAY"), (1, u "ARRAYLENGTH"), (1, u "ATHROW"), (1, u "CHECKCAST"), (1, u "INSTANCEOF"), (1, u "MONITORENTER"), (1, u "MONITOREXIT"), (1, u "MULTIANEWARRAY"), (1, u "IFNULL"), (1, u "IFNONNULL"), (1, u "GOTO_W"), (1, u "JSR_W"), (1, u "NO_OPERAND"), (0, u "BYTE_VALUE"), (0, u "SHORT_VALUE"), (0, u "ARRAY_TYPE"), (0, u "CONSTANT"), (0, u "WIDE_CONSTANT"), (0, u "LOCAL"), (0, u "IMPLICIT_LOCAL"), (0, u "INCREMENT"), (0, u "TYPE"), (0, u "MEMBER"), (0, u "INTERFACE_MEMBER"), (0, u "DYNAMIC"), (0, u "DIMENSIONS"), (0, u "JUMP"), (0, u "WIDE_JUMP"), (0, u "TABLE_SWITCH"), (0, u "LOOKUP_SWITCH"), (1, u "WIDE_PREFIX"), (1, u "MAX_CODE_LENGTH"), (1, u "FIRST_ARRAY_TYPE"), (0, u "LAST_ARRAY_TYPE"), (0, u "LDC"), (0, u "LDC_W"), (0, u "LDC2_W"), (1, u "WIDE"), (5, u "refersTo"), (0, u "(II)Z")] 40

def k2m0 : Method := { name := "<init>", desc := "()V", sig := { parameters := [], returnType := none }, accessFlags := 2, code := none }
def k2c1 : Code := { maxStack := 2, maxLocals := 2, code := prog_73_method_6_code, exceptionTable := #[], attributes := #[] }
def k2m1 : Method := { name := "refersTo", desc := "(II)Z", sig := { parameters := [.int, .int], returnType := some .boolean }, accessFlags := 8, code := some k2c1 }
/-- com/example/bytewright/bytewright/io/Opcodes -/
def k2 : Class := { plain "com/example/bytewright/bytewright/io/Opcodes" (some 0) with
  accessFlags := 49
  interfaces := #[]
  cf := some (fileOf pool2 8 #[] #[{ accessFlags := 2, nameIndex := 5, descriptorIndex := 6, attributes := #[] }, { accessFlags := 8, nameIndex := 654, descriptorIndex := 655, attributes := #[] }] 49 2 #[] #[{ accessFlags := 25, nameIndex := 301, descriptorIndex := 302, attributes := #[] }, { accessFlags := 25, nameIndex := 305, descriptorIndex := 302, attributes := #[] }, { accessFlags := 25, nameIndex := 307, descriptorIndex := 302, attributes := #[] }, { accessFlags := 25, nameIndex := 309, descriptorIndex := 302, attributes := #[] }, { accessFlags := 25, nameIndex := 311, descriptorIndex := 302, attributes := #[] }, { accessFlags := 25, nameIndex := 313, descriptorIndex := 302, attributes := #[] }, { accessFlags := 25, nameIndex := 315, descriptorIndex := 302, attributes := #[] }, { accessFlags := 25, nameIndex := 317, descriptorIndex := 302, attributes := #[] }, { accessFlags := 25, nameIndex := 319, descriptorIndex := 302, attributes := #[] }, { accessFlags := 25, nameIndex := 321, descriptorIndex := 302, attributes := #[] }, { accessFlags := 25, nameIndex := 323, descriptorIndex := 302, attributes := #[] }, { accessFlags := 25, nameIndex := 325, descriptorIndex := 302, attributes := #[] }, { accessFlags := 25, nameIndex := 327, descriptorIndex := 302, attributes := #[] }, { accessFlags := 25, nameIndex := 329, descriptorIndex := 302, attributes := #[] }, { accessFlags := 25, nameIndex := 331, descriptorIndex := 302, attributes := #[] }, { accessFlags := 25, nameIndex := 333, descriptorIndex := 302, attributes := #[] }, { accessFlags := 25, nameIndex := 335, descriptorIndex := 302, attributes := #[] }, { accessFlags := 25, nameIndex := 337, descriptorIndex := 302, attributes := #[] }, { accessFlags := 25, nameIndex := 339, descriptorIndex := 302, attributes := #[] }, { accessFlags := 25, nameIndex := 341, descriptorIndex := 302, attributes := #[] }, { accessFlags := 25, nameIndex := 343, descriptorIndex := 302, attributes := #[] }, { accessFlags := 25, nameIndex := 345, descriptorIndex := 302, attributes := #[] }, { accessFlags := 25, nameIndex := 347, descriptorIndex := 302, attributes := #[] }, { accessFlags := 25, nameIndex := 349, descriptorIndex := 302, attributes := #[] }, { accessFlags := 25, nameIndex := 351, descriptorIndex := 302, attributes := #[] }, { accessFlags := 25, nameIndex := 353, descriptorIndex := 302, attributes := #[] }, { accessFlags := 25, nameIndex := 355, descriptorIndex := 302, attributes := #[] }, { accessFlags := 25, nameIndex := 357, descriptorIndex := 302, attributes := #[] }, { accessFlags := 25, nameIndex := 359, descriptorIndex := 302, attributes := #[] }, { accessFlags := 25, nameIndex := 361, descriptorIndex := 302, attributes := #[] }, { accessFlags := 25, nameIndex := 363, descriptorIndex := 302, attributes := #[] }, { accessFlags := 25, nameIndex := 365, descriptorIndex := 302, attributes := #[] }, { accessFlags := 25, nameIndex := 367, descriptorIndex := 302, attributes := #[] }, { accessFlags := 25, nameIndex := 369, descriptorIndex := 302, attributes := #[] }, { accessFlags := 25, nameIndex := 371, descriptorIndex := 302, attributes := #[] }, { accessFlags := 25, nameIndex := 373, descriptorIndex := 302, attributes := #[] }, { accessFlags := 25, nameIndex := 375, descriptorIndex := 302, attributes := #[] }, { accessFlags := 25, nameIndex := 377, descriptorIndex := 302, attributes := #[] }, { accessFlags := 25, nameIndex := 379, descriptorIndex := 302, attributes := #[] }, { accessFlags := 25, nameIndex := 381, descriptorIndex := 302, attributes := #[] }, { accessFlags := 25, nameIndex := 383, descriptorIndex := 302, attributes := #[] }, { accessFlags := 25, nameIndex := 385, descriptorIndex := 302, attributes := #[] }, { accessFlags := 25, nameIndex := 387, descriptorIndex := 302, attributes := #[] }, { accessFlags := 25, nameIndex := 389, descriptorIndex := 302, attributes := #[] }, { accessFlags := 25, nameIndex := 391, descriptorIndex := 302, attributes := #[] }, { accessFlags := 25, nameIndex := 393, descriptorIndex := 302, attributes := #[] }, { accessFlags := 25, nameIndex := 395, descriptorIndex := 302, attributes := #[] }, { accessFlags := 25, nameIndex := 397, descriptorIndex := 302, attributes := #[] }, { accessFlags := 25, nameIndex := 399, descriptorIndex := 302, attributes := #[] }, { accessFlags := 25, nameIndex := 401, descriptorIndex := 302, attributes := #[] }, { accessFlags := 25, nameIndex := 403, descriptorIndex := 302, attributes := #[] }, { accessFlags := 25, nameIndex := 405, descriptorIndex := 302, attributes := #[] }, { accessFlags := 25, nameIndex := 407, descriptorIndex := 302, attributes := #[] }, { accessFlags := 25, nameIndex := 409, descriptorIndex := 302, attributes := #[] }, { accessFlags := 25, nameIndex := 411, descriptorIndex := 302, attributes := #[] }, { accessFlags := 25, nameIndex := 413, descriptorIndex := 302, attributes := #[] }, { accessFlags := 25, nameIndex := 415, descriptorIndex := 302, attributes := #[] }, { accessFlags := 25, nameIndex := 417, descriptorIndex := 302, attributes := #[] }, { accessFlags := 25, nameIndex := 419, descriptorIndex := 302, attributes := #[] }, { accessFlags := 25, nameIndex := 421, descriptorIndex := 302, attributes := #[] }, { accessFlags := 25, nameIndex := 423, descriptorIndex := 302, attributes := #[] }, { accessFlags := 25, nameIndex := 425, descriptorIndex := 302, attributes := #[] }, { accessFlags := 25, nameIndex := 427, descriptorIndex := 302, attributes := #[] }, { accessFlags := 25, nameIndex := 429, descriptorIndex := 302, attributes := #[] }, { accessFlags := 25, nameIndex := 431, descriptorIndex := 302, attributes := #[] }, { accessFlags := 25, nameIndex := 433, descriptorIndex := 302, attributes := #[] }, { accessFlags := 25, nameIndex := 435, descriptorIndex := 302, attributes := #[] }, { accessFlags := 25, nameIndex := 437, descriptorIndex := 302, attributes := #[] }, { accessFlags := 25, nameIndex := 439, descriptorIndex := 302, attributes := #[] }, { accessFlags := 25, nameIndex := 441, descriptorIndex := 302, attributes := #[] }, { accessFlags := 25, nameIndex := 443, descriptorIndex := 302, attributes := #[] }, { accessFlags := 25, nameIndex := 445, descriptorIndex := 302, attributes := #[] }, { accessFlags := 25, nameIndex := 447, descriptorIndex := 302, attributes := #[] }, { accessFlags := 25, nameIndex := 449, descriptorIndex := 302, attributes := #[] }, { accessFlags := 25, nameIndex := 451, descriptorIndex := 302, attributes := #[] }, { accessFlags := 25, nameIndex := 453, descriptorIndex := 302, attributes := #[] }, { accessFlags := 25, nameIndex := 455, descriptorIndex := 302, attributes := #[] }, { accessFlags := 25, nameIndex := 457, descriptorIndex := 302, attributes := #[] }, { accessFlags := 25, nameIndex := 459, descriptorIndex := 302, attributes := #[] }, { accessFlags := 25, nameIndex := 461, descriptorIndex := 302, attributes := #[] }, { accessFlags := 25, nameIndex := 463, descriptorIndex := 302, attributes := #[] }, { accessFlags := 25, nameIndex := 465, descriptorIndex := 302, attributes := #[] }, { accessFlags := 25, nameIndex := 467, descriptorIndex := 302, attributes := #[] }, { accessFlags := 25, nameIndex := 469, descriptorIndex := 302, attributes := #[] }, { accessFlags := 25, nameIndex := 471, descriptorIndex := 302, attributes := #[] }, { accessFlags := 25, nameIndex := 473, descriptorIndex := 302, attributes := #[] }, { accessFlags := 25, nameIndex := 475, descriptorIndex := 302, attributes := #[] }, { accessFlags := 25, nameIndex := 477, descriptorIndex := 302, attributes := #[] }, { accessFlags := 25, nameIndex := 479, descriptorIndex := 302, attributes := #[] }, { accessFlags := 25, nameIndex := 481, descriptorIndex := 302, attributes := #[] }, { accessFlags := 25, nameIndex := 483, descriptorIndex := 302, attributes := #[] }, { accessFlags := 25, nameIndex := 485, descriptorIndex := 302, attributes := #[] }, { accessFlags := 25, nameIndex := 487, descriptorIndex := 302, attributes := #[] }, { accessFlags := 25, nameIndex := 489, descriptorIndex := 302, attributes := #[] }, { accessFlags := 25, nameIndex := 491, descriptorIndex := 302, attributes := #[] }, { accessFlags := 25, nameIndex := 493, descriptorIndex := 302, attributes := #[] }, { accessFlags := 25, nameIndex := 495, descriptorIndex := 302, attributes := #[] }, { accessFlags := 25, nameIndex := 497, descriptorIndex := 302, attributes := #[] }, { accessFlags := 25, nameIndex := 499, descriptorIndex := 302, attributes := #[] }, { accessFlags := 25, nameIndex := 501, descriptorIndex := 302, attributes := #[] }, { accessFlags := 25, nameIndex := 503, descriptorIndex := 302, attributes := #[] }, { accessFlags := 25, nameIndex := 505, descriptorIndex := 302, attributes := #[] }, { accessFlags := 25, nameIndex := 507, descriptorIndex := 302, attributes := #[] }, { accessFlags := 25, nameIndex := 509, descriptorIndex := 302, attributes := #[] }, { accessFlags := 25, nameIndex := 511, descriptorIndex := 302, attributes := #[] }, { accessFlags := 25, nameIndex := 513, descriptorIndex := 302, attributes := #[] }, { accessFlags := 25, nameIndex := 515, descriptorIndex := 302, attributes := #[] }, { accessFlags := 25, nameIndex := 517, descriptorIndex := 302, attributes := #[] }, { accessFlags := 25, nameIndex := 519, descriptorIndex := 302, attributes := #[] }, { accessFlags := 25, nameIndex := 521, descriptorIndex := 302, attributes := #[] }, { accessFlags := 25, nameIndex := 523, descriptorIndex := 302, attributes := #[] }, { accessFlags := 25, nameIndex := 525, descriptorIndex := 302, attributes := #[] }, { accessFlags := 25, nameIndex := 527, descriptorIndex := 302, attributes := #[] }, { accessFlags := 25, nameIndex := 529, descriptorIndex := 302, attributes := #[] }, { accessFlags := 25, nameIndex := 531, descriptorIndex := 302, attributes := #[] }, { accessFlags := 25, nameIndex := 533, descriptorIndex := 302, attributes := #[] }, { accessFlags := 25, nameIndex := 535, descriptorIndex := 302, attributes := #[] }, { accessFlags := 25, nameIndex := 537, descriptorIndex := 302, attributes := #[] }, { accessFlags := 25, nameIndex := 539, descriptorIndex := 302, attributes := #[] }, { accessFlags := 25, nameIndex := 541, descriptorIndex := 302, attributes := #[] }, { accessFlags := 25, nameIndex := 543, descriptorIndex := 302, attributes := #[] }, { accessFlags := 25, nameIndex := 545, descriptorIndex := 302, attributes := #[] }, { accessFlags := 25, nameIndex := 547, descriptorIndex := 302, attributes := #[] }, { accessFlags := 25, nameIndex := 549, descriptorIndex := 302, attributes := #[] }, { accessFlags := 25, nameIndex := 551, descriptorIndex := 302, attributes := #[] }, { accessFlags := 25, nameIndex := 553, descriptorIndex := 302, attributes := #[] }, { accessFlags := 25, nameIndex := 555, descriptorIndex := 302, attributes := #[] }, { accessFlags := 25, nameIndex := 557, descriptorIndex := 302, attributes := #[] }, { accessFlags := 25, nameIndex := 559, descriptorIndex := 302, attributes := #[] }, { accessFlags := 25, nameIndex := 561, descriptorIndex := 302, attributes := #[] }, { accessFlags := 25, nameIndex := 563, descriptorIndex := 302, attributes := #[] }, { accessFlags := 25, nameIndex := 565, descriptorIndex := 302, attributes := #[] }, { accessFlags := 25, nameIndex := 567, descriptorIndex := 302, attributes := #[] }, { accessFlags := 25, nameIndex := 569, descriptorIndex := 302, attributes := #[] }, { accessFlags := 25, nameIndex := 571, descriptorIndex := 302, attributes := #[] }, { accessFlags := 25, nameIndex := 573, descriptorIndex := 302, attributes := #[] }, { accessFlags := 25, nameIndex := 575, descriptorIndex := 302, attributes := #[] }, { accessFlags := 25, nameIndex := 577, descriptorIndex := 302, attributes := #[] }, { accessFlags := 25, nameIndex := 579, descriptorIndex := 302, attributes := #[] }, { accessFlags := 25, nameIndex := 581, descriptorIndex := 302, attributes := #[] }, { accessFlags := 25, nameIndex := 583, descriptorIndex := 302, attributes := #[] }, { accessFlags := 25, nameIndex := 585, descriptorIndex := 302, attributes := #[] }, { accessFlags := 25, nameIndex := 587, descriptorIndex := 302, attributes := #[] }, { accessFlags := 25, nameIndex := 589, descriptorIndex := 302, attributes := #[] }, { accessFlags := 25, nameIndex := 591, descriptorIndex := 302, attributes := #[] }, { accessFlags := 25, nameIndex := 593, descriptorIndex := 302, attributes := #[] }, { accessFlags := 25, nameIndex := 595, descriptorIndex := 302, attributes := #[] }, { accessFlags := 25, nameIndex := 597, descriptorIndex := 302, attributes := #[] }, { accessFlags := 25, nameIndex := 599, descriptorIndex := 302, attributes := #[] }, { accessFlags := 25, nameIndex := 601, descriptorIndex := 302, attributes := #[] }, { accessFlags := 25, nameIndex := 603, descriptorIndex := 302, attributes := #[] }, { accessFlags := 25, nameIndex := 605, descriptorIndex := 302, attributes := #[] }, { accessFlags := 25, nameIndex := 607, descriptorIndex := 302, attributes := #[] }, { accessFlags := 25, nameIndex := 609, descriptorIndex := 302, attributes := #[] }, { accessFlags := 25, nameIndex := 611, descriptorIndex := 302, attributes := #[] }, { accessFlags := 25, nameIndex := 613, descriptorIndex := 302, attributes := #[] }, { accessFlags := 25, nameIndex := 615, descriptorIndex := 302, attributes := #[] }, { accessFlags := 25, nameIndex := 617, descriptorIndex := 302, attributes := #[] }, { accessFlags := 24, nameIndex := 619, descriptorIndex := 302, attributes := #[] }, { accessFlags := 24, nameIndex := 620, descriptorIndex := 302, attributes := #[] }, { accessFlags := 24, nameIndex := 621, descriptorIndex := 302, attributes := #[] }, { accessFlags := 24, nameIndex := 622, descriptorIndex := 302, attributes := #[] }, { accessFlags := 24, nameIndex := 623, descriptorIndex := 302, attributes := #[] }, { accessFlags := 24, nameIndex := 624, descriptorIndex := 302, attributes := #[] }, { accessFlags := 24, nameIndex := 625, descriptorIndex := 302, attributes := #[] }, { accessFlags := 24, nameIndex := 626, descriptorIndex := 302, attributes := #[] }, { accessFlags := 24, nameIndex := 627, descriptorIndex := 302, attributes := #[] }, { accessFlags := 24, nameIndex := 628, descriptorIndex := 302, attributes := #[] }, { accessFlags := 24, nameIndex := 629, descriptorIndex := 302, attributes := #[] }, { accessFlags := 24, nameIndex := 630, descriptorIndex := 302, attributes := #[] }, { accessFlags := 24, nameIndex := 631, descriptorIndex := 302, attributes := #[] }, { accessFlags := 24, nameIndex := 632, descriptorIndex := 302, attributes := #[] }, { accessFlags := 24, nameIndex := 633, descriptorIndex := 302, attributes := #[] }, { accessFlags := 24, nameIndex := 634, descriptorIndex := 302, attributes := #[] }, { accessFlags := 24, nameIndex := 635, descriptorIndex := 302, attributes := #[] }, { accessFlags := 24, nameIndex := 636, descriptorIndex := 302, attributes := #[] }, { accessFlags := 24, nameIndex := 638, descriptorIndex := 302, attributes := #[] }, { accessFlags := 24, nameIndex := 640, descriptorIndex := 302, attributes := #[] }, { accessFlags := 24, nameIndex := 642, descriptorIndex := 302, attributes := #[] }, { accessFlags := 24, nameIndex := 643, descriptorIndex := 302, attributes := #[] }, { accessFlags := 25, nameIndex := 644, descriptorIndex := 302, attributes := #[] }, { accessFlags := 24, nameIndex := 645, descriptorIndex := 302, attributes := #[] }, { accessFlags := 24, nameIndex := 646, descriptorIndex := 302, attributes := #[] }, { accessFlags := 24, nameIndex := 648, descriptorIndex := 302, attributes := #[] }, { accessFlags := 26, nameIndex := 22, descriptorIndex := 16, attributes := #[] }, { accessFlags := 26, nameIndex := 11, descriptorIndex := 12, attributes := #[] }, { accessFlags := 26, nameIndex := 15, descriptorIndex := 16, attributes := #[] }, { accessFlags := 26, nameIndex := 19, descriptorIndex := 16, attributes := #[] }])
  fields := #[{ name := "NOP", type := .int, accessFlags := 25, slot := 0, constantValue := 0 }, { name := "ACONST_NULL", type := .int, accessFlags := 25, slot := 1, constantValue := 0 }, { name := "ICONST_M1", type := .int, accessFlags := 25, slot := 2, constantValue := 0 }, { name := "ICONST_0", type := .int, accessFlags := 25, slot := 3, constantValue := 0 }, { name := "ICONST_1", type := .int, accessFlags := 25, slot := 4, constantValue := 0 }, { name := "ICONST_2", type := .int, accessFlags := 25, slot := 5, constantValue := 0 }, { name := "ICONST_3", type := .int, accessFlags := 25, slot := 6, constantValue := 0 }, { name := "ICONST_4", type := .int, accessFlags := 25, slot := 7, constantValue := 0 }, { name := "ICONST_5", type := .int, accessFlags := 25, slot := 8, constantValue := 0 }, { name := "LCONST_0", type := .int, accessFlags := 25, slot := 9, constantValue := 0 }, { name := "LCONST_1", type := .int, accessFlags := 25, slot := 10, constantValue := 0 }, { name := "FCONST_0", type := .int, accessFlags := 25, slot := 11, constantValue := 0 }, { name := "FCONST_1", type := .int, accessFlags := 25, slot := 12, constantValue := 0 }, { name := "FCONST_2", type := .int, accessFlags := 25, slot := 13, constantValue := 0 }, { name := "DCONST_0", type := .int, accessFlags := 25, slot := 14, constantValue := 0 }, { name := "DCONST_1", type := .int, accessFlags := 25, slot := 15, constantValue := 0 }, { name := "BIPUSH", type := .int, accessFlags := 25, slot := 16, constantValue := 0 }, { name := "SIPUSH", type := .int, accessFlags := 25, slot := 17, constantValue := 0 }, { name := "ILOAD", type := .int, accessFlags := 25, slot := 18, constantValue := 0 }, { name := "LLOAD", type := .int, accessFlags := 25, slot := 19, constantValue := 0 }, { name := "FLOAD", type := .int, accessFlags := 25, slot := 20, constantValue := 0 }, { name := "DLOAD", type := .int, accessFlags := 25, slot := 21, constantValue := 0 }, { name := "ALOAD", type := .int, accessFlags := 25, slot := 22, constantValue := 0 }, { name := "IALOAD", type := .int, accessFlags := 25, slot := 23, constantValue := 0 }, { name := "LALOAD", type := .int, accessFlags := 25, slot := 24, constantValue := 0 }, { name := "FALOAD", type := .int, accessFlags := 25, slot := 25, constantValue := 0 }, { name := "DALOAD", type := .int, accessFlags := 25, slot := 26, constantValue := 0 }, { name := "AALOAD", type := .int, accessFlags := 25, slot := 27, constantValue := 0 }, { name := "BALOAD", type := .int, accessFlags := 25, slot := 28, constantValue := 0 }, { name := "CALOAD", type := .int, accessFlags := 25, slot := 29, constantValue := 0 }, { name := "SALOAD", type := .int, accessFlags := 25, slot := 30, constantValue := 0 }, { name := "ISTORE", type := .int, accessFlags := 25, slot := 31, constantValue := 0 }, { name := "LSTORE", type := .int, accessFlags := 25, slot := 32, constantValue := 0 }, { name := "FSTORE", type := .int, accessFlags := 25, slot := 33, constantValue := 0 }, { name := "DSTORE", type := .int, accessFlags := 25, slot := 34, constantValue := 0 }, { name := "ASTORE", type := .int, accessFlags := 25, slot := 35, constantValue := 0 }, { name := "IASTORE", type := .int, accessFlags := 25, slot := 36, constantValue := 0 }, { name := "LASTORE", type := .int, accessFlags := 25, slot := 37, constantValue := 0 }, { name := "FASTORE", type := .int, accessFlags := 25, slot := 38, constantValue := 0 }, { name := "DASTORE", type := .int, accessFlags := 25, slot := 39, constantValue := 0 }, { name := "AASTORE", type := .int, accessFlags := 25, slot := 40, constantValue := 0 }, { name := "BASTORE", type := .int, accessFlags := 25, slot := 41, constantValue := 0 }, { name := "CASTORE", type := .int, accessFlags := 25, slot := 42, constantValue := 0 }, { name := "SASTORE", type := .int, accessFlags := 25, slot := 43, constantValue := 0 }, { name := "POP", type := .int, accessFlags := 25, slot := 44, constantValue := 0 }, { name := "POP2", type := .int, accessFlags := 25, slot := 45, constantValue := 0 }, { name := "DUP", type := .int, accessFlags := 25, slot := 46, constantValue := 0 }, { name := "DUP_X1", type := .int, accessFlags := 25, slot := 47, constantValue := 0 }, { name := "DUP_X2", type := .int, accessFlags := 25, slot := 48, constantValue := 0 }, { name := "DUP2", type := .int, accessFlags := 25, slot := 49, constantValue := 0 }, { name := "DUP2_X1", type := .int, accessFlags := 25, slot := 50, constantValue := 0 }, { name := "DUP2_X2", type := .int, accessFlags := 25, slot := 51, constantValue := 0 }, { name := "SWAP", type := .int, accessFlags := 25, slot := 52, constantValue := 0 }, { name := "IADD", type := .int, accessFlags := 25, slot := 53, constantValue := 0 }, { name := "LADD", type := .int, accessFlags := 25, slot := 54, constantValue := 0 }, { name := "FADD", type := .int, accessFlags := 25, slot := 55, constantValue := 0 }, { name := "DADD", type := .int, accessFlags := 25, slot := 56, constantValue := 0 }, { name := "ISUB", type := .int, accessFlags := 25, slot := 57, constantValue := 0 }, { name := "LSUB", type := .int, accessFlags := 25, slot := 58, constantValue := 0 }, { name := "FSUB", type := .int, accessFlags := 25, slot := 59, constantValue := 0 }, { name := "DSUB", type := .int, accessFlags := 25, slot := 60, constantValue := 0 }, { name := "IMUL", type := .int, accessFlags := 25, slot := 61, constantValue := 0 }, { name := "LMUL", type := .int, accessFlags := 25, slot := 62, constantValue := 0 }, { name := "FMUL", type := .int, accessFlags := 25, slot := 63, constantValue := 0 }, { name := "DMUL", type := .int, accessFlags := 25, slot := 64, constantValue := 0 }, { name := "IDIV", type := .int, accessFlags := 25, slot := 65, constantValue := 0 }, { name := "LDIV", type := .int, accessFlags := 25, slot := 66, constantValue := 0 }, { name := "FDIV", type := .int, accessFlags := 25, slot := 67, constantValue := 0 }, { name := "DDIV", type := .int, accessFlags := 25, slot := 68, constantValue := 0 }, { name := "IREM", type := .int, accessFlags := 25, slot := 69, constantValue := 0 }, { name := "LREM", type := .int, accessFlags := 25, slot := 70, constantValue := 0 }, { name := "FREM", type := .int, accessFlags := 25, slot := 71, constantValue := 0 }, { name := "DREM", type := .int, accessFlags := 25, slot := 72, constantValue := 0 }, { name := "INEG", type := .int, accessFlags := 25, slot := 73, constantValue := 0 }, { name := "LNEG", type := .int, accessFlags := 25, slot := 74, constantValue := 0 }, { name := "FNEG", type := .int, accessFlags := 25, slot := 75, constantValue := 0 }, { name := "DNEG", type := .int, accessFlags := 25, slot := 76, constantValue := 0 }, { name := "ISHL", type := .int, accessFlags := 25, slot := 77, constantValue := 0 }, { name := "LSHL", type := .int, accessFlags := 25, slot := 78, constantValue := 0 }, { name := "ISHR", type := .int, accessFlags := 25, slot := 79, constantValue := 0 }, { name := "LSHR", type := .int, accessFlags := 25, slot := 80, constantValue := 0 }, { name := "IUSHR", type := .int, accessFlags := 25, slot := 81, constantValue := 0 }, { name := "LUSHR", type := .int, accessFlags := 25, slot := 82, constantValue := 0 }, { name := "IAND", type := .int, accessFlags := 25, slot := 83, constantValue := 0 }, { name := "LAND", type := .int, accessFlags := 25, slot := 84, constantValue := 0 }, { name := "IOR", type := .int, accessFlags := 25, slot := 85, constantValue := 0 }, { name := "LOR", type := .int, accessFlags := 25, slot := 86, constantValue := 0 }, { name := "IXOR", type := .int, accessFlags := 25, slot := 87, constantValue := 0 }, { name := "LXOR", type := .int, accessFlags := 25, slot := 88, constantValue := 0 }, { name := "IINC", type := .int, accessFlags := 25, slot := 89, constantValue := 0 }, { name := "I2L", type := .int, accessFlags := 25, slot := 90, constantValue := 0 }, { name := "I2F", type := .int, accessFlags := 25, slot := 91, constantValue := 0 }, { name := "I2D", type := .int, accessFlags := 25, slot := 92, constantValue := 0 }, { name := "L2I", type := .int, accessFlags := 25, slot := 93, constantValue := 0 }, { name := "L2F", type := .int, accessFlags := 25, slot := 94, constantValue := 0 }, { name := "L2D", type := .int, accessFlags := 25, slot := 95, constantValue := 0 }, { name := "F2I", type := .int, accessFlags := 25, slot := 96, constantValue := 0 }, { name := "F2L", type := .int, accessFlags := 25, slot := 97, constantValue := 0 }, { name := "F2D", type := .int, accessFlags := 25, slot := 98, constantValue := 0 }, { name := "D2I", type := .int, accessFlags := 25, slot := 99, constantValue := 0 }, { name := "D2L", type := .int, accessFlags := 25, slot := 100, constantValue := 0 }, { name := "D2F", type := .int, accessFlags := 25, slot := 101, constantValue := 0 }, { name := "I2B", type := .int, accessFlags := 25, slot := 102, constantValue := 0 }, { name := "I2C", type := .int, accessFlags := 25, slot := 103, constantValue := 0 }, { name := "I2S", type := .int, accessFlags := 25, slot := 104, constantValue := 0 }, { name := "LCMP", type := .int, accessFlags := 25, slot := 105, constantValue := 0 }, { name := "FCMPL", type := .int, accessFlags := 25, slot := 106, constantValue := 0 }, { name := "FCMPG", type := .int, accessFlags := 25, slot := 107, constantValue := 0 }, { name := "DCMPL", type := .int, accessFlags := 25, slot := 108, constantValue := 0 }, { name := "DCMPG", type := .int, accessFlags := 25, slot := 109, constantValue := 0 }, { name := "IFEQ", type := .int, accessFlags := 25, slot := 110, constantValue := 0 }, { name := "IFNE", type := .int, accessFlags := 25, slot := 111, constantValue := 0 }, { name := "IFLT", type := .int, accessFlags := 25, slot := 112, constantValue := 0 }, { name := "IFGE", type := .int, accessFlags := 25, slot := 113, constantValue := 0 }, { name := "IFGT", type := .int, accessFlags := 25, slot := 114, constantValue := 0 }, { name := "IFLE", type := .int, accessFlags := 25, slot := 115, constantValue := 0 }, { name := "IF_ICMPEQ", type := .int, accessFlags := 25, slot := 116, constantValue := 0 }, { name := "IF_ICMPNE", type := .int, accessFlags := 25, slot := 117, constantValue := 0 }, { name := "IF_ICMPLT", type := .int, accessFlags := 25, slot := 118, constantValue := 0 }, { name := "IF_ICMPGE", type := .int, accessFlags := 25, slot := 119, constantValue := 0 }, { name := "IF_ICMPGT", type := .int, accessFlags := 25, slot := 120, constantValue := 0 }, { name := "IF_ICMPLE", type := .int, accessFlags := 25, slot := 121, constantValue := 0 }, { name := "IF_ACMPEQ", type := .int, accessFlags := 25, slot := 122, constantValue := 0 }, { name := "IF_ACMPNE", type := .int, accessFlags := 25, slot := 123, constantValue := 0 }, { name := "GOTO", type := .int, accessFlags := 25, slot := 124, constantValue := 0 }, { name := "JSR", type := .int, accessFlags := 25, slot := 125, constantValue := 0 }, { name := "RET", type := .int, accessFlags := 25, slot := 126, constantValue := 0 }, { name := "TABLESWITCH", type := .int, accessFlags := 25, slot := 127, constantValue := 0 }, { name := "LOOKUPSWITCH", type := .int, accessFlags := 25, slot := 128, constantValue := 0 }, { name := "IRETURN", type := .int, accessFlags := 25, slot := 129, constantValue := 0 }, { name := "LRETURN", type := .int, accessFlags := 25, slot := 130, constantValue := 0 }, { name := "FRETURN", type := .int, accessFlags := 25, slot := 131, constantValue := 0 }, { name := "DRETURN", type := .int, accessFlags := 25, slot := 132, constantValue := 0 }, { name := "ARETURN", type := .int, accessFlags := 25, slot := 133, constantValue := 0 }, { name := "RETURN", type := .int, accessFlags := 25, slot := 134, constantValue := 0 }, { name := "GETSTATIC", type := .int, accessFlags := 25, slot := 135, constantValue := 0 }, { name := "PUTSTATIC", type := .int, accessFlags := 25, slot := 136, constantValue := 0 }, { name := "GETFIELD", type := .int, accessFlags := 25, slot := 137, constantValue := 0 }, { name := "PUTFIELD", type := .int, accessFlags := 25, slot := 138, constantValue := 0 }, { name := "INVOKEVIRTUAL", type := .int, accessFlags := 25, slot := 139, constantValue := 0 }, { name := "INVOKESPECIAL", type := .int, accessFlags := 25, slot := 140, constantValue := 0 }, { name := "INVOKESTATIC", type := .int, accessFlags := 25, slot := 141, constantValue := 0 }, { name := "INVOKEINTERFACE", type := .int, accessFlags := 25, slot := 142, constantValue := 0 }, { name := "INVOKEDYNAMIC", type := .int, accessFlags := 25, slot := 143, constantValue := 0 }, { name := "NEW", type := .int, accessFlags := 25, slot := 144, constantValue := 0 }, { name := "NEWARRAY", type := .int, accessFlags := 25, slot := 145, constantValue := 0 }, { name := "ANEWARRAY", type := .int, accessFlags := 25, slot := 146, constantValue := 0 }, { name := "ARRAYLENGTH", type := .int, accessFlags := 25, slot := 147, constantValue := 0 }, { name := "ATHROW", type := .int, accessFlags := 25, slot := 148, constantValue := 0 }, { name := "CHECKCAST", type := .int, accessFlags := 25, slot := 149, constantValue := 0 }, { name := "INSTANCEOF", type := .int, accessFlags := 25, slot := 150, constantValue := 0 }, { name := "MONITORENTER", type := .int, accessFlags := 25, slot := 151, constantValue := 0 }, { name := "MONITOREXIT", type := .int, accessFlags := 25, slot := 152, constantValue := 0 }, { name := "MULTIANEWARRAY", type := .int, accessFlags := 25, slot := 153, constantValue := 0 }, { name := "IFNULL", type := .int, accessFlags := 25, slot := 154, constantValue := 0 }, { name := "IFNONNULL", type := .int, accessFlags := 25, slot := 155, constantValue := 0 }, { name := "GOTO_W", type := .int, accessFlags := 25, slot := 156, constantValue := 0 }, { name := "JSR_W", type := .int, accessFlags := 25, slot := 157, constantValue := 0 }, { name := "NO_OPERAND", type := .int, accessFlags := 24, slot := 158, constantValue := 0 }, { name := "BYTE_VALUE", type := .int, accessFlags := 24, slot := 159, constantValue := 0 }, { name := "SHORT_VALUE", type := .int, accessFlags := 24, slot := 160, constantValue := 0 }, { name := "ARRAY_TYPE", type := .int, accessFlags := 24, slot := 161, constantValue := 0 }, { name := "CONSTANT", type := .int, accessFlags := 24, slot := 162, constantValue := 0 }, { name := "WIDE_CONSTANT", type := .int, accessFlags := 24, slot := 163, constantValue := 0 }, { name := "LOCAL", type := .int, accessFlags := 24, slot := 164, constantValue := 0 }, { name := "IMPLICIT_LOCAL", type := .int, accessFlags := 24, slot := 165, constantValue := 0 }, { name := "INCREMENT", type := .int, accessFlags := 24, slot := 166, constantValue := 0 }, { name := "TYPE", type := .int, accessFlags := 24, slot := 167, constantValue := 0 }, { name := "MEMBER", type := .int, accessFlags := 24, slot := 168, constantValue := 0 }, { name := "INTERFACE_MEMBER", type := .int, accessFlags := 24, slot := 169, constantValue := 0 }, { name := "DYNAMIC", type := .int, accessFlags := 24, slot := 170, constantValue := 0 }, { name := "DIMENSIONS", type := .int, accessFlags := 24, slot := 171, constantValue := 0 }, { name := "JUMP", type := .int, accessFlags := 24, slot := 172, constantValue := 0 }, { name := "WIDE_JUMP", type := .int, accessFlags := 24, slot := 173, constantValue := 0 }, { name := "TABLE_SWITCH", type := .int, accessFlags := 24, slot := 174, constantValue := 0 }, { name := "LOOKUP_SWITCH", type := .int, accessFlags := 24, slot := 175, constantValue := 0 }, { name := "WIDE_PREFIX", type := .int, accessFlags := 24, slot := 176, constantValue := 0 }, { name := "MAX_CODE_LENGTH", type := .int, accessFlags := 24, slot := 177, constantValue := 0 }, { name := "FIRST_ARRAY_TYPE", type := .int, accessFlags := 24, slot := 178, constantValue := 0 }, { name := "LAST_ARRAY_TYPE", type := .int, accessFlags := 24, slot := 179, constantValue := 0 }, { name := "LDC", type := .int, accessFlags := 25, slot := 180, constantValue := 0 }, { name := "LDC_W", type := .int, accessFlags := 24, slot := 181, constantValue := 0 }, { name := "LDC2_W", type := .int, accessFlags := 24, slot := 182, constantValue := 0 }, { name := "WIDE", type := .int, accessFlags := 24, slot := 183, constantValue := 0 }, { name := "FORMAT_LENGTHS", type := (.array .int), accessFlags := 26, slot := 184, constantValue := 0 }, { name := "NAMES", type := (.array (.object "java/lang/String")), accessFlags := 26, slot := 185, constantValue := 0 }, { name := "FORMATS", type := (.array .int), accessFlags := 26, slot := 186, constantValue := 0 }, { name := "LENGTHS", type := (.array .int), accessFlags := 26, slot := 187, constantValue := 0 }]
  methods := #[k2m0, k2m1]
  instanceTypes := #[]
  staticTypes := #[.int, .int, .int, .int, .int, .int, .int, .int, .int, .int, .int, .int, .int, .int, .int, .int, .int, .int, .int, .int, .int, .int, .int, .int, .int, .int, .int, .int, .int, .int, .int, .int, .int, .int, .int, .int, .int, .int, .int, .int, .int, .int, .int, .int, .int, .int, .int, .int, .int, .int, .int, .int, .int, .int, .int, .int, .int, .int, .int, .int, .int, .int, .int, .int, .int, .int, .int, .int, .int, .int, .int, .int, .int, .int, .int, .int, .int, .int, .int, .int, .int, .int, .int, .int, .int, .int, .int, .int, .int, .int, .int, .int, .int, .int, .int, .int, .int, .int, .int, .int, .int, .int, .int, .int, .int, .int, .int, .int, .int, .int, .int, .int, .int, .int, .int, .int, .int, .int, .int, .int, .int, .int, .int, .int, .int, .int, .int, .int, .int, .int, .int, .int, .int, .int, .int, .int, .int, .int, .int, .int, .int, .int, .int, .int, .int, .int, .int, .int, .int, .int, .int, .int, .int, .int, .int, .int, .int, .int, .int, .int, .int, .int, .int, .int, .int, .int, .int, .int, .int, .int, .int, .int, .int, .int, .int, .int, .int, .int, .int, .int, .int, .int, .int, .int, (.array .int), (.array (.object "java/lang/String")), (.array .int), (.array .int)]
  resolved := Array.replicate 696 none
  statics := none }

def pool3 : Array CpInfo := pool [(1, u "java/lang/Cloneable"), (0, .class_ 1), (0, u "java/lang/Object"), (0, .class_ 3)] 3

/-- java/lang/Cloneable -/
def k3 : Class := { plain "java/lang/Cloneable" (some 0) with
  accessFlags := 1537
  interfaces := #[]
  cf := some (fileOf pool3 2 #[] #[] 1537 4 #[] #[])
  fields := #[]
  methods := #[]
  instanceTypes := #[]
  staticTypes := #[]
  resolved := Array.replicate 8 none
  statics := none }

def pool4 : Array CpInfo := pool [(1, u "java/io/Serializable"), (0, .class_ 1), (0, u "java/lang/Object"), (0, .class_ 3)] 3

/-- java/io/Serializable -/
def k4 : Class := { plain "java/io/Serializable" (some 0) with
  accessFlags := 1537
  interfaces := #[]
  cf := some (fileOf pool4 2 #[] #[] 1537 4 #[] #[])
  fields := #[]
  methods := #[]
  instanceTypes := #[]
  staticTypes := #[]
  resolved := Array.replicate 8 none
  statics := none }

/-- the primitive byte -/
def k5 : Class := { plain "byte" none with kind := .primitive 'B', accessFlags := 0x411 }
/-- [B -/
def k6 : Class := { plain "[B" (some 0) with kind := .array 5 .byte, interfaces := #[3, 4], accessFlags := 1041 }

/-- the primitive int -/
def k7 : Class := { plain "int" none with kind := .primitive 'I', accessFlags := 0x411 }
/-- [I -/
def k8 : Class := { plain "[I" (some 0) with kind := .array 7 .int, interfaces := #[3, 4], accessFlags := 1041 }

def heap : Heap := #[]
def classes : Array Class := #[k0, k1, k2, k3, k4, k5, k6, k7, k8]
def interned : List (Array UInt16 × Addr) := []
def slotsUsed : Nat := 0
def theMethod : MethodId := ⟨1, 1⟩
def args0 : Array Value := #[.int 5, .int 7]
def aboutOver (below : List Frame) : State where
  vm := { classes := classes, interned := interned.toArray }
  heap := heap
  slotsUsed := slotsUsed
  threads := #[{ frames := .invoking theMethod args0 :: below }]
def below0 : List Frame := [.native { method := ⟨0, 0⟩, args := #[] }]
def about1 : State := aboutOver below0
def p0 : Program := .bare "" "" ""
def e0 : Env := launch0.env 0 0 0
theorem w_frames : about1.frames = Frame.invoking theMethod args0 :: below0 := rfl
set_option maxRecDepth 65536 in
theorem w_args : argsFit about1.vm theMethod args0 = true := by decide +kernel
set_option maxRecDepth 65536 in
theorem w_heap : heapFits about1 = true := by decide +kernel
set_option maxRecDepth 65536 in
theorem w_runnable : about1.curStatus? = some .runnable := by decide +kernel
set_option maxRecDepth 65536 in
theorem w_alone : about1.alone = true := by decide +kernel
set_option maxRecDepth 65536 in
theorem w_named : about1.methodNamed? x = some theMethod := by decide +kernel
set_option maxRecDepth 65536 in
theorem w_hears : about1.hears theMethod below0 = true := by decide +kernel
set_option maxRecDepth 65536 in
theorem w_ripe : about1.ripe theMethod args0 below0 = true := by decide +kernel
theorem w_running : about1.status = .running := rfl
set_option maxRecDepth 65536 in
theorem w_room : about1.hasRoom e0.platform room_1 = true :=
  launch0.hasRoom_least _ room_1 (by decide +kernel) (by decide +kernel) (by decide +kernel) (by decide +kernel) (by decide +kernel) (by decide +kernel)
theorem allAtoms_all (ts : List Jvm.Cond) (a : Array Jvm.Value) (st : Jvm.State) : (allAtoms ts).before a st = ts.all (fun c => c.before a st) := by
  induction ts with
  | nil => rfl
  | cons c t ih =>
    show (Jvm.Cond.and c (allAtoms t)).before a st = _
    rw [Jvm.Cond.before_and, ih, List.all_cons]
def words1 : List Jvm.Cond := Jvm.Cond.code x code maxLocals ret :: tables_1
/-- a 'code' word, met by the world's own term for the bytes: nothing is compared byte by byte -/
theorem code_word {y : MethodName} {bytes : ByteArray} {mx : Nat} {rt : Option FieldType} {a : Array Value} {s : State} {m : MethodId} {meth : Method} {c : Code} (h1 : s.methodNamed? y = some m) (h2 : s.vm.method? m = some meth) (h3 : meth.code = some c) (h4 : c.code = bytes)
    (h5 : (c.maxLocals == mx && c.exceptionTable.isEmpty && decide (c.maxStack ≤ mostOperands) && decide (meth.sig.returnType = rt) && !meth.locks && decide (parseMethodDescriptor y.desc = some meth.sig)) = true) : (Jvm.Cond.code y bytes mx rt).before a s = true := by
  simp only [Bool.and_eq_true, beq_iff_eq, Bool.not_eq_true', decide_eq_true_eq] at h5
  obtain ⟨⟨⟨⟨⟨g1, g2⟩, g3⟩, g4⟩, g5⟩, g6⟩ := h5
  simp [Cond.before, Cond.holds, Cond.value, h1, h2, h3, h4, g1, g2, g3, g4, g5, g6]
def isCode : Jvm.Cond → Bool
  | .code _ _ _ _ => true
  | _ => false
theorem all_split {L : List Jvm.Cond} {P : Jvm.Cond → Bool} (h1 : L.all (fun c => isCode c || P c) = true) (h2 : ∀ c ∈ L.filter isCode, P c = true) : L.all P = true := by
  refine List.all_eq_true.mpr fun c hc => ?_
  have h := List.all_eq_true.mp h1 c hc
  rcases Bool.eq_false_or_eq_true (isCode c) with hi | hi
  · exact h2 c (List.mem_filter.mpr ⟨hc, hi⟩)
  · simpa [hi] using h
set_option maxRecDepth 65536 in
theorem w_c0 : (Jvm.Cond.code x code maxLocals ret).before args0 about1 = true := code_word (m := ⟨1, 1⟩) (meth := k1m1) (c := k1c1) (by decide +kernel) rfl rfl rfl (by decide +kernel)
set_option maxRecDepth 65536 in
theorem w_c1 : (Jvm.Cond.code ({ cls := "com/example/bytewright/bytewright/io/Opcodes", name := "refersTo", desc := "(II)Z" } : Jvm.MethodName) prog_73_method_6_code (2 : Nat) (Option.some Jvm.ClassFile.FieldType.boolean)).before args0 about1 = true := code_word (m := ⟨2, 1⟩) (meth := k2m1) (c := k2c1) (by decide +kernel) rfl rfl rfl (by decide +kernel)
def codes1 : List Jvm.Cond := [Jvm.Cond.code x code maxLocals ret, Jvm.Cond.code ({ cls := "com/example/bytewright/bytewright/io/Opcodes", name := "refersTo", desc := "(II)Z" } : Jvm.MethodName) prog_73_method_6_code (2 : Nat) (Option.some Jvm.ClassFile.FieldType.boolean)]
set_option maxRecDepth 65536 in
theorem codes_eq : words1.filter isCode = codes1 := rfl
theorem w_codes : ∀ c ∈ words1.filter isCode, c.before args0 about1 = true := by
  rw [codes_eq]
  intro c hc
  simp only [codes1, List.mem_cons, List.not_mem_nil, or_false] at hc
  rcases hc with rfl | rfl
  · exact w_c0
  · exact w_c1
set_option maxRecDepth 65536 in
theorem w_t1 : words1.all (fun c => isCode c || c.before args0 about1) = true := by decide +kernel
theorem w_tables : (allAtoms (Jvm.Cond.code x code maxLocals ret :: tables_1)).before args0 about1 = true := by
  rw [allAtoms_all]
  show words1.all (fun c => c.before args0 about1) = true
  refine all_split ?_ w_codes
  rw [w_t1]
set_option maxRecDepth 65536 in
theorem w_case : (Jvm.Cond.and given_1 narrow_1).before args0 about1 = true := by decide +kernel
theorem w_applies : (headSpec (Jvm.Cond.code x code maxLocals ret :: tables_1) room_1).applies x e0.platform about1 = true :=
  (Spec.applies_iff w_frames).mpr ⟨w_running, w_runnable, w_alone, w_named, w_hears, w_ripe, w_room, w_tables⟩
theorem atStart : AtStart classFile x code maxLocals ret World_1 tables_1 room_1 Calls_1 rest_1 Pre_1 launch0 p0 e0 about1 theMethod args0 below0 :=
  ⟨lists_1, trivial, launch0.admits_env _ _ _, launch0.least_env, fairChoices_fair.cas, fairChoices_fair.clock, w_frames, w_args, w_heap, w_applies, trivial, trivial, w_case⟩
end start1
theorem witness_1 : WitnessClaimed_1 := ⟨start1.p0, start1.e0, start1.about1, start1.theMethod, start1.args0, start1.below0, start1.atStart⟩
end Jvm.Pilot.@@N@@
