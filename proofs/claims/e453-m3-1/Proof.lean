import JvmDerived
import JvmDerived.Pilot.@@N@@Statement
import JvmDerived.Pilot.@@N@@Code
set_option linter.unusedVariables false
set_option linter.unusedSimpArgs false
namespace Jvm.Pilot.@@N@@
open Jvm Jvm.ClassFile Sem Op Lib Jvm.Free Jvm.Stand Jvm.LawKit Jvm.RoadKit Bundle Jvm.Pilot.@@N@@.Jvm.D
/-! what a walk owes: from the state U on the run comes to the end of the method's frame, and Q holds there -/
def own_Ends (p : Program) (e : Env) (s : State) (below : List Frame) (Q : Option Value → Heap → List Loc → Prop) (kc ks : Nat) (U : State) : Prop :=
  ∃ s₂ o, Steps p.tables e below U s₂ ∧ s₂.status = .running ∧ Ended s₂ below o ∧ ∃ v L, o = .returned v ∧ Q v s₂.heap L ∧ FrameEnd s o s₂ L kc ks
section OwnWalk
variable {p : Program} {l : Launch} {e : Env} {R : Room} {s : State} {m : MethodId} {args : Array Value} {below : List Frame} {meth : Method} {c : Code} {T : State} {locs : List Loc} {cells slots : Nat} {Q : Option Value → Heap → List Loc → Prop} {kc ks : Nat} {U U' : State}
theorem own_st (k : ∀ t, Steps p.tables e below U' t → Steps p.tables e below U t) (h : own_Ends p e s below Q kc ks U') : own_Ends p e s below Q kc ks U := by
  obtain ⟨s₂, o, h1, h2⟩ := h
  exact ⟨s₂, o, k _ h1, h2⟩
theorem own_tr (k : Steps p.tables e below U U') (h : own_Ends p e s below Q kc ks U') : own_Ends p e s below Q kc ks U := own_st (fun _ h => k.trans h) h
theorem own_fin (X : Stand p l e R s m args below meth c T locs cells slots) {v : Option Value} {g : JFrame} (hv : meth.sig.returnType = none → v = none) (hlk : meth.locks = false) (hc : cells ≤ kc) (hs : slots ≤ ks) (hQ : Q v T.heap locs)
    (st : ∀ fs, (∀ (f : JFrame) (acts : List Action), f.method = m → f.locked = none → f.entered = [] → (doReturn e (T.setTop f) acts v).1 = T.setFrames fs) → Steps p.tables e below (T.setTop g) (T.setFrames fs)) : own_Ends p e s below Q kc ks (T.setTop g) := by
  obtain ⟨fs, hr, hrun, hended, hW, hsame⟩ := X.leave (v := v) hv hlk
  exact ⟨_, _, st fs hr, hrun, hended, v, locs, rfl, hQ, ⟨_, rfl⟩, hW, hsame.mono hc hs⟩
theorem own_retV (X : Stand p l e R s m args below meth c T locs cells slots) (hx : p.tables.exec = Jvm.exec) {pc : Nat} {Ls : Array Slot} (hret : meth.sig.returnType = none) (hlk : meth.locks = false) (hd : decode c.code pc = .ok (.return_, 1)) (hc : cells ≤ kc) (hs : slots ≤ ks) (hQ : Q none T.heap locs) : own_Ends p e s below Q kc ks (T.setTop (mkF m pc Ls [])) :=
  own_fin X (v := none) (fun _ => rfl) hlk hc hs hQ fun fs hr => X.returnOut hx hret hd hr
theorem own_retN (X : Stand p l e R s m args below meth c T locs cells slots) (hx : p.tables.exec = Jvm.exec) {pc : Nat} {Ls : Array Slot} {z : Int32} {t : FieldType} {rest : List Value} (hret : meth.sig.returnType = some t) (hlk : meth.locks = false) (ht : t = .boolean ∨ t = .byte ∨ t = .char ∨ t = .short) (hz : nar t z = z) (hd : decode c.code pc = .ok (.ireturn, 1)) (hc : cells ≤ kc) (hs : slots ≤ ks) (hQ : Q (some (.int z)) T.heap locs) : own_Ends p e s below Q kc ks (T.setTop (mkF m pc Ls (.int z :: rest))) :=
  own_fin X (v := some (.int z)) (fun h => by rw [hret] at h; cases h) hlk hc hs hQ fun fs hr => retN X hx hret ht hd (by rw [hz]; exact hr)
theorem own_retO (X : Stand p l e R s m args below meth c T locs cells slots) (hx : p.tables.exec = Jvm.exec) {pc : Nat} {Ls : Array Slot} {w : Value} {t : FieldType} {i : Instr} {rest : List Value} (hret : meth.sig.returnType = some t) (hlk : meth.locks = false) (hn : narrow t w = w)
    (hi : (i = .ireturn ∧ (t = .int ∨ t = .boolean ∨ t = .byte ∨ t = .char ∨ t = .short) ∧ ∃ z, w = .int z) ∨ (i = .lreturn ∧ t = .long ∧ ∃ z, w = .long z) ∨ (i = .dreturn ∧ t = .double ∧ ∃ z, w = .double z) ∨ (i = .freturn ∧ t = .float ∧ ∃ z, w = .float z) ∨ (i = .areturn ∧ t.isReference = true ∧ w.isRef = true))
    (hd : decode c.code pc = .ok (i, 1)) (hc : cells ≤ kc) (hs : slots ≤ ks) (hQ : Q (some w) T.heap locs) : own_Ends p e s below Q kc ks (T.setTop (mkF m pc Ls (w :: rest))) :=
  own_fin X (v := some w) (fun h => by rw [hret] at h; cases h) hlk hc hs hQ fun fs hr => retOut X hx hret hn hi hd hr
theorem own_retI (X : Stand p l e R s m args below meth c T locs cells slots) (hx : p.tables.exec = Jvm.exec) {pc : Nat} {Ls : Array Slot} {z : Int32} {rest : List Value} (hret : meth.sig.returnType = some .int) (hlk : meth.locks = false) (hd : decode c.code pc = .ok (.ireturn, 1)) (hc : cells ≤ kc) (hs : slots ≤ ks) (hQ : Q (some (.int z)) T.heap locs) : own_Ends p e s below Q kc ks (T.setTop (mkF m pc Ls (.int z :: rest))) :=
  own_retO X hx hret hlk rfl (Or.inl ⟨rfl, Or.inl rfl, _, rfl⟩) hd hc hs hQ
theorem own_retJ (X : Stand p l e R s m args below meth c T locs cells slots) (hx : p.tables.exec = Jvm.exec) {pc : Nat} {Ls : Array Slot} {z : Int64} {rest : List Value} (hret : meth.sig.returnType = some .long) (hlk : meth.locks = false) (hd : decode c.code pc = .ok (.lreturn, 1)) (hc : cells ≤ kc) (hs : slots ≤ ks) (hQ : Q (some (.long z)) T.heap locs) : own_Ends p e s below Q kc ks (T.setTop (mkF m pc Ls (.long z :: rest))) :=
  own_retO X hx hret hlk rfl (Or.inr (Or.inl ⟨rfl, rfl, _, rfl⟩)) hd hc hs hQ
theorem own_retA (X : Stand p l e R s m args below meth c T locs cells slots) (hx : p.tables.exec = Jvm.exec) {pc : Nat} {Ls : Array Slot} {a : Addr} {t : FieldType} {rest : List Value} (hret : meth.sig.returnType = some t) (hlk : meth.locks = false) (ht : t.isReference = true) (hn : narrow t (.ref a) = .ref a) (hd : decode c.code pc = .ok (.areturn, 1)) (hc : cells ≤ kc) (hs : slots ≤ ks) (hQ : Q (some (.ref a)) T.heap locs) : own_Ends p e s below Q kc ks (T.setTop (mkF m pc Ls (.ref a :: rest))) :=
  own_retO X hx hret hlk hn (Or.inr (Or.inr (Or.inr (Or.inr ⟨rfl, ht, rfl⟩)))) hd hc hs hQ
end OwnWalk
/-! arrays: kind, length, elements -/
section OwnArr
variable {p : Program} {l : Launch} {e : Env} {R : Room} {s : State} {m : MethodId} {args : Array Value} {below : List Frame} {meth : Method} {c : Code} {T : State} {locs : List Loc} {cells slots : Nat} {Z : State} {h h' : Heap} {a b : Addr} {ty : FieldType} {n : Nat} {f f' : Nat → Value} {sl : Nat} {v : Value} {ws : List Addr}
def own_A (Z : State) (h : Heap) (a : Addr) (ty : FieldType) (n : Nat) (f : Nat → Value) : Prop := ∃ c : Cell, Arr Z h a c ty ∧ c.slots.size = n ∧ ∀ j, j < n → c.slots[j]? = some (f j)
theorem own_A.lt (V : own_A Z h a ty n f) : a < h.size := by obtain ⟨c, A, -⟩ := V; exact A.lt
theorem own_A.ext (V : own_A Z h a ty n f) (E : Ext h h') : own_A Z h' a ty n f := by obtain ⟨c, A, r⟩ := V; exact ⟨c, A.ext E, r⟩
theorem own_A.other (V : own_A Z h b ty n f) (W : Wr h h' a sl v) (q : b ≠ a) : own_A Z h' b ty n f := by obtain ⟨c, A, r⟩ := V; exact ⟨c, A.other W q, r⟩
theorem own_A.keep (V : own_A Z h a ty n f) (K : Keep h h' ws) (q : a ∉ ws) : own_A Z h' a ty n f := by obtain ⟨c, A, r⟩ := V; exact ⟨c, ⟨K.2.1 a c A.1 q, A.2⟩, r⟩
theorem own_A.new {k : ClassId} {z : Int32} (A : Arr Z h a (newA k ty z) ty) (hn : z.toNatClampNeg = n) : own_A Z h a ty n (fun _ => defaultValue ty) := ⟨_, A, by rw [sz_new]; exact hn, fun j hj => by simp [newA, hn, hj]⟩
theorem own_A.congr (V : own_A Z h a ty n f) (q : ∀ j, j < n → f j = f' j) : own_A Z h a ty n f' := by obtain ⟨c, A, S, H⟩ := V; exact ⟨c, A, S, fun j hj => by rw [H j hj, q j hj]⟩
def own_upd (f : Nat → Value) (i : Nat) (v : Value) : Nat → Value := fun j => if j = i then v else f j
theorem own_A.set {cl : Cell} (A : Arr Z h a cl ty) (S : cl.slots.size = n) (H : ∀ j, j < n → cl.slots[j]? = some (f j)) (W : Wr h h' a sl v) : own_A Z h' a ty n (own_upd f sl v) := by
  refine ⟨_, A.same W, by rw [sz_set]; exact S, fun j hj => ?_⟩
  unfold own_upd
  by_cases q : j = sl
  · subst q; simp [Cell.setSlot, S, hj]
  · rw [if_neg q]
    show (cl.slots.setIfInBounds sl v)[j]? = _
    rw [Array.getElem?_setIfInBounds_ne (Ne.symm q)]
    exact H j hj
theorem own_stI (X : Stand p l e R s m args below meth c T locs cells slots) (hx : p.tables.exec = Jvm.exec) (hZ : Z.Warmed39 s.vm) (eT : T.heap = h) (V : own_A Z h a .int n f) {j x : Int32} {i : Nat} (hj : ¬ j < 0) (hi : j.toNatClampNeg = i) (hin : i < n) {g : JFrame} (hg : g.method = m) {rest : List Value} (hs : g.stack = .int x :: .int j :: .ref a :: rest) (hd : decode c.code g.pc = .ok (.iastore, 1)) :
    ∃ T' h', Stand p l e R s m args below meth c T' (locs ++ [⟨a, i⟩]) cells slots ∧ T'.heap = h' ∧ Wr h h' a i (.int x) ∧ own_A Z h' a .int n (own_upd f i (.int x)) ∧ ∀ target, Steps p.tables e below (T'.setTop { g with pc := g.pc + 1, stack := rest }) target → Steps p.tables e below (T.setTop g) target := by
  obtain ⟨cl, A, S, H⟩ := V
  subst hi
  obtain ⟨T', h', X', e', W, st⟩ := stI X hx hZ eT A (j := j) (fun q => q.elim hj fun q => by omega) hg hs hd
  exact ⟨T', h', X', e', W, own_A.set A S H W, st⟩
theorem own_stJ (X : Stand p l e R s m args below meth c T locs cells slots) (hx : p.tables.exec = Jvm.exec) (hZ : Z.Warmed39 s.vm) (eT : T.heap = h) (V : own_A Z h a .long n f) {j : Int32} {x : Int64} {i : Nat} (hj : ¬ j < 0) (hi : j.toNatClampNeg = i) (hin : i < n) {g : JFrame} (hg : g.method = m) {rest : List Value} (hs : g.stack = .long x :: .int j :: .ref a :: rest) (hd : decode c.code g.pc = .ok (.lastore, 1)) :
    ∃ T' h', Stand p l e R s m args below meth c T' (locs ++ [⟨a, i⟩]) cells slots ∧ T'.heap = h' ∧ Wr h h' a i (.long x) ∧ own_A Z h' a .long n (own_upd f i (.long x)) ∧ ∀ target, Steps p.tables e below (T'.setTop { g with pc := g.pc + 1, stack := rest }) target → Steps p.tables e below (T.setTop g) target := by
  obtain ⟨cl, A, S, H⟩ := V
  subst hi
  obtain ⟨T', h', X', e', W, st⟩ := stJ X hx hZ eT A (j := j) (fun q => q.elim hj fun q => by omega) hg hs hd
  exact ⟨T', h', X', e', W, own_A.set A S H W, st⟩
theorem own_ldI (X : Stand p l e R s m args below meth c T locs cells slots) (hx : p.tables.exec = Jvm.exec) (hZ : Z.Warmed39 s.vm) (eT : T.heap = h) (V : own_A Z h a .int n f) {j : Int32} {i : Nat} (hj : ¬ j < 0) (hi : j.toNatClampNeg = i) (hin : i < n) {v : Value} (hv : f i = v) {g : JFrame} (hg : g.method = m) {rest : List Value} (hs : g.stack = .int j :: .ref a :: rest) (hd : decode c.code g.pc = .ok (.iaload, 1)) :
    ∀ target, Steps p.tables e below (T.setTop { g with pc := g.pc + 1, stack := v :: rest }) target → Steps p.tables e below (T.setTop g) target := by
  obtain ⟨cl, A, S, H⟩ := V
  subst hi
  exact X.iaload hx (by rw [eT]; exact A.1) (State.isArrayOf_alike hZ.alike A.2.1) A.2.2 (fun q => q.elim hj fun q => by omega) (by rw [H _ hin, hv]) hg hs hd
theorem own_ldJ (X : Stand p l e R s m args below meth c T locs cells slots) (hx : p.tables.exec = Jvm.exec) (hZ : Z.Warmed39 s.vm) (eT : T.heap = h) (V : own_A Z h a .long n f) {j : Int32} {i : Nat} (hj : ¬ j < 0) (hi : j.toNatClampNeg = i) (hin : i < n) {v : Value} (hv : f i = v) {g : JFrame} (hg : g.method = m) {rest : List Value} (hs : g.stack = .int j :: .ref a :: rest) (hd : decode c.code g.pc = .ok (.laload, 1)) :
    ∀ target, Steps p.tables e below (T.setTop { g with pc := g.pc + 1, stack := v :: rest }) target → Steps p.tables e below (T.setTop g) target := by
  obtain ⟨cl, A, S, H⟩ := V
  subst hi
  exact X.laload hx (by rw [eT]; exact A.1) (State.isArrayOf_alike hZ.alike A.2.1) A.2.2 (fun q => q.elim hj fun q => by omega) (by rw [H _ hin, hv]) hg hs hd
theorem own_len (X : Stand p l e R s m args below meth c T locs cells slots) (hx : p.tables.exec = Jvm.exec) (hZ : Z.Warmed39 s.vm) (eT : T.heap = h) (V : own_A Z h a ty n f) {z : Int32} (hz : n.toInt32 = z) {g : JFrame} (hg : g.method = m) {rest : List Value} (hs : g.stack = .ref a :: rest) (hd : decode c.code g.pc = .ok (.arraylength, 1)) :
    ∀ target, Steps p.tables e below (T.setTop { g with pc := g.pc + 1, stack := .int z :: rest }) target → Steps p.tables e below (T.setTop g) target := by
  obtain ⟨cl, A, S, H⟩ := V
  have q := X.arraylength hx (by rw [eT]; exact A.1) (State.isArrayOf_alike hZ.alike A.2.1) hg hs hd
  rw [S, hz] at q
  exact q
end OwnArr
/-- a list's elements as an array's -/
def own_L (vs : List Int32) : Nat → Value := fun j => .int (vs.getD j 0)
/-! what a walk owes that may load String constants -/
def own_EndW (p : Program) (e : Env) (s : State) (below : List Frame) (Z : State) (EL : List (String × Nat)) (h0 : Heap) (Q : Option Value → Heap → List Loc → Prop) (kc ks : Nat) (U : State) : Prop :=
  ∃ s₂ o, Steps p.tables e below U s₂ ∧ s₂.status = .running ∧ Ended s₂ below o ∧ ∃ v L, o = .returned v ∧ Q v s₂.heap L ∧ CHr Z EL s.vm h0 s₂.vm s₂.heap ∧ ReturnedEndW s o s₂ L kc ks
section OwnWalkW
variable {p : Program} {l : Launch} {e : Env} {R : Room} {s : State} {m : MethodId} {args : Array Value} {below : List Frame} {meth : Method} {c : Code} {T : State} {locs : List Loc} {cells slots : Nat} {Q : Option Value → Heap → List Loc → Prop} {kc ks : Nat} {U U' Z : State} {EL : List (String × Nat)} {h0 : Heap} {vm0 : Vm} {k0 : Nat} {a0 : Array Value}
theorem own_stW (k : ∀ t, Steps p.tables e below U' t → Steps p.tables e below U t) (h : own_EndW p e s below Z EL h0 Q kc ks U') : own_EndW p e s below Z EL h0 Q kc ks U := by
  obtain ⟨s₂, o, h1, h2⟩ := h
  exact ⟨s₂, o, k _ h1, h2⟩
theorem own_trW (k : Steps p.tables e below U U') (h : own_EndW p e s below Z EL h0 Q kc ks U') : own_EndW p e s below Z EL h0 Q kc ks U := own_stW (fun _ h => k.trans h) h
theorem own_finW (X : Stand p l e R (s.setVm vm0) m args below meth c T locs cells slots) (hS : s.Since vm0 k0) (hk : k0 ≤ T.heap.size) (hZ : Z.Warmed39 vm0) (w : EW Z a0 EL) (C : CHr Z EL s.vm h0 vm0 T.heap) {v : Option Value} {g : JFrame} (hv : meth.sig.returnType = none → v = none) (hlk : meth.locks = false) (hc : cells ≤ kc) (hs : slots ≤ ks) (hQ : Q v T.heap locs)
    (st : ∀ fs, (∀ (f : JFrame) (acts : List Action), f.method = m → f.locked = none → f.entered = [] → (doReturn e (T.setTop f) acts v).1 = T.setFrames fs) → Steps p.tables e below (T.setTop g) (T.setFrames fs)) : own_EndW p e s below Z EL h0 Q kc ks (T.setTop g) := by
  obtain ⟨fs, hr, hrun, hended, w1, w2, w3, w4⟩ := X.leaveW hS hk (v := v) hv hlk
  have A : CHr Z EL vm0 T.heap T.vm T.heap := CHv.at X hZ w C.1
  exact ⟨_, _, st fs hr, hrun, hended, v, locs, rfl, hQ, C.trans A, w1, w2, w3, w4.mono hc hs⟩
theorem own_retVW (X : Stand p l e R (s.setVm vm0) m args below meth c T locs cells slots) (hx : p.tables.exec = Jvm.exec) (hS : s.Since vm0 k0) (hk : k0 ≤ T.heap.size) (hZ : Z.Warmed39 vm0) (w : EW Z a0 EL) (C : CHr Z EL s.vm h0 vm0 T.heap) {pc : Nat} {Ls : Array Slot} (hret : meth.sig.returnType = none) (hlk : meth.locks = false) (hd : decode c.code pc = .ok (.return_, 1)) (hc : cells ≤ kc) (hs : slots ≤ ks) (hQ : Q none T.heap locs) : own_EndW p e s below Z EL h0 Q kc ks (T.setTop (mkF m pc Ls [])) :=
  own_finW X hS hk hZ w C (v := none) (fun _ => rfl) hlk hc hs hQ fun fs hr => X.returnOut hx hret hd hr
theorem own_retNW (X : Stand p l e R (s.setVm vm0) m args below meth c T locs cells slots) (hx : p.tables.exec = Jvm.exec) (hS : s.Since vm0 k0) (hk : k0 ≤ T.heap.size) (hZ : Z.Warmed39 vm0) (w : EW Z a0 EL) (C : CHr Z EL s.vm h0 vm0 T.heap) {pc : Nat} {Ls : Array Slot} {z : Int32} {t : FieldType} {rest : List Value} (hret : meth.sig.returnType = some t) (hlk : meth.locks = false) (ht : t = .boolean ∨ t = .byte ∨ t = .char ∨ t = .short) (hz : nar t z = z) (hd : decode c.code pc = .ok (.ireturn, 1)) (hc : cells ≤ kc) (hs : slots ≤ ks) (hQ : Q (some (.int z)) T.heap locs) : own_EndW p e s below Z EL h0 Q kc ks (T.setTop (mkF m pc Ls (.int z :: rest))) :=
  own_finW X hS hk hZ w C (v := some (.int z)) (fun h => by rw [hret] at h; cases h) hlk hc hs hQ fun fs hr => retN X hx hret ht hd (by rw [hz]; exact hr)
theorem own_retAW (X : Stand p l e R (s.setVm vm0) m args below meth c T locs cells slots) (hx : p.tables.exec = Jvm.exec) (hS : s.Since vm0 k0) (hk : k0 ≤ T.heap.size) (hZ : Z.Warmed39 vm0) (w : EW Z a0 EL) (C : CHr Z EL s.vm h0 vm0 T.heap) {pc : Nat} {Ls : Array Slot} {a : Addr} {t : FieldType} {rest : List Value} (hret : meth.sig.returnType = some t) (hlk : meth.locks = false) (ht : t.isReference = true) (hn : narrow t (.ref a) = .ref a) (hd : decode c.code pc = .ok (.areturn, 1)) (hc : cells ≤ kc) (hs : slots ≤ ks) (hQ : Q (some (.ref a)) T.heap locs) : own_EndW p e s below Z EL h0 Q kc ks (T.setTop (mkF m pc Ls (.ref a :: rest))) :=
  own_finW X hS hk hZ w C (v := some (.ref a)) (fun h => by rw [hret] at h; cases h) hlk hc hs hQ fun fs hr => retOut X hx hret hn (Or.inr (Or.inr (Or.inr (Or.inr ⟨rfl, ht, rfl⟩)))) hd hr
end OwnWalkW
/-! the plain law: short strings of chars below 256 -/
def own_b (q : Bool) : Int32 := if q = true then 1 else 0
theorem own_b0 (q : Bool) : own_b q = 0 ↔ q = false := by cases q <;> decide
def own_byte (c : Int32) : Int32 := c.toInt8.toInt32
def own_cs (n c0 c1 : Int32) : List Int32 := if n = 0 then [] else if n = 1 then [c0] else [c0, c1]
def own_in (c : Int32) : Prop := ¬ c < 0 ∧ ¬ 255 < c
def own_ok (cs : List Int32) : Prop := ∀ c ∈ cs, own_in c
def own_three (n : Int32) : Prop := n = 0 ∨ n = 1 ∨ n = 2
def own_F (l1 a0 a1 l2 b0 b1 : Int32) : Prop := own_three l1 ∧ own_three l2 ∧ own_in a0 ∧ own_in a1 ∧ own_in b0 ∧ own_in b1
theorem own_nat {c : Int32} (h : own_in c) : ∃ n : Fin 256, c = Int32.ofNat n.1 := by
  obtain ⟨h1, h2⟩ := h
  rw [Int32.lt_iff_toInt_lt] at h1 h2
  have e0 : (0 : Int32).toInt = 0 := rfl
  have e255 : (255 : Int32).toInt = 255 := rfl
  refine ⟨⟨c.toInt.toNat, by omega⟩, ?_⟩
  apply Int32.toInt_inj.mp
  rw [Int32.toInt_ofNat_of_lt (by show c.toInt.toNat < 2 ^ 31; omega)]
  show c.toInt = ((c.toInt.toNat : Nat) : Int)
  omega
theorem own_byte_t : ∀ n : Fin 256, own_byte (Int32.ofNat n.1) &&& 255 = Int32.ofNat n.1 ∧ nar .char (Int32.ofNat n.1) = Int32.ofNat n.1 ∧ nar .byte (own_byte (Int32.ofNat n.1)) = own_byte (Int32.ofNat n.1) := by decide +kernel
theorem own_byte_inj {x y : Int32} (hx : own_in x) (hy : own_in y) (h : own_byte x = own_byte y) : x = y := by
  obtain ⟨n, rfl⟩ := own_nat hx
  obtain ⟨m, rfl⟩ := own_nat hy
  rw [← (own_byte_t n).1, ← (own_byte_t m).1, h]
theorem own_char {c : Int32} (h : own_in c) : nar .char c = c := by obtain ⟨n, rfl⟩ := own_nat h; exact (own_byte_t n).2.1
theorem own_nbyte {c : Int32} (h : own_in c) : nar .byte (own_byte c) = own_byte c := by obtain ⟨n, rfl⟩ := own_nat h; exact (own_byte_t n).2.2
theorem own_lists {cs cs' : List Int32} (h : own_ok cs) (h' : own_ok cs') (hl : cs.length = cs'.length) (hb : ∀ j, j < cs.length → own_byte (cs.getD j 0) = own_byte (cs'.getD j 0)) : cs = cs' := by
  apply List.ext_getElem hl
  intro j h1 h2
  have q := hb j h1
  rw [List.getD_eq_getElem?_getD, List.getD_eq_getElem?_getD, List.getElem?_eq_getElem h1, List.getElem?_eq_getElem h2] at q
  exact own_byte_inj (h _ (List.getElem_mem h1)) (h' _ (List.getElem_mem h2)) q
theorem own_and3L (x : Int64) : (x &&& 3) = 0 ∨ (x &&& 3) = 1 ∨ (x &&& 3) = 2 ∨ (x &&& 3) = 3 := by
  have h : ∃ n : Fin 4, (x &&& (3 : Int64)) = Int64.ofNat n.1 := by
    refine ⟨⟨(x &&& 3).toBitVec.toNat, ?_⟩, ?_⟩
    · simp only [Int64.toBitVec_and, BitVec.toNat_and]
      exact Nat.lt_of_le_of_lt Nat.and_le_right (by decide)
    · apply Int64.toBitVec_inj.mp
      show _ = BitVec.ofNat 64 _
      rw [BitVec.ofNat_toNat]; simp
  obtain ⟨n, hn⟩ := h
  rw [hn]
  clear hn
  revert n
  decide +kernel
def own_ln (x : Int64) : Int32 := ((x &&& (3 : Int64)) - ((x &&& (3 : Int64)) / (3 : Int64)) * (3 : Int64)).toInt32
theorem own_ln_three (x : Int64) : own_three (own_ln x) := by
  unfold own_ln own_three
  rcases own_and3L x with h | h | h | h <;> rw [h] <;> decide +kernel
def own_ch (x : Int64) (k : Int32) : Int32 := (((x.toUInt64 >>> (k &&& 0x3f).toInt64.toUInt64).toInt64) &&& (255 : Int64)).toInt32
theorem own_and255 (x : Int64) : own_in (x &&& 255).toInt32 := by
  have h : ∃ n : Fin 256, (x &&& (255 : Int64)) = Int64.ofNat n.1 := by
    refine ⟨⟨(x &&& 255).toBitVec.toNat, ?_⟩, ?_⟩
    · simp only [Int64.toBitVec_and, BitVec.toNat_and]
      exact Nat.lt_of_le_of_lt Nat.and_le_right (by decide)
    · apply Int64.toBitVec_inj.mp
      show _ = BitVec.ofNat 64 _
      rw [BitVec.ofNat_toNat]; simp
  obtain ⟨n, hn⟩ := h
  have q : ∀ n : Fin 256, ¬ (Int64.ofNat n.1).toInt32 < 0 ∧ ¬ 255 < (Int64.ofNat n.1).toInt32 := by decide +kernel
  rw [hn]
  exact q n
theorem own_xor_in {x y : Int32} (hx : own_in x) (hy : own_in y) : own_in (x ^^^ y) := by
  obtain ⟨n, rfl⟩ := own_nat hx
  obtain ⟨m, rfl⟩ := own_nat hy
  have e : Int32.ofNat n.1 ^^^ Int32.ofNat m.1 = Int32.ofNat (n.1 ^^^ m.1) := by
    apply Int32.toBitVec_inj.mp
    show BitVec.ofNat 32 n.1 ^^^ BitVec.ofNat 32 m.1 = BitVec.ofNat 32 (n.1 ^^^ m.1)
    apply BitVec.eq_of_toNat_eq
    have h : n.1 ^^^ m.1 < 2 ^ 8 := Nat.xor_lt_two_pow (show n.1 < 2 ^ 8 from n.2) (show m.1 < 2 ^ 8 from m.2)
    have hn := n.2
    have hm := m.2
    rw [BitVec.toNat_xor, BitVec.toNat_ofNat, BitVec.toNat_ofNat, BitVec.toNat_ofNat, Nat.mod_eq_of_lt (by omega), Nat.mod_eq_of_lt (by omega), Nat.mod_eq_of_lt (by omega)]
  have h : n.1 ^^^ m.1 < 256 := Nat.xor_lt_two_pow (n := 8) n.2 m.2
  have q : ∀ k : Fin 256, ¬ Int32.ofNat k.1 < 0 ∧ ¬ 255 < Int32.ofNat k.1 := by decide +kernel
  rw [e]
  exact q ⟨_, h⟩
def own_same (l1 a0 a1 l2 b0 b1 : Int32) : Bool := decide (l1 = l2) && ((decide (l1 < 1) || decide (a0 = b0)) && (decide (l1 < 2) || decide (a1 = b1)))
theorem own_same_eq {l1 a0 a1 l2 b0 b1 : Int32} (h1 : own_three l1) (h2 : own_three l2) : own_same l1 a0 a1 l2 b0 b1 = decide (own_cs l1 a0 a1 = own_cs l2 b0 b1) := by
  rcases h1 with rfl | rfl | rfl <;> rcases h2 with rfl | rfl | rfl <;> simp [own_same, own_cs] <;> decide
theorem own_cs_ok {l c0 c1 : Int32} (h0 : own_in c0) (h1 : own_in c1) : own_ok (own_cs l c0 c1) := by
  unfold own_cs own_ok
  intro c hc
  split at hc
  · cases hc
  · split at hc
    · cases List.mem_singleton.mp hc; exact h0
    · simp only [List.mem_cons, List.not_mem_nil, or_false] at hc
      rcases hc with rfl | rfl
      · exact h0
      · exact h1
theorem own_ofN {n : Nat} (h : n < 48) : ¬ Int32.ofNat n < 0 ∧ (Int32.ofNat n).toNatClampNeg = n := by
  have q : ∀ m : Fin 48, ¬ Int32.ofNat m.1 < 0 ∧ (Int32.ofNat m.1).toNatClampNeg = m.1 := by decide +kernel
  exact q ⟨n, h⟩
theorem own_lt {i n : Nat} (h : i < n) (hn : n < 48) : Int32.ofNat i < Int32.ofNat n := by
  rw [Int32.lt_iff_toInt_lt, Int32.toInt_ofNat_of_lt (by omega), Int32.toInt_ofNat_of_lt (by omega)]; omega
theorem own_ofN_inj {i n : Nat} (hi : i < 48) (hn : n < 48) (h : Int32.ofNat i = Int32.ofNat n) : i = n := by
  have q := congrArg Int32.toInt h
  rw [Int32.toInt_ofNat_of_lt (by omega), Int32.toInt_ofNat_of_lt (by omega)] at q
  omega
/-! more arrays -/
section OwnArr2
variable {p : Program} {l : Launch} {e : Env} {R : Room} {s : State} {m : MethodId} {args : Array Value} {below : List Frame} {meth : Method} {c : Code} {T : State} {locs : List Loc} {cells slots : Nat} {Z : State} {h h' : Heap} {a b : Addr} {ty : FieldType} {n : Nat} {f f' : Nat → Value} {sl : Nat} {v : Value} {ws : List Addr}
theorem own_stC (X : Stand p l e R s m args below meth c T locs cells slots) (hx : p.tables.exec = Jvm.exec) (hZ : Z.Warmed39 s.vm) (eT : T.heap = h) (V : own_A Z h a .char n f) {j x : Int32} {i : Nat} (hj : ¬ j < 0) (hi : j.toNatClampNeg = i) (hin : i < n) {g : JFrame} (hg : g.method = m) {rest : List Value} (hs : g.stack = .int x :: .int j :: .ref a :: rest) (hd : decode c.code g.pc = .ok (.castore, 1)) :
    ∃ T' h', Stand p l e R s m args below meth c T' (locs ++ [⟨a, i⟩]) cells slots ∧ T'.heap = h' ∧ Wr h h' a i (.int (nar .char x)) ∧ own_A Z h' a .char n (own_upd f i (.int (nar .char x))) ∧ ∀ target, Steps p.tables e below (T'.setTop { g with pc := g.pc + 1, stack := rest }) target → Steps p.tables e below (T.setTop g) target := by
  obtain ⟨cl, A, S, H⟩ := V
  subst hi
  obtain ⟨T', h', X', e', W, st⟩ := stC X hx hZ eT A (j := j) (fun q => q.elim hj fun q => by omega) hg hs hd
  exact ⟨T', h', X', e', W, own_A.set A S H W, st⟩
theorem own_stB (X : Stand p l e R s m args below meth c T locs cells slots) (hx : p.tables.exec = Jvm.exec) (hZ : Z.Warmed39 s.vm) (eT : T.heap = h) (V : own_A Z h a .byte n f) {j x : Int32} {i : Nat} (hj : ¬ j < 0) (hi : j.toNatClampNeg = i) (hin : i < n) {g : JFrame} (hg : g.method = m) {rest : List Value} (hs : g.stack = .int x :: .int j :: .ref a :: rest) (hd : decode c.code g.pc = .ok (.bastore, 1)) :
    ∃ T' h', Stand p l e R s m args below meth c T' (locs ++ [⟨a, i⟩]) cells slots ∧ T'.heap = h' ∧ Wr h h' a i (.int (nar .byte x)) ∧ own_A Z h' a .byte n (own_upd f i (.int (nar .byte x))) ∧ ∀ target, Steps p.tables e below (T'.setTop { g with pc := g.pc + 1, stack := rest }) target → Steps p.tables e below (T.setTop g) target := by
  obtain ⟨cl, A, S, H⟩ := V
  subst hi
  obtain ⟨T', h', X', e', W, st⟩ := stB X hx hZ eT A (j := j) (fun q => q.elim hj fun q => by omega) hg hs hd
  exact ⟨T', h', X', e', W, own_A.set A S H W, st⟩
theorem own_ldC (X : Stand p l e R s m args below meth c T locs cells slots) (hx : p.tables.exec = Jvm.exec) (hZ : Z.Warmed39 s.vm) (eT : T.heap = h) (V : own_A Z h a .char n f) {j : Int32} {i : Nat} (hj : ¬ j < 0) (hi : j.toNatClampNeg = i) (hin : i < n) {v : Value} (hv : f i = v) {g : JFrame} (hg : g.method = m) {rest : List Value} (hs : g.stack = .int j :: .ref a :: rest) (hd : decode c.code g.pc = .ok (.caload, 1)) :
    ∀ target, Steps p.tables e below (T.setTop { g with pc := g.pc + 1, stack := v :: rest }) target → Steps p.tables e below (T.setTop g) target := by
  obtain ⟨cl, A, S, H⟩ := V
  subst hi
  exact X.caload hx (by rw [eT]; exact A.1) (State.isArrayOf_alike hZ.alike A.2.1) A.2.2 (fun q => q.elim hj fun q => by omega) (by rw [H _ hin, hv]) hg hs hd
theorem own_ldB (X : Stand p l e R s m args below meth c T locs cells slots) (hx : p.tables.exec = Jvm.exec) (hZ : Z.Warmed39 s.vm) (eT : T.heap = h) (V : own_A Z h a .byte n f) {j : Int32} {i : Nat} (hj : ¬ j < 0) (hi : j.toNatClampNeg = i) (hin : i < n) {v : Value} (hv : f i = v) {g : JFrame} (hg : g.method = m) {rest : List Value} (hs : g.stack = .int j :: .ref a :: rest) (hd : decode c.code g.pc = .ok (.baload, 1)) :
    ∀ target, Steps p.tables e below (T.setTop { g with pc := g.pc + 1, stack := v :: rest }) target → Steps p.tables e below (T.setTop g) target := by
  obtain ⟨cl, A, S, H⟩ := V
  subst hi
  exact X.baloadBytes hx (by rw [eT]; exact A.1) (State.isArrayOf_alike hZ.alike A.2.1) A.2.2 (fun q => q.elim hj fun q => by omega) (by rw [H _ hin, hv]) hg hs hd
end OwnArr2
/-! strings in the heap -/
def own_S (Z : State) (h : Heap) (n : Nat) (r : Addr) (cs : List Int32) : Prop :=
  own_ok cs ∧ cs.length ≤ 2 ∧ r < n ∧ Exa Z h r "java/lang/String" ∧ Fld Z h r "java/lang/String" "coder" "B" (.int 0) ∧ ∃ t, t < n ∧ Fld Z h r "java/lang/String" "value" "[B" (.ref t) ∧ own_A Z h t .byte cs.length (fun j => .int (own_byte (cs.getD j 0)))
section OwnStr
variable {Z : State} {h h' : Heap} {n n' : Nat} {r a : Addr} {cs cs' : List Int32} {ws : List Addr} {sl : Nat} {v : Value}
theorem own_S.ext (S : own_S Z h n r cs) (E : Ext h h') : own_S Z h' n r cs := by
  obtain ⟨s1, s2, s3, s4, s5, t, s6, s7, s8⟩ := S
  exact ⟨s1, s2, s3, s4.ext E, s5.ext E, t, s6, s7.ext E, s8.ext E⟩
theorem own_S.keep (S : own_S Z h n r cs) (K : Keep h h' ws) (hb : ∀ x ∈ ws, n ≤ x) : own_S Z h' n r cs := by
  obtain ⟨s1, s2, s3, s4, s5, t, s6, s7, s8⟩ := S
  have q : ∀ x, x < n → x ∉ ws := fun x hx hm => absurd hx (Nat.not_lt.mpr (hb x hm))
  exact ⟨s1, s2, s3, s4.keep K, s5.keep K (q r s3), t, s6, s7.keep K (q r s3), s8.keep K (q t s6)⟩
theorem own_S.wr (S : own_S Z h n r cs) (W : Wr h h' a sl v) (hb : n ≤ a) : own_S Z h' n r cs := S.keep (Keep.of_wr W) (allS hb all0)
theorem own_S.mono (S : own_S Z h n r cs) (hn : n ≤ n') : own_S Z h n' r cs := by
  obtain ⟨s1, s2, s3, s4, s5, t, s6, s7, s8⟩ := S
  exact ⟨s1, s2, Nat.lt_of_lt_of_le s3 hn, s4, s5, t, Nat.lt_of_lt_of_le s6 hn, s7, s8⟩
theorem own_S.inj (S : own_S Z h n r cs) (S' : own_S Z h n' r cs') : cs = cs' := by
  obtain ⟨s1, s2, s3, s4, s5, t, s6, s7, s8⟩ := S
  obtain ⟨u1, u2, u3, u4, u5, t', u6, u7, u8⟩ := S'
  have et : t = t' := Classical.byContradiction fun q => (Fld.ne s7 u7 (fun z => q (Value.ref.inj z))) rfl
  subst et
  obtain ⟨c1, A1, z1, H1⟩ := s8
  obtain ⟨c2, A2, z2, H2⟩ := u8
  cases A1.1.symm.trans A2.1
  refine own_lists s1 u1 (z1.symm.trans z2) fun j hj => ?_
  have e1 := H1 j hj
  have e2 := H2 j (by rw [← z2, z1]; exact hj)
  exact Value.int.inj (Option.some.inj (e1.symm.trans e2))
end OwnStr
/-- a String whose value is still null is no booked constant's -/
theorem own_safe {Z : State} {EL : List (String × Nat)} {vm : Vm} {h : Heap} {a : Addr} {a0 : Array Value} (hal : Z.vm.Alike vm) (wi : (Jvm.Cond.instantiable "java/lang/String" 4).before a0 Z = true) (E : Exa Z h a "java/lang/String") (F : Fld Z h a "java/lang/String" "value" "[B" .null) : Safe Z EL vm h a := fun B => by
  obtain ⟨p, -, u, a', -, q, -, G, hy⟩ := B
  obtain ⟨cS, ⟨⟨s1, s2, s3, ⟨cv, kv, iv, s4, s4'⟩, ⟨cc, kc, ic, s5, s5'⟩, s6, s7, s8, s9, s10, s11, s12, -⟩, -, -⟩, -⟩ := G
  rcases hy with hy | hy
  · subst hy
    obtain ⟨cell, cf, k, i, f, h1, h2, -, -, -, -, h7⟩ := F
    obtain ⟨k', z4⟩ := ff_back (U := Wst Z vm h) hal s4
    have e4 := z4.symm.trans h2
    simp only [Option.some.injEq, Prod.mk.injEq] at e4
    cases (show h[q.sa]? = some q.sC from s1).symm.trans h1
    rw [← e4.2.2.2, s8] at h7
    cases h7
  · subst hy
    obtain ⟨hst, k9, hk9, comp, hkind9⟩ := s11
    obtain ⟨cell, k, e1, e2, e3, -, -⟩ := E
    cases (show h[q.sd]? = some q.SA from s10).symm.trans e1
    obtain ⟨c2, k2, i1, i2, i3, -⟩ := Cond.instantiable_spec wi
    cases e2.symm.trans i1
    obtain ⟨k', q1, q2⟩ := hal.2.2 _ _ i2
    have q3 : k' = k9 := Option.some.inj (q1.symm.trans hk9)
    have q5 : k9.kind = k2.kind := by rw [← q3, q2]
    rw [i3] at q5
    rw [q5] at hkind9
    cases hkind9
def own_EL : List (String × Nat) := [("java/lang/String", 7)]
theorem own_mem : (("java/lang/String", 7) : String × Nat) ∈ own_EL := List.mem_cons_self ..
theorem own_ew {Z : State} {a0 : Array Value} (hw : ∀ d ∈ tables_1, d.before a0 Z = true) : EW Z a0 own_EL := EW.cons (hw _ (List.mem_of_getElem? (i := 30) rfl)) (by decide) EW.nil
theorem own_wS {Z : State} {a0 : Array Value} (hw : ∀ d ∈ tables_1, d.before a0 Z = true) : ∀ a ∈ Bundle.stringAtoms, a.before a0 Z = true := fun d hd => by
  simp only [Bundle.stringAtoms, List.mem_cons, List.not_mem_nil, or_false] at hd
  rcases hd with rfl | rfl | rfl | rfl | rfl | rfl | rfl
  · exact (hw _ (List.mem_of_getElem? (i := 18) rfl))
  · exact (hw _ (List.mem_of_getElem? (i := 17) rfl))
  · exact (hw _ (List.mem_of_getElem? (i := 31) rfl))
  · exact (hw _ (List.mem_of_getElem? (i := 32) rfl))
  · exact (hw _ (List.mem_of_getElem? (i := 33) rfl))
  · exact (hw _ (List.mem_of_getElem? (i := 34) rfl))
  · exact (hw _ (List.mem_of_getElem? (i := 35) rfl))
/-- no String is a ValidationFailure -/
theorem own_notVF {Z : State} {a0 : Array Value} (hw : ∀ d ∈ tables_1, d.before a0 Z = true) : ∃ c t, Z.vm.findClass "java/lang/String" = some c ∧ Z.vm.findClass "com/example/quorum/quorum/ValidationFailure" = some t ∧ Z.vm.assignable c t = false := by
  have w := (hw _ (List.mem_of_getElem? (i := 76) rfl))
  have w0 := (hw _ (List.mem_of_getElem? (i := 77) rfl))
  obtain ⟨t, k', g0, g2, g5, -⟩ := Cond.instantiable_spec (hw _ (List.mem_of_getElem? (i := 50) rfl))
  obtain ⟨c1, r1, m1, -, -, m2, -, k3, m3, m4⟩ := Cond.selects_spec (hw _ (List.mem_of_getElem? (i := 73) rfl))
  have g0' := findClass_of_methodNamed m2
  cases g0.symm.trans g0'
  cases g2.symm.trans m3
  obtain ⟨c, h0⟩ := found_sup w
  obtain ⟨p, k, kp, h1, h2, h3, h4, h5, -, h7⟩ := Cond.superclass_spec h0 w
  obtain ⟨cO, kO, o1, o2, o3, -, -⟩ := Cond.noSuperclass_spec w0
  obtain rfl : cO = p := Option.some.inj (o1.symm.trans h1)
  have ne : c ≠ m1.cls := fun q => by
    obtain ⟨x1, a1, a2⟩ := Vm.findClass_spec h0
    obtain ⟨x2, b1, b2⟩ := Vm.findClass_spec g0
    rw [q] at a1
    cases a1.symm.trans b1
    exact absurd (a2.symm.trans b2) (by decide)
  have neO : cO ≠ m1.cls := fun q => by
    obtain ⟨x1, a1, a2⟩ := Vm.findClass_spec o1
    obtain ⟨x2, b1, b2⟩ := Vm.findClass_spec g0
    rw [q] at a1
    cases a1.symm.trans b1
    exact absurd (a2.symm.trans b2) (by decide)
  have n1 : ∀ fuel, Z.vm.isSubclassAux fuel cO m1.cls = false := fun fuel => by
    cases fuel with
    | zero => rfl
    | succ f => simp [Vm.isSubclassAux, neO, o2, o3]
  have n3 : ∀ fuel, Z.vm.isSubclassAux fuel c m1.cls = false := fun fuel => by
    cases fuel with
    | zero => rfl
    | succ f => simp [Vm.isSubclassAux, ne, h2, h4, n1]
  refine ⟨c, _, h0, g0, ?_⟩
  show Z.vm.assignableAux (255 + 1) c m1.cls = false
  simp [Vm.assignableAux, ne, h2, g2, h5, g5, m4, Vm.isSubclass, n3]
theorem d2_0 : decode method_4_code 0 = .ok (.lload_n 0, 1) := by decide +kernel
theorem d2_1 : decode method_4_code 1 = .ok (.ldc2_w 38, 3) := by decide +kernel
theorem d2_4 : decode method_4_code 4 = .ok (.land, 1) := by decide +kernel
theorem d2_5 : decode method_4_code 5 = .ok (.ldc2_w 38, 3) := by decide +kernel
theorem d2_8 : decode method_4_code 8 = .ok (.lrem, 1) := by decide +kernel
theorem d2_9 : decode method_4_code 9 = .ok (.l2i, 1) := by decide +kernel
theorem d2_10 : decode method_4_code 10 = .ok (.ireturn, 1) := by decide +kernel
theorem pn_rmLen : plainName "com/example/quorum/quorum/ValidationFailureEqualsPinLaw" = true := by first | (simp [plainName, overriddenIn]; done) | decide +kernel
theorem pd_d2 : parseMethodDescriptor "(J)I" = some ⟨[.long], some .int⟩ := by decide +kernel
theorem ef_rmLen (m : MethodId) (x0 : Int64) : entryFrame m #[(.long x0)] 2 = mkF m 0 #[.val (.long x0), .second] [] := by first | (simp [entryFrame, mkF, argsToLocals, Value.category, maxLocals]; done) | rfl
def Q_rmLen (Z : State) (q1 : Int64) (h0 : Heap) (n0 : Nat) (v : Option Value) (h : Heap) (L : List Loc) : Prop := v = some (.int (own_ln q1)) ∧ Fr n0 L ∧ h = h0
set_option maxRecDepth 65536 in
set_option maxHeartbeats 40000000 in
theorem rmLen (l : Launch) (Z : State) (a0 : Array Value) (hw : ∀ d ∈ tables_1, d.before a0 Z = true) (ws : List Jvm.Cond) (q1 : Int64) (h0 : Heap) (n0 : Nat) (Z0 : n0 ≤ h0.size)  :
    MetFree l (⟨"com/example/quorum/quorum/ValidationFailureEqualsPinLaw", "len", "(J)I"⟩ : MethodName) (head1 (Jvm.Cond.code (⟨"com/example/quorum/quorum/ValidationFailureEqualsPinLaw", "len", "(J)I"⟩ : MethodName) method_4_code 2 (some .int) :: ws) ({ frames := 0, cells := 0, slots := 0, locals := 0 } : Room)) (fun as1 U => as1 = #[(.long q1)] ∧ Z.Warmed39 U.vm ∧ U.heap = h0) (fun _ _ _ _ _ => True) (fun _ U o U' => ∃ v L, o = .returned v ∧ Q_rmLen Z q1 h0 n0 v U'.heap L ∧ FrameEnd U o U' L ({ frames := 0, cells := 0, slots := 0, locals := 0 } : Room).cells ({ frames := 0, cells := 0, slots := 0, locals := 0 } : Room).slots) := by
  refine MetFree.of_bodySF (plainFor_of_name pn_rmLen) hisR ?_
  intro p e s m args below meth c s₁ Bd hml0 hP hK
  obtain ⟨rfl, hZ, hh⟩ := hP
  have hx := Bd.exec
  have hby := Bd.bytes
  have hml : c.maxLocals = 2 := hml0
  have hown : s.vm.findClass "com/example/quorum/quorum/ValidationFailureEqualsPinLaw" = some m.cls := findClass_of_methodNamed Bd.named
  have hnm := (name_of_methodNamed Bd.named Bd.method).1
  have X0 : Stand p l e ({ frames := 0, cells := 0, slots := 0, locals := 0 } : Room) s m #[(.long q1)] below meth c s₁ [] 0 0 := Stand.of_body Bd
  have e0 : s₁.heap = h0 := by rw [← hh, Bd.state]; rfl
  have N0 := Fr.nil n0
  show own_Ends p e s below (Q_rmLen Z q1 h0 n0) ({ frames := 0, cells := 0, slots := 0, locals := 0 } : Room).cells ({ frames := 0, cells := 0, slots := 0, locals := 0 } : Room).slots (s₁.setTop (entryFrame m #[(.long q1)] 2))
  refine own_st (U' := (s₁.setTop (mkF m 0 #[.val (.long q1), .second] []))) (fun _ k => castTop (ef_rmLen m q1) k) ?_
  refine own_st (U' := (s₁.setTop (mkF m 1 #[.val (.long q1), .second] [(.long q1)]))) (fun _ k => XS.lloadN X0.here hx rfl (hb hby d2_0) rfl k) ?_
  refine own_st (U' := (s₁.setTop (mkF m 4 #[.val (.long q1), .second] [(.long (3 : Int64)), (.long q1)]))) (fun _ k => Jvm.Stand.ldc2J X0 hx hown (mvT hZ (hw _ (List.mem_of_getElem? (i := 7) rfl))) rfl (hb hby d2_1) k) ?_
  refine own_st (U' := (s₁.setTop (mkF m 5 #[.val (.long q1), .second] [(.long (q1 &&& (3 : Int64)))]))) (fun _ k => XS.land X0.here hx rfl (hb hby d2_4) rfl k) ?_
  refine own_st (U' := (s₁.setTop (mkF m 8 #[.val (.long q1), .second] [(.long (3 : Int64)), (.long (q1 &&& (3 : Int64)))]))) (fun _ k => Jvm.Stand.ldc2J X0 hx hown (mvT hZ (hw _ (List.mem_of_getElem? (i := 7) rfl))) rfl (hb hby d2_5) k) ?_
  refine own_st (U' := (s₁.setTop (mkF m 9 #[.val (.long q1), .second] [(.long ((q1 &&& (3 : Int64)) - ((q1 &&& (3 : Int64)) / (3 : Int64)) * (3 : Int64)))]))) (fun _ k => XT.lrem X0.here hx rfl (hb hby d2_8) rfl (by decide) k) ?_
  refine own_st (U' := (s₁.setTop (mkF m 10 #[.val (.long q1), .second] [(.int (own_ln q1))]))) (fun _ k => XS.l2i X0.here hx rfl (hb hby d2_9) rfl k) ?_
  exact own_retI X0 hx Bd.returns Bd.notSynchronized (hb hby d2_10) (by decide) (by decide) (⟨rfl, N0, e0⟩)
theorem d3_0 : decode method_5_code 0 = .ok (.lload_n 0, 1) := by decide +kernel
theorem d3_1 : decode method_5_code 1 = .ok (.iload_n 2, 1) := by decide +kernel
theorem d3_2 : decode method_5_code 2 = .ok (.lushr, 1) := by decide +kernel
theorem d3_3 : decode method_5_code 3 = .ok (.ldc2_w 40, 3) := by decide +kernel
theorem d3_6 : decode method_5_code 6 = .ok (.land, 1) := by decide +kernel
theorem d3_7 : decode method_5_code 7 = .ok (.l2i, 1) := by decide +kernel
theorem d3_8 : decode method_5_code 8 = .ok (.ireturn, 1) := by decide +kernel
theorem pn_rmCh : plainName "com/example/quorum/quorum/ValidationFailureEqualsPinLaw" = true := by first | (simp [plainName, overriddenIn]; done) | decide +kernel
theorem pd_d3 : parseMethodDescriptor "(JI)I" = some ⟨[.long, .int], some .int⟩ := by decide +kernel
theorem ef_rmCh (m : MethodId) (x0 : Int64) (x1 : Int32) : entryFrame m #[(.long x0), (.int x1)] 3 = mkF m 0 #[.val (.long x0), .second, .val (.int x1)] [] := by first | (simp [entryFrame, mkF, argsToLocals, Value.category, maxLocals]; done) | rfl
def Q_rmCh (Z : State) (q1 : Int64) (p2 : Int32) (h0 : Heap) (n0 : Nat) (v : Option Value) (h : Heap) (L : List Loc) : Prop := v = some (.int (own_ch q1 p2)) ∧ Fr n0 L ∧ h = h0
set_option maxRecDepth 65536 in
set_option maxHeartbeats 40000000 in
theorem rmCh (l : Launch) (Z : State) (a0 : Array Value) (hw : ∀ d ∈ tables_1, d.before a0 Z = true) (ws : List Jvm.Cond) (q1 : Int64) (p2 : Int32) (h0 : Heap) (n0 : Nat) (Z0 : n0 ≤ h0.size)  :
    MetFree l (⟨"com/example/quorum/quorum/ValidationFailureEqualsPinLaw", "ch", "(JI)I"⟩ : MethodName) (head1 (Jvm.Cond.code (⟨"com/example/quorum/quorum/ValidationFailureEqualsPinLaw", "ch", "(JI)I"⟩ : MethodName) method_5_code 3 (some .int) :: ws) ({ frames := 0, cells := 0, slots := 0, locals := 0 } : Room)) (fun as1 U => as1 = #[(.long q1), (.int p2)] ∧ Z.Warmed39 U.vm ∧ U.heap = h0) (fun _ _ _ _ _ => True) (fun _ U o U' => ∃ v L, o = .returned v ∧ Q_rmCh Z q1 p2 h0 n0 v U'.heap L ∧ FrameEnd U o U' L ({ frames := 0, cells := 0, slots := 0, locals := 0 } : Room).cells ({ frames := 0, cells := 0, slots := 0, locals := 0 } : Room).slots) := by
  refine MetFree.of_bodySF (plainFor_of_name pn_rmCh) hisR ?_
  intro p e s m args below meth c s₁ Bd hml0 hP hK
  obtain ⟨rfl, hZ, hh⟩ := hP
  have hx := Bd.exec
  have hby := Bd.bytes
  have hml : c.maxLocals = 3 := hml0
  have hown : s.vm.findClass "com/example/quorum/quorum/ValidationFailureEqualsPinLaw" = some m.cls := findClass_of_methodNamed Bd.named
  have hnm := (name_of_methodNamed Bd.named Bd.method).1
  have X0 : Stand p l e ({ frames := 0, cells := 0, slots := 0, locals := 0 } : Room) s m #[(.long q1), (.int p2)] below meth c s₁ [] 0 0 := Stand.of_body Bd
  have e0 : s₁.heap = h0 := by rw [← hh, Bd.state]; rfl
  have N0 := Fr.nil n0
  show own_Ends p e s below (Q_rmCh Z q1 p2 h0 n0) ({ frames := 0, cells := 0, slots := 0, locals := 0 } : Room).cells ({ frames := 0, cells := 0, slots := 0, locals := 0 } : Room).slots (s₁.setTop (entryFrame m #[(.long q1), (.int p2)] 3))
  refine own_st (U' := (s₁.setTop (mkF m 0 #[.val (.long q1), .second, .val (.int p2)] []))) (fun _ k => castTop (ef_rmCh m q1 p2) k) ?_
  refine own_st (U' := (s₁.setTop (mkF m 1 #[.val (.long q1), .second, .val (.int p2)] [(.long q1)]))) (fun _ k => XS.lloadN X0.here hx rfl (hb hby d3_0) rfl k) ?_
  refine own_st (U' := (s₁.setTop (mkF m 2 #[.val (.long q1), .second, .val (.int p2)] [(.int p2), (.long q1)]))) (fun _ k => XS.iloadN X0.here hx rfl (hb hby d3_1) rfl k) ?_
  refine own_st (U' := (s₁.setTop (mkF m 3 #[.val (.long q1), .second, .val (.int p2)] [(.long ((q1.toUInt64 >>> (p2 &&& 0x3f).toInt64.toUInt64).toInt64))]))) (fun _ k => XS.lushr X0.here hx rfl (hb hby d3_2) rfl k) ?_
  refine own_st (U' := (s₁.setTop (mkF m 6 #[.val (.long q1), .second, .val (.int p2)] [(.long (255 : Int64)), (.long ((q1.toUInt64 >>> (p2 &&& 0x3f).toInt64.toUInt64).toInt64))]))) (fun _ k => Jvm.Stand.ldc2J X0 hx hown (mvT hZ (hw _ (List.mem_of_getElem? (i := 11) rfl))) rfl (hb hby d3_3) k) ?_
  refine own_st (U' := (s₁.setTop (mkF m 7 #[.val (.long q1), .second, .val (.int p2)] [(.long (((q1.toUInt64 >>> (p2 &&& 0x3f).toInt64.toUInt64).toInt64) &&& (255 : Int64)))]))) (fun _ k => XS.land X0.here hx rfl (hb hby d3_6) rfl k) ?_
  refine own_st (U' := (s₁.setTop (mkF m 8 #[.val (.long q1), .second, .val (.int p2)] [(.int (own_ch q1 p2))]))) (fun _ k => XS.l2i X0.here hx rfl (hb hby d3_7) rfl k) ?_
  exact own_retI X0 hx Bd.returns Bd.notSynchronized (hb hby d3_8) (by decide) (by decide) (⟨rfl, N0, e0⟩)
theorem d1_0 : decode method_3_code 0 = .ok (.lload_n 0, 1) := by decide +kernel
theorem d1_1 : decode method_3_code 1 = .ok (.invokestatic 30, 3) := by decide +kernel
theorem d1_4 : decode method_3_code 4 = .ok (.istore_n 2, 1) := by decide +kernel
theorem d1_5 : decode method_3_code 5 = .ok (.lload_n 0, 1) := by decide +kernel
theorem d1_6 : decode method_3_code 6 = .ok (.iconst 2, 1) := by decide +kernel
theorem d1_7 : decode method_3_code 7 = .ok (.invokestatic 34, 3) := by decide +kernel
theorem d1_10 : decode method_3_code 10 = .ok (.istore_n 3, 1) := by decide +kernel
theorem d1_11 : decode method_3_code 11 = .ok (.lload_n 0, 1) := by decide +kernel
theorem d1_12 : decode method_3_code 12 = .ok (.bipush 10, 2) := by decide +kernel
theorem d1_14 : decode method_3_code 14 = .ok (.invokestatic 34, 3) := by decide +kernel
theorem d1_17 : decode method_3_code 17 = .ok (.istore 4, 2) := by decide +kernel
theorem d1_19 : decode method_3_code 19 = .ok (.lload_n 0, 1) := by decide +kernel
theorem d1_20 : decode method_3_code 20 = .ok (.bipush 18, 2) := by decide +kernel
theorem d1_22 : decode method_3_code 22 = .ok (.lushr, 1) := by decide +kernel
theorem d1_23 : decode method_3_code 23 = .ok (.lconst 1, 1) := by decide +kernel
theorem d1_24 : decode method_3_code 24 = .ok (.land, 1) := by decide +kernel
theorem d1_25 : decode method_3_code 25 = .ok (.lconst 0, 1) := by decide +kernel
theorem d1_26 : decode method_3_code 26 = .ok (.lcmp, 1) := by decide +kernel
theorem d1_27 : decode method_3_code 27 = .ok (.ifCond .eq 7, 3) := by decide +kernel
theorem d1_30 : decode method_3_code 30 = .ok (.iconst 1, 1) := by decide +kernel
theorem d1_31 : decode method_3_code 31 = .ok (.goto 4, 3) := by decide +kernel
theorem d1_34 : decode method_3_code 34 = .ok (.iconst 0, 1) := by decide +kernel
theorem d1_35 : decode method_3_code 35 = .ok (.istore 5, 2) := by decide +kernel
theorem d1_37 : decode method_3_code 37 = .ok (.iload 5, 2) := by decide +kernel
theorem d1_39 : decode method_3_code 39 = .ok (.ifCond .eq 7, 3) := by decide +kernel
theorem d1_42 : decode method_3_code 42 = .ok (.iload_n 2, 1) := by decide +kernel
theorem d1_43 : decode method_3_code 43 = .ok (.goto 10, 3) := by decide +kernel
theorem d1_46 : decode method_3_code 46 = .ok (.lload_n 0, 1) := by decide +kernel
theorem d1_47 : decode method_3_code 47 = .ok (.bipush 19, 2) := by decide +kernel
theorem d1_49 : decode method_3_code 49 = .ok (.lushr, 1) := by decide +kernel
theorem d1_50 : decode method_3_code 50 = .ok (.invokestatic 30, 3) := by decide +kernel
theorem d1_53 : decode method_3_code 53 = .ok (.istore 6, 2) := by decide +kernel
theorem d1_55 : decode method_3_code 55 = .ok (.iload 5, 2) := by decide +kernel
theorem d1_57 : decode method_3_code 57 = .ok (.ifCond .eq 7, 3) := by decide +kernel
theorem d1_60 : decode method_3_code 60 = .ok (.iload_n 3, 1) := by decide +kernel
theorem d1_61 : decode method_3_code 61 = .ok (.goto 11, 3) := by decide +kernel
theorem d1_64 : decode method_3_code 64 = .ok (.iload_n 3, 1) := by decide +kernel
theorem d1_65 : decode method_3_code 65 = .ok (.lload_n 0, 1) := by decide +kernel
theorem d1_66 : decode method_3_code 66 = .ok (.bipush 21, 2) := by decide +kernel
theorem d1_68 : decode method_3_code 68 = .ok (.invokestatic 34, 3) := by decide +kernel
theorem d1_71 : decode method_3_code 71 = .ok (.ixor, 1) := by decide +kernel
theorem d1_72 : decode method_3_code 72 = .ok (.istore 7, 2) := by decide +kernel
theorem d1_74 : decode method_3_code 74 = .ok (.iload 5, 2) := by decide +kernel
theorem d1_76 : decode method_3_code 76 = .ok (.ifCond .eq 8, 3) := by decide +kernel
theorem d1_79 : decode method_3_code 79 = .ok (.iload 4, 2) := by decide +kernel
theorem d1_81 : decode method_3_code 81 = .ok (.goto 12, 3) := by decide +kernel
theorem d1_84 : decode method_3_code 84 = .ok (.iload 4, 2) := by decide +kernel
theorem d1_86 : decode method_3_code 86 = .ok (.lload_n 0, 1) := by decide +kernel
theorem d1_87 : decode method_3_code 87 = .ok (.bipush 29, 2) := by decide +kernel
theorem d1_89 : decode method_3_code 89 = .ok (.invokestatic 34, 3) := by decide +kernel
theorem d1_92 : decode method_3_code 92 = .ok (.ixor, 1) := by decide +kernel
theorem d1_93 : decode method_3_code 93 = .ok (.istore 8, 2) := by decide +kernel
theorem d1_95 : decode method_3_code 95 = .ok (.bipush 6, 2) := by decide +kernel
theorem d1_97 : decode method_3_code 97 = .ok (.newarray .int, 2) := by decide +kernel
theorem d1_99 : decode method_3_code 99 = .ok (.dup, 1) := by decide +kernel
theorem d1_100 : decode method_3_code 100 = .ok (.iconst 0, 1) := by decide +kernel
theorem d1_101 : decode method_3_code 101 = .ok (.iload_n 2, 1) := by decide +kernel
theorem d1_102 : decode method_3_code 102 = .ok (.iastore, 1) := by decide +kernel
theorem d1_103 : decode method_3_code 103 = .ok (.dup, 1) := by decide +kernel
theorem d1_104 : decode method_3_code 104 = .ok (.iconst 1, 1) := by decide +kernel
theorem d1_105 : decode method_3_code 105 = .ok (.iload_n 3, 1) := by decide +kernel
theorem d1_106 : decode method_3_code 106 = .ok (.iastore, 1) := by decide +kernel
theorem d1_107 : decode method_3_code 107 = .ok (.dup, 1) := by decide +kernel
theorem d1_108 : decode method_3_code 108 = .ok (.iconst 2, 1) := by decide +kernel
theorem d1_109 : decode method_3_code 109 = .ok (.iload 4, 2) := by decide +kernel
theorem d1_111 : decode method_3_code 111 = .ok (.iastore, 1) := by decide +kernel
theorem d1_112 : decode method_3_code 112 = .ok (.dup, 1) := by decide +kernel
theorem d1_113 : decode method_3_code 113 = .ok (.iconst 3, 1) := by decide +kernel
theorem d1_114 : decode method_3_code 114 = .ok (.iload 6, 2) := by decide +kernel
theorem d1_116 : decode method_3_code 116 = .ok (.iastore, 1) := by decide +kernel
theorem d1_117 : decode method_3_code 117 = .ok (.dup, 1) := by decide +kernel
theorem d1_118 : decode method_3_code 118 = .ok (.iconst 4, 1) := by decide +kernel
theorem d1_119 : decode method_3_code 119 = .ok (.iload 7, 2) := by decide +kernel
theorem d1_121 : decode method_3_code 121 = .ok (.iastore, 1) := by decide +kernel
theorem d1_122 : decode method_3_code 122 = .ok (.dup, 1) := by decide +kernel
theorem d1_123 : decode method_3_code 123 = .ok (.iconst 5, 1) := by decide +kernel
theorem d1_124 : decode method_3_code 124 = .ok (.iload 8, 2) := by decide +kernel
theorem d1_126 : decode method_3_code 126 = .ok (.iastore, 1) := by decide +kernel
theorem d1_127 : decode method_3_code 127 = .ok (.areturn, 1) := by decide +kernel
theorem pn_rmField : plainName "com/example/quorum/quorum/ValidationFailureEqualsPinLaw" = true := by first | (simp [plainName, overriddenIn]; done) | decide +kernel
theorem pd_d1 : parseMethodDescriptor "(J)[I" = some ⟨[.long], some (.array .int)⟩ := by decide +kernel
theorem ef_rmField (m : MethodId) (x0 : Int64) : entryFrame m #[(.long x0)] 9 = mkF m 0 #[.val (.long x0), .second, .unset, .unset, .unset, .unset, .unset, .unset, .unset] [] := by first | (simp [entryFrame, mkF, argsToLocals, Value.category, maxLocals]; done) | rfl
def Q_rmField (Z : State) (q1 : Int64) (h0 : Heap) (n0 : Nat) (v : Option Value) (h : Heap) (L : List Loc) : Prop := ∃ (r : Addr) (l1 a0' a1 l2 b0 b1 : Int32), v = some (.ref r) ∧ Fr n0 L ∧ Keep h0 h [] ∧ h0.size ≤ r ∧ own_F l1 a0' a1 l2 b0 b1 ∧ own_A Z h r .int 6 (own_L [l1, a0', a1, l2, b0, b1])
set_option maxRecDepth 65536 in
set_option maxHeartbeats 40000000 in
theorem rmField (l : Launch) (Z : State) (a0 : Array Value) (hw : ∀ d ∈ tables_1, d.before a0 Z = true) (ws : List Jvm.Cond) (q1 : Int64) (h0 : Heap) (n0 : Nat) (Z0 : n0 ≤ h0.size)  :
    MetFree l (⟨"com/example/quorum/quorum/ValidationFailureEqualsPinLaw", "field", "(J)[I"⟩ : MethodName) (head1 (Jvm.Cond.code (⟨"com/example/quorum/quorum/ValidationFailureEqualsPinLaw", "field", "(J)[I"⟩ : MethodName) method_3_code 9 (some (.array .int)) :: ws) ({ frames := 1, cells := 1, slots := 6, locals := 15 } : Room)) (fun as1 U => as1 = #[(.long q1)] ∧ Z.Warmed39 U.vm ∧ U.heap = h0) (fun _ _ _ _ _ => True) (fun _ U o U' => ∃ v L, o = .returned v ∧ Q_rmField Z q1 h0 n0 v U'.heap L ∧ FrameEnd U o U' L ({ frames := 1, cells := 1, slots := 6, locals := 15 } : Room).cells ({ frames := 1, cells := 1, slots := 6, locals := 15 } : Room).slots) := by
  refine MetFree.of_bodySF (plainFor_of_name pn_rmField) hisR ?_
  intro p e s m args below meth c s₁ Bd hml0 hP hK
  obtain ⟨rfl, hZ, hh⟩ := hP
  have hx := Bd.exec
  have hby := Bd.bytes
  have hml : c.maxLocals = 9 := hml0
  have hown : s.vm.findClass "com/example/quorum/quorum/ValidationFailureEqualsPinLaw" = some m.cls := findClass_of_methodNamed Bd.named
  have hnm := (name_of_methodNamed Bd.named Bd.method).1
  have X0 : Stand p l e ({ frames := 1, cells := 1, slots := 6, locals := 15 } : Room) s m #[(.long q1)] below meth c s₁ [] 0 0 := Stand.of_body Bd
  have e0 : s₁.heap = h0 := by rw [← hh, Bd.state]; rfl
  have N0 := Fr.nil n0
  show own_Ends p e s below (Q_rmField Z q1 h0 n0) ({ frames := 1, cells := 1, slots := 6, locals := 15 } : Room).cells ({ frames := 1, cells := 1, slots := 6, locals := 15 } : Room).slots (s₁.setTop (entryFrame m #[(.long q1)] 9))
  refine own_st (U' := (s₁.setTop (mkF m 0 #[.val (.long q1), .second, .unset, .unset, .unset, .unset, .unset, .unset, .unset] []))) (fun _ k => castTop (ef_rmField m q1) k) ?_
  refine own_st (U' := (s₁.setTop (mkF m 1 #[.val (.long q1), .second, .unset, .unset, .unset, .unset, .unset, .unset, .unset] [(.long q1)]))) (fun _ k => XS.lloadN X0.here hx rfl (hb hby d1_0) rfl k) ?_
  obtain ⟨_, _, ⟨T1, L1, k1, n1⟩, -, X1, ⟨Lc1, hQ1, l1, y1, z1⟩, st1⟩ := Jvm.LawKit.callS X0 hx (y := (⟨"com/example/quorum/quorum/ValidationFailureEqualsPinLaw", "len", "(J)I"⟩ : MethodName)) hown (mvT hZ (hw _ (List.mem_of_getElem? (i := 4) rfl))) (mvT hZ (hw _ (List.mem_of_getElem? (i := 5) rfl))) (mvT hZ (hw _ (List.mem_of_getElem? (i := 2) rfl))) (mvT hZ (hw _ (List.mem_of_getElem? (i := 6) rfl))) (by decide) (backOf (W := 0) (rmLen l Z a0 hw [] q1 h0 n0 Z0) hZ (hw _ (List.mem_of_getElem? (i := 6) rfl)) (hw _ (List.mem_of_getElem? (i := 2) rfl)) (by decide) (by decide)) (g := (mkF m 1 #[.val (.long q1), .second, .unset, .unset, .unset, .unset, .unset, .unset, .unset] [(.long q1)])) rfl (by rw [hml]; rfl) (argsL := [(.long q1)]) (rest := []) (lenOf (pd_d2) rfl) rfl (by show 2 * 0 + _ ≤ _; exact Nat.le_of_eq rfl) (hb hby d1_1) (fun _ _ => ⟨rfl, e0, (Nat.le_of_ble_eq_true rfl), (Nat.le_of_ble_eq_true rfl)⟩)
  dsimp only [Pt.U, Pt.locs, Pt.cells, Pt.slots] at X1 l1 y1 z1 st1 hQ1
  subst l1 y1 z1
  obtain ⟨rfl, Nq1, eq1⟩ := hQ1
  have N1 := Fr.app N0 Nq1
  refine own_st (U' := (T1.setTop (mkF m 4 #[.val (.long q1), .second, .unset, .unset, .unset, .unset, .unset, .unset, .unset] [(.int (own_ln q1))]))) st1 ?_
  refine own_st (U' := (T1.setTop (mkF m 5 #[.val (.long q1), .second, .val (.int (own_ln q1)), .unset, .unset, .unset, .unset, .unset, .unset] []))) (fun _ k => XS.istoreN X1.here hx rfl (hb hby d1_4) rfl (l' := #[.val (.long q1), .second, .val (.int (own_ln q1)), .unset, .unset, .unset, .unset, .unset, .unset]) rfl k) ?_
  refine own_st (U' := (T1.setTop (mkF m 6 #[.val (.long q1), .second, .val (.int (own_ln q1)), .unset, .unset, .unset, .unset, .unset, .unset] [(.long q1)]))) (fun _ k => XS.lloadN X1.here hx rfl (hb hby d1_5) rfl k) ?_
  refine own_st (U' := (T1.setTop (mkF m 7 #[.val (.long q1), .second, .val (.int (own_ln q1)), .unset, .unset, .unset, .unset, .unset, .unset] [(.int (2 : Int32)), (.long q1)]))) (fun _ k => XS.iconst X1.here hx rfl (hb hby d1_6) k) ?_
  obtain ⟨_, _, ⟨T2, L2, k2, n2⟩, -, X2, ⟨Lc2, hQ2, l2, y2, z2⟩, st2⟩ := Jvm.LawKit.callS X1 hx (y := (⟨"com/example/quorum/quorum/ValidationFailureEqualsPinLaw", "ch", "(JI)I"⟩ : MethodName)) hown (mvT hZ (hw _ (List.mem_of_getElem? (i := 8) rfl))) (mvT hZ (hw _ (List.mem_of_getElem? (i := 9) rfl))) (mvT hZ (hw _ (List.mem_of_getElem? (i := 2) rfl))) (mvT hZ (hw _ (List.mem_of_getElem? (i := 10) rfl))) (by decide) (backOf (W := 0) (rmCh l Z a0 hw [] q1 (2 : Int32) h0 n0 Z0) hZ (hw _ (List.mem_of_getElem? (i := 10) rfl)) (hw _ (List.mem_of_getElem? (i := 2) rfl)) (by decide) (by decide)) (g := (mkF m 7 #[.val (.long q1), .second, .val (.int (own_ln q1)), .unset, .unset, .unset, .unset, .unset, .unset] [(.int (2 : Int32)), (.long q1)])) rfl (by rw [hml]; rfl) (argsL := [(.long q1), (.int (2 : Int32))]) (rest := []) (lenOf (pd_d3) rfl) rfl (by show 2 * 0 + _ ≤ _; exact Nat.le_of_eq rfl) (hb hby d1_7) (fun _ _ => ⟨rfl, eq1, (Nat.le_of_ble_eq_true rfl), (Nat.le_of_ble_eq_true rfl)⟩)
  dsimp only [Pt.U, Pt.locs, Pt.cells, Pt.slots] at X2 l2 y2 z2 st2 hQ2
  subst l2 y2 z2
  obtain ⟨rfl, Nq2, eq2⟩ := hQ2
  have N2 := Fr.app N1 Nq2
  refine own_st (U' := (T2.setTop (mkF m 10 #[.val (.long q1), .second, .val (.int (own_ln q1)), .unset, .unset, .unset, .unset, .unset, .unset] [(.int (own_ch q1 (2 : Int32)))]))) st2 ?_
  refine own_st (U' := (T2.setTop (mkF m 11 #[.val (.long q1), .second, .val (.int (own_ln q1)), .val (.int (own_ch q1 (2 : Int32))), .unset, .unset, .unset, .unset, .unset] []))) (fun _ k => XS.istoreN X2.here hx rfl (hb hby d1_10) rfl (l' := #[.val (.long q1), .second, .val (.int (own_ln q1)), .val (.int (own_ch q1 (2 : Int32))), .unset, .unset, .unset, .unset, .unset]) rfl k) ?_
  refine own_st (U' := (T2.setTop (mkF m 12 #[.val (.long q1), .second, .val (.int (own_ln q1)), .val (.int (own_ch q1 (2 : Int32))), .unset, .unset, .unset, .unset, .unset] [(.long q1)]))) (fun _ k => XS.lloadN X2.here hx rfl (hb hby d1_11) rfl k) ?_
  refine own_st (U' := (T2.setTop (mkF m 14 #[.val (.long q1), .second, .val (.int (own_ln q1)), .val (.int (own_ch q1 (2 : Int32))), .unset, .unset, .unset, .unset, .unset] [(.int (10 : Int32)), (.long q1)]))) (fun _ k => XS.bipush X2.here hx rfl (hb hby d1_12) k) ?_
  obtain ⟨_, _, ⟨T3, L3, k3, n3⟩, -, X3, ⟨Lc3, hQ3, l3, y3, z3⟩, st3⟩ := Jvm.LawKit.callS X2 hx (y := (⟨"com/example/quorum/quorum/ValidationFailureEqualsPinLaw", "ch", "(JI)I"⟩ : MethodName)) hown (mvT hZ (hw _ (List.mem_of_getElem? (i := 8) rfl))) (mvT hZ (hw _ (List.mem_of_getElem? (i := 9) rfl))) (mvT hZ (hw _ (List.mem_of_getElem? (i := 2) rfl))) (mvT hZ (hw _ (List.mem_of_getElem? (i := 10) rfl))) (by decide) (backOf (W := 0) (rmCh l Z a0 hw [] q1 (10 : Int32) h0 n0 Z0) hZ (hw _ (List.mem_of_getElem? (i := 10) rfl)) (hw _ (List.mem_of_getElem? (i := 2) rfl)) (by decide) (by decide)) (g := (mkF m 14 #[.val (.long q1), .second, .val (.int (own_ln q1)), .val (.int (own_ch q1 (2 : Int32))), .unset, .unset, .unset, .unset, .unset] [(.int (10 : Int32)), (.long q1)])) rfl (by rw [hml]; rfl) (argsL := [(.long q1), (.int (10 : Int32))]) (rest := []) (lenOf (pd_d3) rfl) rfl (by show 2 * 0 + _ ≤ _; exact Nat.le_of_eq rfl) (hb hby d1_14) (fun _ _ => ⟨rfl, eq2, (Nat.le_of_ble_eq_true rfl), (Nat.le_of_ble_eq_true rfl)⟩)
  dsimp only [Pt.U, Pt.locs, Pt.cells, Pt.slots] at X3 l3 y3 z3 st3 hQ3
  subst l3 y3 z3
  obtain ⟨rfl, Nq3, eq3⟩ := hQ3
  have N3 := Fr.app N2 Nq3
  refine own_st (U' := (T3.setTop (mkF m 17 #[.val (.long q1), .second, .val (.int (own_ln q1)), .val (.int (own_ch q1 (2 : Int32))), .unset, .unset, .unset, .unset, .unset] [(.int (own_ch q1 (10 : Int32)))]))) st3 ?_
  refine own_st (U' := (T3.setTop (mkF m 19 #[.val (.long q1), .second, .val (.int (own_ln q1)), .val (.int (own_ch q1 (2 : Int32))), .val (.int (own_ch q1 (10 : Int32))), .unset, .unset, .unset, .unset] []))) (fun _ k => XS.istore X3.here hx rfl (hb hby d1_17) rfl (l' := #[.val (.long q1), .second, .val (.int (own_ln q1)), .val (.int (own_ch q1 (2 : Int32))), .val (.int (own_ch q1 (10 : Int32))), .unset, .unset, .unset, .unset]) rfl k) ?_
  refine own_st (U' := (T3.setTop (mkF m 20 #[.val (.long q1), .second, .val (.int (own_ln q1)), .val (.int (own_ch q1 (2 : Int32))), .val (.int (own_ch q1 (10 : Int32))), .unset, .unset, .unset, .unset] [(.long q1)]))) (fun _ k => XS.lloadN X3.here hx rfl (hb hby d1_19) rfl k) ?_
  refine own_st (U' := (T3.setTop (mkF m 22 #[.val (.long q1), .second, .val (.int (own_ln q1)), .val (.int (own_ch q1 (2 : Int32))), .val (.int (own_ch q1 (10 : Int32))), .unset, .unset, .unset, .unset] [(.int (18 : Int32)), (.long q1)]))) (fun _ k => XS.bipush X3.here hx rfl (hb hby d1_20) k) ?_
  refine own_st (U' := (T3.setTop (mkF m 23 #[.val (.long q1), .second, .val (.int (own_ln q1)), .val (.int (own_ch q1 (2 : Int32))), .val (.int (own_ch q1 (10 : Int32))), .unset, .unset, .unset, .unset] [(.long ((q1.toUInt64 >>> ((18 : Int32) &&& 0x3f).toInt64.toUInt64).toInt64))]))) (fun _ k => XS.lushr X3.here hx rfl (hb hby d1_22) rfl k) ?_
  refine own_st (U' := (T3.setTop (mkF m 24 #[.val (.long q1), .second, .val (.int (own_ln q1)), .val (.int (own_ch q1 (2 : Int32))), .val (.int (own_ch q1 (10 : Int32))), .unset, .unset, .unset, .unset] [(.long (1 : Int64)), (.long ((q1.toUInt64 >>> ((18 : Int32) &&& 0x3f).toInt64.toUInt64).toInt64))]))) (fun _ k => XS.lconst X3.here hx rfl (hb hby d1_23) k) ?_
  refine own_st (U' := (T3.setTop (mkF m 25 #[.val (.long q1), .second, .val (.int (own_ln q1)), .val (.int (own_ch q1 (2 : Int32))), .val (.int (own_ch q1 (10 : Int32))), .unset, .unset, .unset, .unset] [(.long (((q1.toUInt64 >>> ((18 : Int32) &&& 0x3f).toInt64.toUInt64).toInt64) &&& (1 : Int64)))]))) (fun _ k => XS.land X3.here hx rfl (hb hby d1_24) rfl k) ?_
  refine own_st (U' := (T3.setTop (mkF m 26 #[.val (.long q1), .second, .val (.int (own_ln q1)), .val (.int (own_ch q1 (2 : Int32))), .val (.int (own_ch q1 (10 : Int32))), .unset, .unset, .unset, .unset] [(.long (0 : Int64)), (.long (((q1.toUInt64 >>> ((18 : Int32) &&& 0x3f).toInt64.toUInt64).toInt64) &&& (1 : Int64)))]))) (fun _ k => XS.lconst X3.here hx rfl (hb hby d1_25) k) ?_
  refine own_st (U' := (T3.setTop (mkF m 27 #[.val (.long q1), .second, .val (.int (own_ln q1)), .val (.int (own_ch q1 (2 : Int32))), .val (.int (own_ch q1 (10 : Int32))), .unset, .unset, .unset, .unset] [(.int (lcmpW (((q1.toUInt64 >>> ((18 : Int32) &&& 0x3f).toInt64.toUInt64).toInt64) &&& (1 : Int64)) (0 : Int64)))]))) (fun _ k => XS.lcmp X3.here hx rfl (hb hby d1_26) rfl k) ?_
  have tail : ∀ f : Int32, own_Ends p e s below (Q_rmField Z q1 h0 n0) ({ frames := 1, cells := 1, slots := 6, locals := 15 } : Room).cells ({ frames := 1, cells := 1, slots := 6, locals := 15 } : Room).slots (T3.setTop (mkF m 35 #[.val (.long q1), .second, .val (.int (own_ln q1)), .val (.int (own_ch q1 (2 : Int32))), .val (.int (own_ch q1 (10 : Int32))), .unset, .unset, .unset, .unset] [(.int f)])) := by
    intro f
    refine own_st (U' := (T3.setTop (mkF m 37 #[.val (.long q1), .second, .val (.int (own_ln q1)), .val (.int (own_ch q1 (2 : Int32))), .val (.int (own_ch q1 (10 : Int32))), .val (.int f), .unset, .unset, .unset] []))) (fun _ k => XS.istore X3.here hx rfl (hb hby d1_35) rfl (l' := #[.val (.long q1), .second, .val (.int (own_ln q1)), .val (.int (own_ch q1 (2 : Int32))), .val (.int (own_ch q1 (10 : Int32))), .val (.int f), .unset, .unset, .unset]) rfl k) ?_
    refine own_st (U' := (T3.setTop (mkF m 39 #[.val (.long q1), .second, .val (.int (own_ln q1)), .val (.int (own_ch q1 (2 : Int32))), .val (.int (own_ch q1 (10 : Int32))), .val (.int f), .unset, .unset, .unset] [(.int f)]))) (fun _ k => XS.iload X3.here hx rfl (hb hby d1_37) rfl k) ?_
    by_cases c0 : f = (0 : Int32)
    · skip
      refine own_st (U' := (T3.setTop (mkF m 46 #[.val (.long q1), .second, .val (.int (own_ln q1)), .val (.int (own_ch q1 (2 : Int32))), .val (.int (own_ch q1 (10 : Int32))), .val (.int f), .unset, .unset, .unset] []))) (fun _ k => XS.ifYes X3.here hx rfl (pc0 := 39) (pc' := 46) rfl (hb hby d1_39) rfl ((if0 _ _).trans (teq c0).1) (by decide) (by decide) k) ?_
      refine own_st (U' := (T3.setTop (mkF m 47 #[.val (.long q1), .second, .val (.int (own_ln q1)), .val (.int (own_ch q1 (2 : Int32))), .val (.int (own_ch q1 (10 : Int32))), .val (.int f), .unset, .unset, .unset] [(.long q1)]))) (fun _ k => XS.lloadN X3.here hx rfl (hb hby d1_46) rfl k) ?_
      refine own_st (U' := (T3.setTop (mkF m 49 #[.val (.long q1), .second, .val (.int (own_ln q1)), .val (.int (own_ch q1 (2 : Int32))), .val (.int (own_ch q1 (10 : Int32))), .val (.int f), .unset, .unset, .unset] [(.int (19 : Int32)), (.long q1)]))) (fun _ k => XS.bipush X3.here hx rfl (hb hby d1_47) k) ?_
      refine own_st (U' := (T3.setTop (mkF m 50 #[.val (.long q1), .second, .val (.int (own_ln q1)), .val (.int (own_ch q1 (2 : Int32))), .val (.int (own_ch q1 (10 : Int32))), .val (.int f), .unset, .unset, .unset] [(.long ((q1.toUInt64 >>> ((19 : Int32) &&& 0x3f).toInt64.toUInt64).toInt64))]))) (fun _ k => XS.lushr X3.here hx rfl (hb hby d1_49) rfl k) ?_
      obtain ⟨_, _, ⟨T4, L4, k4, n4⟩, -, X4, ⟨Lc4, hQ4, l4, y4, z4⟩, st4⟩ := Jvm.LawKit.callS X3 hx (y := (⟨"com/example/quorum/quorum/ValidationFailureEqualsPinLaw", "len", "(J)I"⟩ : MethodName)) hown (mvT hZ (hw _ (List.mem_of_getElem? (i := 4) rfl))) (mvT hZ (hw _ (List.mem_of_getElem? (i := 5) rfl))) (mvT hZ (hw _ (List.mem_of_getElem? (i := 2) rfl))) (mvT hZ (hw _ (List.mem_of_getElem? (i := 6) rfl))) (by decide) (backOf (W := 0) (rmLen l Z a0 hw [] ((q1.toUInt64 >>> ((19 : Int32) &&& 0x3f).toInt64.toUInt64).toInt64) h0 n0 Z0) hZ (hw _ (List.mem_of_getElem? (i := 6) rfl)) (hw _ (List.mem_of_getElem? (i := 2) rfl)) (by decide) (by decide)) (g := (mkF m 50 #[.val (.long q1), .second, .val (.int (own_ln q1)), .val (.int (own_ch q1 (2 : Int32))), .val (.int (own_ch q1 (10 : Int32))), .val (.int f), .unset, .unset, .unset] [(.long ((q1.toUInt64 >>> ((19 : Int32) &&& 0x3f).toInt64.toUInt64).toInt64))])) rfl (by rw [hml]; rfl) (argsL := [(.long ((q1.toUInt64 >>> ((19 : Int32) &&& 0x3f).toInt64.toUInt64).toInt64))]) (rest := []) (lenOf (pd_d2) rfl) rfl (by show 2 * 0 + _ ≤ _; exact Nat.le_of_eq rfl) (hb hby d1_50) (fun _ _ => ⟨rfl, eq3, (Nat.le_of_ble_eq_true rfl), (Nat.le_of_ble_eq_true rfl)⟩)
      dsimp only [Pt.U, Pt.locs, Pt.cells, Pt.slots] at X4 l4 y4 z4 st4 hQ4
      subst l4 y4 z4
      obtain ⟨rfl, Nq4, eq4⟩ := hQ4
      have N4 := Fr.app N3 Nq4
      refine own_st (U' := (T4.setTop (mkF m 53 #[.val (.long q1), .second, .val (.int (own_ln q1)), .val (.int (own_ch q1 (2 : Int32))), .val (.int (own_ch q1 (10 : Int32))), .val (.int f), .unset, .unset, .unset] [(.int (own_ln ((q1.toUInt64 >>> ((19 : Int32) &&& 0x3f).toInt64.toUInt64).toInt64)))]))) st4 ?_
      refine own_st (U' := (T4.setTop (mkF m 55 #[.val (.long q1), .second, .val (.int (own_ln q1)), .val (.int (own_ch q1 (2 : Int32))), .val (.int (own_ch q1 (10 : Int32))), .val (.int f), .val (.int (own_ln ((q1.toUInt64 >>> ((19 : Int32) &&& 0x3f).toInt64.toUInt64).toInt64))), .unset, .unset] []))) (fun _ k => XS.istore X4.here hx rfl (hb hby d1_53) rfl (l' := #[.val (.long q1), .second, .val (.int (own_ln q1)), .val (.int (own_ch q1 (2 : Int32))), .val (.int (own_ch q1 (10 : Int32))), .val (.int f), .val (.int (own_ln ((q1.toUInt64 >>> ((19 : Int32) &&& 0x3f).toInt64.toUInt64).toInt64))), .unset, .unset]) rfl k) ?_
      refine own_st (U' := (T4.setTop (mkF m 57 #[.val (.long q1), .second, .val (.int (own_ln q1)), .val (.int (own_ch q1 (2 : Int32))), .val (.int (own_ch q1 (10 : Int32))), .val (.int f), .val (.int (own_ln ((q1.toUInt64 >>> ((19 : Int32) &&& 0x3f).toInt64.toUInt64).toInt64))), .unset, .unset] [(.int f)]))) (fun _ k => XS.iload X4.here hx rfl (hb hby d1_55) rfl k) ?_
      refine own_st (U' := (T4.setTop (mkF m 64 #[.val (.long q1), .second, .val (.int (own_ln q1)), .val (.int (own_ch q1 (2 : Int32))), .val (.int (own_ch q1 (10 : Int32))), .val (.int f), .val (.int (own_ln ((q1.toUInt64 >>> ((19 : Int32) &&& 0x3f).toInt64.toUInt64).toInt64))), .unset, .unset] []))) (fun _ k => XS.ifYes X4.here hx rfl (pc0 := 57) (pc' := 64) rfl (hb hby d1_57) rfl ((if0 _ _).trans (teq c0).1) (by decide) (by decide) k) ?_
      refine own_st (U' := (T4.setTop (mkF m 65 #[.val (.long q1), .second, .val (.int (own_ln q1)), .val (.int (own_ch q1 (2 : Int32))), .val (.int (own_ch q1 (10 : Int32))), .val (.int f), .val (.int (own_ln ((q1.toUInt64 >>> ((19 : Int32) &&& 0x3f).toInt64.toUInt64).toInt64))), .unset, .unset] [(.int (own_ch q1 (2 : Int32)))]))) (fun _ k => XS.iloadN X4.here hx rfl (hb hby d1_64) rfl k) ?_
      refine own_st (U' := (T4.setTop (mkF m 66 #[.val (.long q1), .second, .val (.int (own_ln q1)), .val (.int (own_ch q1 (2 : Int32))), .val (.int (own_ch q1 (10 : Int32))), .val (.int f), .val (.int (own_ln ((q1.toUInt64 >>> ((19 : Int32) &&& 0x3f).toInt64.toUInt64).toInt64))), .unset, .unset] [(.long q1), (.int (own_ch q1 (2 : Int32)))]))) (fun _ k => XS.lloadN X4.here hx rfl (hb hby d1_65) rfl k) ?_
      refine own_st (U' := (T4.setTop (mkF m 68 #[.val (.long q1), .second, .val (.int (own_ln q1)), .val (.int (own_ch q1 (2 : Int32))), .val (.int (own_ch q1 (10 : Int32))), .val (.int f), .val (.int (own_ln ((q1.toUInt64 >>> ((19 : Int32) &&& 0x3f).toInt64.toUInt64).toInt64))), .unset, .unset] [(.int (21 : Int32)), (.long q1), (.int (own_ch q1 (2 : Int32)))]))) (fun _ k => XS.bipush X4.here hx rfl (hb hby d1_66) k) ?_
      obtain ⟨_, _, ⟨T5, L5, k5, n5⟩, -, X5, ⟨Lc5, hQ5, l5, y5, z5⟩, st5⟩ := Jvm.LawKit.callS X4 hx (y := (⟨"com/example/quorum/quorum/ValidationFailureEqualsPinLaw", "ch", "(JI)I"⟩ : MethodName)) hown (mvT hZ (hw _ (List.mem_of_getElem? (i := 8) rfl))) (mvT hZ (hw _ (List.mem_of_getElem? (i := 9) rfl))) (mvT hZ (hw _ (List.mem_of_getElem? (i := 2) rfl))) (mvT hZ (hw _ (List.mem_of_getElem? (i := 10) rfl))) (by decide) (backOf (W := 1) (rmCh l Z a0 hw [] q1 (21 : Int32) h0 n0 Z0) hZ (hw _ (List.mem_of_getElem? (i := 10) rfl)) (hw _ (List.mem_of_getElem? (i := 2) rfl)) (by decide) (by decide)) (g := (mkF m 68 #[.val (.long q1), .second, .val (.int (own_ln q1)), .val (.int (own_ch q1 (2 : Int32))), .val (.int (own_ch q1 (10 : Int32))), .val (.int f), .val (.int (own_ln ((q1.toUInt64 >>> ((19 : Int32) &&& 0x3f).toInt64.toUInt64).toInt64))), .unset, .unset] [(.int (21 : Int32)), (.long q1), (.int (own_ch q1 (2 : Int32)))])) rfl (by rw [hml]; rfl) (argsL := [(.long q1), (.int (21 : Int32))]) (rest := [(.int (own_ch q1 (2 : Int32)))]) (lenOf (pd_d3) rfl) rfl (by show 2 * 0 + _ ≤ _; exact Nat.le_of_eq rfl) (hb hby d1_68) (fun _ _ => ⟨rfl, eq4, (Nat.le_of_ble_eq_true rfl), (Nat.le_of_ble_eq_true rfl)⟩)
      dsimp only [Pt.U, Pt.locs, Pt.cells, Pt.slots] at X5 l5 y5 z5 st5 hQ5
      subst l5 y5 z5
      obtain ⟨rfl, Nq5, eq5⟩ := hQ5
      have N5 := Fr.app N4 Nq5
      refine own_st (U' := (T5.setTop (mkF m 71 #[.val (.long q1), .second, .val (.int (own_ln q1)), .val (.int (own_ch q1 (2 : Int32))), .val (.int (own_ch q1 (10 : Int32))), .val (.int f), .val (.int (own_ln ((q1.toUInt64 >>> ((19 : Int32) &&& 0x3f).toInt64.toUInt64).toInt64))), .unset, .unset] [(.int (own_ch q1 (21 : Int32))), (.int (own_ch q1 (2 : Int32)))]))) st5 ?_
      refine own_st (U' := (T5.setTop (mkF m 72 #[.val (.long q1), .second, .val (.int (own_ln q1)), .val (.int (own_ch q1 (2 : Int32))), .val (.int (own_ch q1 (10 : Int32))), .val (.int f), .val (.int (own_ln ((q1.toUInt64 >>> ((19 : Int32) &&& 0x3f).toInt64.toUInt64).toInt64))), .unset, .unset] [(.int ((own_ch q1 (2 : Int32)) ^^^ (own_ch q1 (21 : Int32))))]))) (fun _ k => XS.ixor X5.here hx rfl (hb hby d1_71) rfl k) ?_
      refine own_st (U' := (T5.setTop (mkF m 74 #[.val (.long q1), .second, .val (.int (own_ln q1)), .val (.int (own_ch q1 (2 : Int32))), .val (.int (own_ch q1 (10 : Int32))), .val (.int f), .val (.int (own_ln ((q1.toUInt64 >>> ((19 : Int32) &&& 0x3f).toInt64.toUInt64).toInt64))), .val (.int ((own_ch q1 (2 : Int32)) ^^^ (own_ch q1 (21 : Int32)))), .unset] []))) (fun _ k => XS.istore X5.here hx rfl (hb hby d1_72) rfl (l' := #[.val (.long q1), .second, .val (.int (own_ln q1)), .val (.int (own_ch q1 (2 : Int32))), .val (.int (own_ch q1 (10 : Int32))), .val (.int f), .val (.int (own_ln ((q1.toUInt64 >>> ((19 : Int32) &&& 0x3f).toInt64.toUInt64).toInt64))), .val (.int ((own_ch q1 (2 : Int32)) ^^^ (own_ch q1 (21 : Int32)))), .unset]) rfl k) ?_
      refine own_st (U' := (T5.setTop (mkF m 76 #[.val (.long q1), .second, .val (.int (own_ln q1)), .val (.int (own_ch q1 (2 : Int32))), .val (.int (own_ch q1 (10 : Int32))), .val (.int f), .val (.int (own_ln ((q1.toUInt64 >>> ((19 : Int32) &&& 0x3f).toInt64.toUInt64).toInt64))), .val (.int ((own_ch q1 (2 : Int32)) ^^^ (own_ch q1 (21 : Int32)))), .unset] [(.int f)]))) (fun _ k => XS.iload X5.here hx rfl (hb hby d1_74) rfl k) ?_
      refine own_st (U' := (T5.setTop (mkF m 84 #[.val (.long q1), .second, .val (.int (own_ln q1)), .val (.int (own_ch q1 (2 : Int32))), .val (.int (own_ch q1 (10 : Int32))), .val (.int f), .val (.int (own_ln ((q1.toUInt64 >>> ((19 : Int32) &&& 0x3f).toInt64.toUInt64).toInt64))), .val (.int ((own_ch q1 (2 : Int32)) ^^^ (own_ch q1 (21 : Int32)))), .unset] []))) (fun _ k => XS.ifYes X5.here hx rfl (pc0 := 76) (pc' := 84) rfl (hb hby d1_76) rfl ((if0 _ _).trans (teq c0).1) (by decide) (by decide) k) ?_
      refine own_st (U' := (T5.setTop (mkF m 86 #[.val (.long q1), .second, .val (.int (own_ln q1)), .val (.int (own_ch q1 (2 : Int32))), .val (.int (own_ch q1 (10 : Int32))), .val (.int f), .val (.int (own_ln ((q1.toUInt64 >>> ((19 : Int32) &&& 0x3f).toInt64.toUInt64).toInt64))), .val (.int ((own_ch q1 (2 : Int32)) ^^^ (own_ch q1 (21 : Int32)))), .unset] [(.int (own_ch q1 (10 : Int32)))]))) (fun _ k => XS.iload X5.here hx rfl (hb hby d1_84) rfl k) ?_
      refine own_st (U' := (T5.setTop (mkF m 87 #[.val (.long q1), .second, .val (.int (own_ln q1)), .val (.int (own_ch q1 (2 : Int32))), .val (.int (own_ch q1 (10 : Int32))), .val (.int f), .val (.int (own_ln ((q1.toUInt64 >>> ((19 : Int32) &&& 0x3f).toInt64.toUInt64).toInt64))), .val (.int ((own_ch q1 (2 : Int32)) ^^^ (own_ch q1 (21 : Int32)))), .unset] [(.long q1), (.int (own_ch q1 (10 : Int32)))]))) (fun _ k => XS.lloadN X5.here hx rfl (hb hby d1_86) rfl k) ?_
      refine own_st (U' := (T5.setTop (mkF m 89 #[.val (.long q1), .second, .val (.int (own_ln q1)), .val (.int (own_ch q1 (2 : Int32))), .val (.int (own_ch q1 (10 : Int32))), .val (.int f), .val (.int (own_ln ((q1.toUInt64 >>> ((19 : Int32) &&& 0x3f).toInt64.toUInt64).toInt64))), .val (.int ((own_ch q1 (2 : Int32)) ^^^ (own_ch q1 (21 : Int32)))), .unset] [(.int (29 : Int32)), (.long q1), (.int (own_ch q1 (10 : Int32)))]))) (fun _ k => XS.bipush X5.here hx rfl (hb hby d1_87) k) ?_
      obtain ⟨_, _, ⟨T6, L6, k6, n6⟩, -, X6, ⟨Lc6, hQ6, l6, y6, z6⟩, st6⟩ := Jvm.LawKit.callS X5 hx (y := (⟨"com/example/quorum/quorum/ValidationFailureEqualsPinLaw", "ch", "(JI)I"⟩ : MethodName)) hown (mvT hZ (hw _ (List.mem_of_getElem? (i := 8) rfl))) (mvT hZ (hw _ (List.mem_of_getElem? (i := 9) rfl))) (mvT hZ (hw _ (List.mem_of_getElem? (i := 2) rfl))) (mvT hZ (hw _ (List.mem_of_getElem? (i := 10) rfl))) (by decide) (backOf (W := 1) (rmCh l Z a0 hw [] q1 (29 : Int32) h0 n0 Z0) hZ (hw _ (List.mem_of_getElem? (i := 10) rfl)) (hw _ (List.mem_of_getElem? (i := 2) rfl)) (by decide) (by decide)) (g := (mkF m 89 #[.val (.long q1), .second, .val (.int (own_ln q1)), .val (.int (own_ch q1 (2 : Int32))), .val (.int (own_ch q1 (10 : Int32))), .val (.int f), .val (.int (own_ln ((q1.toUInt64 >>> ((19 : Int32) &&& 0x3f).toInt64.toUInt64).toInt64))), .val (.int ((own_ch q1 (2 : Int32)) ^^^ (own_ch q1 (21 : Int32)))), .unset] [(.int (29 : Int32)), (.long q1), (.int (own_ch q1 (10 : Int32)))])) rfl (by rw [hml]; rfl) (argsL := [(.long q1), (.int (29 : Int32))]) (rest := [(.int (own_ch q1 (10 : Int32)))]) (lenOf (pd_d3) rfl) rfl (by show 2 * 0 + _ ≤ _; exact Nat.le_of_eq rfl) (hb hby d1_89) (fun _ _ => ⟨rfl, eq5, (Nat.le_of_ble_eq_true rfl), (Nat.le_of_ble_eq_true rfl)⟩)
      dsimp only [Pt.U, Pt.locs, Pt.cells, Pt.slots] at X6 l6 y6 z6 st6 hQ6
      subst l6 y6 z6
      obtain ⟨rfl, Nq6, eq6⟩ := hQ6
      have N6 := Fr.app N5 Nq6
      refine own_st (U' := (T6.setTop (mkF m 92 #[.val (.long q1), .second, .val (.int (own_ln q1)), .val (.int (own_ch q1 (2 : Int32))), .val (.int (own_ch q1 (10 : Int32))), .val (.int f), .val (.int (own_ln ((q1.toUInt64 >>> ((19 : Int32) &&& 0x3f).toInt64.toUInt64).toInt64))), .val (.int ((own_ch q1 (2 : Int32)) ^^^ (own_ch q1 (21 : Int32)))), .unset] [(.int (own_ch q1 (29 : Int32))), (.int (own_ch q1 (10 : Int32)))]))) st6 ?_
      refine own_st (U' := (T6.setTop (mkF m 93 #[.val (.long q1), .second, .val (.int (own_ln q1)), .val (.int (own_ch q1 (2 : Int32))), .val (.int (own_ch q1 (10 : Int32))), .val (.int f), .val (.int (own_ln ((q1.toUInt64 >>> ((19 : Int32) &&& 0x3f).toInt64.toUInt64).toInt64))), .val (.int ((own_ch q1 (2 : Int32)) ^^^ (own_ch q1 (21 : Int32)))), .unset] [(.int ((own_ch q1 (10 : Int32)) ^^^ (own_ch q1 (29 : Int32))))]))) (fun _ k => XS.ixor X6.here hx rfl (hb hby d1_92) rfl k) ?_
      refine own_st (U' := (T6.setTop (mkF m 95 #[.val (.long q1), .second, .val (.int (own_ln q1)), .val (.int (own_ch q1 (2 : Int32))), .val (.int (own_ch q1 (10 : Int32))), .val (.int f), .val (.int (own_ln ((q1.toUInt64 >>> ((19 : Int32) &&& 0x3f).toInt64.toUInt64).toInt64))), .val (.int ((own_ch q1 (2 : Int32)) ^^^ (own_ch q1 (21 : Int32)))), .val (.int ((own_ch q1 (10 : Int32)) ^^^ (own_ch q1 (29 : Int32))))] []))) (fun _ k => XS.istore X6.here hx rfl (hb hby d1_93) rfl (l' := #[.val (.long q1), .second, .val (.int (own_ln q1)), .val (.int (own_ch q1 (2 : Int32))), .val (.int (own_ch q1 (10 : Int32))), .val (.int f), .val (.int (own_ln ((q1.toUInt64 >>> ((19 : Int32) &&& 0x3f).toInt64.toUInt64).toInt64))), .val (.int ((own_ch q1 (2 : Int32)) ^^^ (own_ch q1 (21 : Int32)))), .val (.int ((own_ch q1 (10 : Int32)) ^^^ (own_ch q1 (29 : Int32))))]) rfl k) ?_
      refine own_st (U' := (T6.setTop (mkF m 97 #[.val (.long q1), .second, .val (.int (own_ln q1)), .val (.int (own_ch q1 (2 : Int32))), .val (.int (own_ch q1 (10 : Int32))), .val (.int f), .val (.int (own_ln ((q1.toUInt64 >>> ((19 : Int32) &&& 0x3f).toInt64.toUInt64).toInt64))), .val (.int ((own_ch q1 (2 : Int32)) ^^^ (own_ch q1 (21 : Int32)))), .val (.int ((own_ch q1 (10 : Int32)) ^^^ (own_ch q1 (29 : Int32))))] [(.int (6 : Int32))]))) (fun _ k => XS.bipush X6.here hx rfl (hb hby d1_95) k) ?_
      obtain ⟨T7, h7, k7, X7, e7, E7, A7, st7⟩ := newP X6 hx hZ (hw _ (List.mem_of_getElem? (i := 12) rfl)) eq6 (g := (mkF m 97 #[.val (.long q1), .second, .val (.int (own_ln q1)), .val (.int (own_ch q1 (2 : Int32))), .val (.int (own_ch q1 (10 : Int32))), .val (.int f), .val (.int (own_ln ((q1.toUInt64 >>> ((19 : Int32) &&& 0x3f).toInt64.toUInt64).toInt64))), .val (.int ((own_ch q1 (2 : Int32)) ^^^ (own_ch q1 (21 : Int32)))), .val (.int ((own_ch q1 (10 : Int32)) ^^^ (own_ch q1 (29 : Int32))))] [(.int (6 : Int32))])) rfl (hb hby d1_97) rfl (by decide) (cap := 6) (by decide) (by decide) (by decide) (by decide)
      obtain ⟨b7, g7⟩ : ∃ z, z = h0.size := ⟨_, rfl⟩
      rw [← g7] at A7 st7
      have g_b7 : n0 ≤ b7 := Nat.le_trans Z0 (Nat.le_of_eq g7.symm)
      have sz_b7 : h0.size ≤ b7 := Nat.le_trans (Keep.refl h0 []).1 (Nat.le_of_eq g7.symm)
      have Z7 : n0 ≤ h7.size := Nat.le_trans Z0 E7.1
      have K7 := (Keep.refl h0 []).ext E7
      have V_b7 : own_A Z h7 b7 .int 6 (fun _ => defaultValue .int) := own_A.new A7 (by decide)
      refine own_st (U' := (T7.setTop (mkF m 99 #[.val (.long q1), .second, .val (.int (own_ln q1)), .val (.int (own_ch q1 (2 : Int32))), .val (.int (own_ch q1 (10 : Int32))), .val (.int f), .val (.int (own_ln ((q1.toUInt64 >>> ((19 : Int32) &&& 0x3f).toInt64.toUInt64).toInt64))), .val (.int ((own_ch q1 (2 : Int32)) ^^^ (own_ch q1 (21 : Int32)))), .val (.int ((own_ch q1 (10 : Int32)) ^^^ (own_ch q1 (29 : Int32))))] [(.ref b7)]))) st7 ?_
      refine own_st (U' := (T7.setTop (mkF m 100 #[.val (.long q1), .second, .val (.int (own_ln q1)), .val (.int (own_ch q1 (2 : Int32))), .val (.int (own_ch q1 (10 : Int32))), .val (.int f), .val (.int (own_ln ((q1.toUInt64 >>> ((19 : Int32) &&& 0x3f).toInt64.toUInt64).toInt64))), .val (.int ((own_ch q1 (2 : Int32)) ^^^ (own_ch q1 (21 : Int32)))), .val (.int ((own_ch q1 (10 : Int32)) ^^^ (own_ch q1 (29 : Int32))))] [(.ref b7), (.ref b7)]))) (fun _ k => XS.dup X7.here hx rfl (hb hby d1_99) rfl rfl k) ?_
      refine own_st (U' := (T7.setTop (mkF m 101 #[.val (.long q1), .second, .val (.int (own_ln q1)), .val (.int (own_ch q1 (2 : Int32))), .val (.int (own_ch q1 (10 : Int32))), .val (.int f), .val (.int (own_ln ((q1.toUInt64 >>> ((19 : Int32) &&& 0x3f).toInt64.toUInt64).toInt64))), .val (.int ((own_ch q1 (2 : Int32)) ^^^ (own_ch q1 (21 : Int32)))), .val (.int ((own_ch q1 (10 : Int32)) ^^^ (own_ch q1 (29 : Int32))))] [(.int (0 : Int32)), (.ref b7), (.ref b7)]))) (fun _ k => XS.iconst X7.here hx rfl (hb hby d1_100) k) ?_
      refine own_st (U' := (T7.setTop (mkF m 102 #[.val (.long q1), .second, .val (.int (own_ln q1)), .val (.int (own_ch q1 (2 : Int32))), .val (.int (own_ch q1 (10 : Int32))), .val (.int f), .val (.int (own_ln ((q1.toUInt64 >>> ((19 : Int32) &&& 0x3f).toInt64.toUInt64).toInt64))), .val (.int ((own_ch q1 (2 : Int32)) ^^^ (own_ch q1 (21 : Int32)))), .val (.int ((own_ch q1 (10 : Int32)) ^^^ (own_ch q1 (29 : Int32))))] [(.int (own_ln q1)), (.int (0 : Int32)), (.ref b7), (.ref b7)]))) (fun _ k => XS.iloadN X7.here hx rfl (hb hby d1_101) rfl k) ?_
      obtain ⟨T8, h8, X8, e8, W8, V8, st8⟩ := own_stI X7 hx hZ e7 V_b7 (j := (0 : Int32)) (i := 0) (by decide) rfl (by decide) (g := (mkF m 102 #[.val (.long q1), .second, .val (.int (own_ln q1)), .val (.int (own_ch q1 (2 : Int32))), .val (.int (own_ch q1 (10 : Int32))), .val (.int f), .val (.int (own_ln ((q1.toUInt64 >>> ((19 : Int32) &&& 0x3f).toInt64.toUInt64).toInt64))), .val (.int ((own_ch q1 (2 : Int32)) ^^^ (own_ch q1 (21 : Int32)))), .val (.int ((own_ch q1 (10 : Int32)) ^^^ (own_ch q1 (29 : Int32))))] [(.int (own_ln q1)), (.int (0 : Int32)), (.ref b7), (.ref b7)])) rfl rfl (hb hby d1_102)
      have V_b7 := V8
      have N8 := Fr.snoc X8 N6 g_b7
      have Z8 : n0 ≤ h8.size := Nat.le_trans Z7 (Nat.le_of_eq W8.size.symm)
      have K8 := K7.wr W8 (Or.inr sz_b7)
      refine own_st (U' := (T8.setTop (mkF m 103 #[.val (.long q1), .second, .val (.int (own_ln q1)), .val (.int (own_ch q1 (2 : Int32))), .val (.int (own_ch q1 (10 : Int32))), .val (.int f), .val (.int (own_ln ((q1.toUInt64 >>> ((19 : Int32) &&& 0x3f).toInt64.toUInt64).toInt64))), .val (.int ((own_ch q1 (2 : Int32)) ^^^ (own_ch q1 (21 : Int32)))), .val (.int ((own_ch q1 (10 : Int32)) ^^^ (own_ch q1 (29 : Int32))))] [(.ref b7)]))) st8 ?_
      refine own_st (U' := (T8.setTop (mkF m 104 #[.val (.long q1), .second, .val (.int (own_ln q1)), .val (.int (own_ch q1 (2 : Int32))), .val (.int (own_ch q1 (10 : Int32))), .val (.int f), .val (.int (own_ln ((q1.toUInt64 >>> ((19 : Int32) &&& 0x3f).toInt64.toUInt64).toInt64))), .val (.int ((own_ch q1 (2 : Int32)) ^^^ (own_ch q1 (21 : Int32)))), .val (.int ((own_ch q1 (10 : Int32)) ^^^ (own_ch q1 (29 : Int32))))] [(.ref b7), (.ref b7)]))) (fun _ k => XS.dup X8.here hx rfl (hb hby d1_103) rfl rfl k) ?_
      refine own_st (U' := (T8.setTop (mkF m 105 #[.val (.long q1), .second, .val (.int (own_ln q1)), .val (.int (own_ch q1 (2 : Int32))), .val (.int (own_ch q1 (10 : Int32))), .val (.int f), .val (.int (own_ln ((q1.toUInt64 >>> ((19 : Int32) &&& 0x3f).toInt64.toUInt64).toInt64))), .val (.int ((own_ch q1 (2 : Int32)) ^^^ (own_ch q1 (21 : Int32)))), .val (.int ((own_ch q1 (10 : Int32)) ^^^ (own_ch q1 (29 : Int32))))] [(.int (1 : Int32)), (.ref b7), (.ref b7)]))) (fun _ k => XS.iconst X8.here hx rfl (hb hby d1_104) k) ?_
      refine own_st (U' := (T8.setTop (mkF m 106 #[.val (.long q1), .second, .val (.int (own_ln q1)), .val (.int (own_ch q1 (2 : Int32))), .val (.int (own_ch q1 (10 : Int32))), .val (.int f), .val (.int (own_ln ((q1.toUInt64 >>> ((19 : Int32) &&& 0x3f).toInt64.toUInt64).toInt64))), .val (.int ((own_ch q1 (2 : Int32)) ^^^ (own_ch q1 (21 : Int32)))), .val (.int ((own_ch q1 (10 : Int32)) ^^^ (own_ch q1 (29 : Int32))))] [(.int (own_ch q1 (2 : Int32))), (.int (1 : Int32)), (.ref b7), (.ref b7)]))) (fun _ k => XS.iloadN X8.here hx rfl (hb hby d1_105) rfl k) ?_
      obtain ⟨T9, h9, X9, e9, W9, V9, st9⟩ := own_stI X8 hx hZ e8 V_b7 (j := (1 : Int32)) (i := 1) (by decide) rfl (by decide) (g := (mkF m 106 #[.val (.long q1), .second, .val (.int (own_ln q1)), .val (.int (own_ch q1 (2 : Int32))), .val (.int (own_ch q1 (10 : Int32))), .val (.int f), .val (.int (own_ln ((q1.toUInt64 >>> ((19 : Int32) &&& 0x3f).toInt64.toUInt64).toInt64))), .val (.int ((own_ch q1 (2 : Int32)) ^^^ (own_ch q1 (21 : Int32)))), .val (.int ((own_ch q1 (10 : Int32)) ^^^ (own_ch q1 (29 : Int32))))] [(.int (own_ch q1 (2 : Int32))), (.int (1 : Int32)), (.ref b7), (.ref b7)])) rfl rfl (hb hby d1_106)
      have V_b7 := V9
      have N9 := Fr.snoc X9 N8 g_b7
      have Z9 : n0 ≤ h9.size := Nat.le_trans Z8 (Nat.le_of_eq W9.size.symm)
      have K9 := K8.wr W9 (Or.inr sz_b7)
      refine own_st (U' := (T9.setTop (mkF m 107 #[.val (.long q1), .second, .val (.int (own_ln q1)), .val (.int (own_ch q1 (2 : Int32))), .val (.int (own_ch q1 (10 : Int32))), .val (.int f), .val (.int (own_ln ((q1.toUInt64 >>> ((19 : Int32) &&& 0x3f).toInt64.toUInt64).toInt64))), .val (.int ((own_ch q1 (2 : Int32)) ^^^ (own_ch q1 (21 : Int32)))), .val (.int ((own_ch q1 (10 : Int32)) ^^^ (own_ch q1 (29 : Int32))))] [(.ref b7)]))) st9 ?_
      refine own_st (U' := (T9.setTop (mkF m 108 #[.val (.long q1), .second, .val (.int (own_ln q1)), .val (.int (own_ch q1 (2 : Int32))), .val (.int (own_ch q1 (10 : Int32))), .val (.int f), .val (.int (own_ln ((q1.toUInt64 >>> ((19 : Int32) &&& 0x3f).toInt64.toUInt64).toInt64))), .val (.int ((own_ch q1 (2 : Int32)) ^^^ (own_ch q1 (21 : Int32)))), .val (.int ((own_ch q1 (10 : Int32)) ^^^ (own_ch q1 (29 : Int32))))] [(.ref b7), (.ref b7)]))) (fun _ k => XS.dup X9.here hx rfl (hb hby d1_107) rfl rfl k) ?_
      refine own_st (U' := (T9.setTop (mkF m 109 #[.val (.long q1), .second, .val (.int (own_ln q1)), .val (.int (own_ch q1 (2 : Int32))), .val (.int (own_ch q1 (10 : Int32))), .val (.int f), .val (.int (own_ln ((q1.toUInt64 >>> ((19 : Int32) &&& 0x3f).toInt64.toUInt64).toInt64))), .val (.int ((own_ch q1 (2 : Int32)) ^^^ (own_ch q1 (21 : Int32)))), .val (.int ((own_ch q1 (10 : Int32)) ^^^ (own_ch q1 (29 : Int32))))] [(.int (2 : Int32)), (.ref b7), (.ref b7)]))) (fun _ k => XS.iconst X9.here hx rfl (hb hby d1_108) k) ?_
      refine own_st (U' := (T9.setTop (mkF m 111 #[.val (.long q1), .second, .val (.int (own_ln q1)), .val (.int (own_ch q1 (2 : Int32))), .val (.int (own_ch q1 (10 : Int32))), .val (.int f), .val (.int (own_ln ((q1.toUInt64 >>> ((19 : Int32) &&& 0x3f).toInt64.toUInt64).toInt64))), .val (.int ((own_ch q1 (2 : Int32)) ^^^ (own_ch q1 (21 : Int32)))), .val (.int ((own_ch q1 (10 : Int32)) ^^^ (own_ch q1 (29 : Int32))))] [(.int (own_ch q1 (10 : Int32))), (.int (2 : Int32)), (.ref b7), (.ref b7)]))) (fun _ k => XS.iload X9.here hx rfl (hb hby d1_109) rfl k) ?_
      obtain ⟨T10, h10, X10, e10, W10, V10, st10⟩ := own_stI X9 hx hZ e9 V_b7 (j := (2 : Int32)) (i := 2) (by decide) rfl (by decide) (g := (mkF m 111 #[.val (.long q1), .second, .val (.int (own_ln q1)), .val (.int (own_ch q1 (2 : Int32))), .val (.int (own_ch q1 (10 : Int32))), .val (.int f), .val (.int (own_ln ((q1.toUInt64 >>> ((19 : Int32) &&& 0x3f).toInt64.toUInt64).toInt64))), .val (.int ((own_ch q1 (2 : Int32)) ^^^ (own_ch q1 (21 : Int32)))), .val (.int ((own_ch q1 (10 : Int32)) ^^^ (own_ch q1 (29 : Int32))))] [(.int (own_ch q1 (10 : Int32))), (.int (2 : Int32)), (.ref b7), (.ref b7)])) rfl rfl (hb hby d1_111)
      have V_b7 := V10
      have N10 := Fr.snoc X10 N9 g_b7
      have Z10 : n0 ≤ h10.size := Nat.le_trans Z9 (Nat.le_of_eq W10.size.symm)
      have K10 := K9.wr W10 (Or.inr sz_b7)
      refine own_st (U' := (T10.setTop (mkF m 112 #[.val (.long q1), .second, .val (.int (own_ln q1)), .val (.int (own_ch q1 (2 : Int32))), .val (.int (own_ch q1 (10 : Int32))), .val (.int f), .val (.int (own_ln ((q1.toUInt64 >>> ((19 : Int32) &&& 0x3f).toInt64.toUInt64).toInt64))), .val (.int ((own_ch q1 (2 : Int32)) ^^^ (own_ch q1 (21 : Int32)))), .val (.int ((own_ch q1 (10 : Int32)) ^^^ (own_ch q1 (29 : Int32))))] [(.ref b7)]))) st10 ?_
      refine own_st (U' := (T10.setTop (mkF m 113 #[.val (.long q1), .second, .val (.int (own_ln q1)), .val (.int (own_ch q1 (2 : Int32))), .val (.int (own_ch q1 (10 : Int32))), .val (.int f), .val (.int (own_ln ((q1.toUInt64 >>> ((19 : Int32) &&& 0x3f).toInt64.toUInt64).toInt64))), .val (.int ((own_ch q1 (2 : Int32)) ^^^ (own_ch q1 (21 : Int32)))), .val (.int ((own_ch q1 (10 : Int32)) ^^^ (own_ch q1 (29 : Int32))))] [(.ref b7), (.ref b7)]))) (fun _ k => XS.dup X10.here hx rfl (hb hby d1_112) rfl rfl k) ?_
      refine own_st (U' := (T10.setTop (mkF m 114 #[.val (.long q1), .second, .val (.int (own_ln q1)), .val (.int (own_ch q1 (2 : Int32))), .val (.int (own_ch q1 (10 : Int32))), .val (.int f), .val (.int (own_ln ((q1.toUInt64 >>> ((19 : Int32) &&& 0x3f).toInt64.toUInt64).toInt64))), .val (.int ((own_ch q1 (2 : Int32)) ^^^ (own_ch q1 (21 : Int32)))), .val (.int ((own_ch q1 (10 : Int32)) ^^^ (own_ch q1 (29 : Int32))))] [(.int (3 : Int32)), (.ref b7), (.ref b7)]))) (fun _ k => XS.iconst X10.here hx rfl (hb hby d1_113) k) ?_
      refine own_st (U' := (T10.setTop (mkF m 116 #[.val (.long q1), .second, .val (.int (own_ln q1)), .val (.int (own_ch q1 (2 : Int32))), .val (.int (own_ch q1 (10 : Int32))), .val (.int f), .val (.int (own_ln ((q1.toUInt64 >>> ((19 : Int32) &&& 0x3f).toInt64.toUInt64).toInt64))), .val (.int ((own_ch q1 (2 : Int32)) ^^^ (own_ch q1 (21 : Int32)))), .val (.int ((own_ch q1 (10 : Int32)) ^^^ (own_ch q1 (29 : Int32))))] [(.int (own_ln ((q1.toUInt64 >>> ((19 : Int32) &&& 0x3f).toInt64.toUInt64).toInt64))), (.int (3 : Int32)), (.ref b7), (.ref b7)]))) (fun _ k => XS.iload X10.here hx rfl (hb hby d1_114) rfl k) ?_
      obtain ⟨T11, h11, X11, e11, W11, V11, st11⟩ := own_stI X10 hx hZ e10 V_b7 (j := (3 : Int32)) (i := 3) (by decide) rfl (by decide) (g := (mkF m 116 #[.val (.long q1), .second, .val (.int (own_ln q1)), .val (.int (own_ch q1 (2 : Int32))), .val (.int (own_ch q1 (10 : Int32))), .val (.int f), .val (.int (own_ln ((q1.toUInt64 >>> ((19 : Int32) &&& 0x3f).toInt64.toUInt64).toInt64))), .val (.int ((own_ch q1 (2 : Int32)) ^^^ (own_ch q1 (21 : Int32)))), .val (.int ((own_ch q1 (10 : Int32)) ^^^ (own_ch q1 (29 : Int32))))] [(.int (own_ln ((q1.toUInt64 >>> ((19 : Int32) &&& 0x3f).toInt64.toUInt64).toInt64))), (.int (3 : Int32)), (.ref b7), (.ref b7)])) rfl rfl (hb hby d1_116)
      have V_b7 := V11
      have N11 := Fr.snoc X11 N10 g_b7
      have Z11 : n0 ≤ h11.size := Nat.le_trans Z10 (Nat.le_of_eq W11.size.symm)
      have K11 := K10.wr W11 (Or.inr sz_b7)
      refine own_st (U' := (T11.setTop (mkF m 117 #[.val (.long q1), .second, .val (.int (own_ln q1)), .val (.int (own_ch q1 (2 : Int32))), .val (.int (own_ch q1 (10 : Int32))), .val (.int f), .val (.int (own_ln ((q1.toUInt64 >>> ((19 : Int32) &&& 0x3f).toInt64.toUInt64).toInt64))), .val (.int ((own_ch q1 (2 : Int32)) ^^^ (own_ch q1 (21 : Int32)))), .val (.int ((own_ch q1 (10 : Int32)) ^^^ (own_ch q1 (29 : Int32))))] [(.ref b7)]))) st11 ?_
      refine own_st (U' := (T11.setTop (mkF m 118 #[.val (.long q1), .second, .val (.int (own_ln q1)), .val (.int (own_ch q1 (2 : Int32))), .val (.int (own_ch q1 (10 : Int32))), .val (.int f), .val (.int (own_ln ((q1.toUInt64 >>> ((19 : Int32) &&& 0x3f).toInt64.toUInt64).toInt64))), .val (.int ((own_ch q1 (2 : Int32)) ^^^ (own_ch q1 (21 : Int32)))), .val (.int ((own_ch q1 (10 : Int32)) ^^^ (own_ch q1 (29 : Int32))))] [(.ref b7), (.ref b7)]))) (fun _ k => XS.dup X11.here hx rfl (hb hby d1_117) rfl rfl k) ?_
      refine own_st (U' := (T11.setTop (mkF m 119 #[.val (.long q1), .second, .val (.int (own_ln q1)), .val (.int (own_ch q1 (2 : Int32))), .val (.int (own_ch q1 (10 : Int32))), .val (.int f), .val (.int (own_ln ((q1.toUInt64 >>> ((19 : Int32) &&& 0x3f).toInt64.toUInt64).toInt64))), .val (.int ((own_ch q1 (2 : Int32)) ^^^ (own_ch q1 (21 : Int32)))), .val (.int ((own_ch q1 (10 : Int32)) ^^^ (own_ch q1 (29 : Int32))))] [(.int (4 : Int32)), (.ref b7), (.ref b7)]))) (fun _ k => XS.iconst X11.here hx rfl (hb hby d1_118) k) ?_
      refine own_st (U' := (T11.setTop (mkF m 121 #[.val (.long q1), .second, .val (.int (own_ln q1)), .val (.int (own_ch q1 (2 : Int32))), .val (.int (own_ch q1 (10 : Int32))), .val (.int f), .val (.int (own_ln ((q1.toUInt64 >>> ((19 : Int32) &&& 0x3f).toInt64.toUInt64).toInt64))), .val (.int ((own_ch q1 (2 : Int32)) ^^^ (own_ch q1 (21 : Int32)))), .val (.int ((own_ch q1 (10 : Int32)) ^^^ (own_ch q1 (29 : Int32))))] [(.int ((own_ch q1 (2 : Int32)) ^^^ (own_ch q1 (21 : Int32)))), (.int (4 : Int32)), (.ref b7), (.ref b7)]))) (fun _ k => XS.iload X11.here hx rfl (hb hby d1_119) rfl k) ?_
      obtain ⟨T12, h12, X12, e12, W12, V12, st12⟩ := own_stI X11 hx hZ e11 V_b7 (j := (4 : Int32)) (i := 4) (by decide) rfl (by decide) (g := (mkF m 121 #[.val (.long q1), .second, .val (.int (own_ln q1)), .val (.int (own_ch q1 (2 : Int32))), .val (.int (own_ch q1 (10 : Int32))), .val (.int f), .val (.int (own_ln ((q1.toUInt64 >>> ((19 : Int32) &&& 0x3f).toInt64.toUInt64).toInt64))), .val (.int ((own_ch q1 (2 : Int32)) ^^^ (own_ch q1 (21 : Int32)))), .val (.int ((own_ch q1 (10 : Int32)) ^^^ (own_ch q1 (29 : Int32))))] [(.int ((own_ch q1 (2 : Int32)) ^^^ (own_ch q1 (21 : Int32)))), (.int (4 : Int32)), (.ref b7), (.ref b7)])) rfl rfl (hb hby d1_121)
      have V_b7 := V12
      have N12 := Fr.snoc X12 N11 g_b7
      have Z12 : n0 ≤ h12.size := Nat.le_trans Z11 (Nat.le_of_eq W12.size.symm)
      have K12 := K11.wr W12 (Or.inr sz_b7)
      refine own_st (U' := (T12.setTop (mkF m 122 #[.val (.long q1), .second, .val (.int (own_ln q1)), .val (.int (own_ch q1 (2 : Int32))), .val (.int (own_ch q1 (10 : Int32))), .val (.int f), .val (.int (own_ln ((q1.toUInt64 >>> ((19 : Int32) &&& 0x3f).toInt64.toUInt64).toInt64))), .val (.int ((own_ch q1 (2 : Int32)) ^^^ (own_ch q1 (21 : Int32)))), .val (.int ((own_ch q1 (10 : Int32)) ^^^ (own_ch q1 (29 : Int32))))] [(.ref b7)]))) st12 ?_
      refine own_st (U' := (T12.setTop (mkF m 123 #[.val (.long q1), .second, .val (.int (own_ln q1)), .val (.int (own_ch q1 (2 : Int32))), .val (.int (own_ch q1 (10 : Int32))), .val (.int f), .val (.int (own_ln ((q1.toUInt64 >>> ((19 : Int32) &&& 0x3f).toInt64.toUInt64).toInt64))), .val (.int ((own_ch q1 (2 : Int32)) ^^^ (own_ch q1 (21 : Int32)))), .val (.int ((own_ch q1 (10 : Int32)) ^^^ (own_ch q1 (29 : Int32))))] [(.ref b7), (.ref b7)]))) (fun _ k => XS.dup X12.here hx rfl (hb hby d1_122) rfl rfl k) ?_
      refine own_st (U' := (T12.setTop (mkF m 124 #[.val (.long q1), .second, .val (.int (own_ln q1)), .val (.int (own_ch q1 (2 : Int32))), .val (.int (own_ch q1 (10 : Int32))), .val (.int f), .val (.int (own_ln ((q1.toUInt64 >>> ((19 : Int32) &&& 0x3f).toInt64.toUInt64).toInt64))), .val (.int ((own_ch q1 (2 : Int32)) ^^^ (own_ch q1 (21 : Int32)))), .val (.int ((own_ch q1 (10 : Int32)) ^^^ (own_ch q1 (29 : Int32))))] [(.int (5 : Int32)), (.ref b7), (.ref b7)]))) (fun _ k => XS.iconst X12.here hx rfl (hb hby d1_123) k) ?_
      refine own_st (U' := (T12.setTop (mkF m 126 #[.val (.long q1), .second, .val (.int (own_ln q1)), .val (.int (own_ch q1 (2 : Int32))), .val (.int (own_ch q1 (10 : Int32))), .val (.int f), .val (.int (own_ln ((q1.toUInt64 >>> ((19 : Int32) &&& 0x3f).toInt64.toUInt64).toInt64))), .val (.int ((own_ch q1 (2 : Int32)) ^^^ (own_ch q1 (21 : Int32)))), .val (.int ((own_ch q1 (10 : Int32)) ^^^ (own_ch q1 (29 : Int32))))] [(.int ((own_ch q1 (10 : Int32)) ^^^ (own_ch q1 (29 : Int32)))), (.int (5 : Int32)), (.ref b7), (.ref b7)]))) (fun _ k => XS.iload X12.here hx rfl (hb hby d1_124) rfl k) ?_
      obtain ⟨T13, h13, X13, e13, W13, V13, st13⟩ := own_stI X12 hx hZ e12 V_b7 (j := (5 : Int32)) (i := 5) (by decide) rfl (by decide) (g := (mkF m 126 #[.val (.long q1), .second, .val (.int (own_ln q1)), .val (.int (own_ch q1 (2 : Int32))), .val (.int (own_ch q1 (10 : Int32))), .val (.int f), .val (.int (own_ln ((q1.toUInt64 >>> ((19 : Int32) &&& 0x3f).toInt64.toUInt64).toInt64))), .val (.int ((own_ch q1 (2 : Int32)) ^^^ (own_ch q1 (21 : Int32)))), .val (.int ((own_ch q1 (10 : Int32)) ^^^ (own_ch q1 (29 : Int32))))] [(.int ((own_ch q1 (10 : Int32)) ^^^ (own_ch q1 (29 : Int32)))), (.int (5 : Int32)), (.ref b7), (.ref b7)])) rfl rfl (hb hby d1_126)
      have V_b7 := V13
      have N13 := Fr.snoc X13 N12 g_b7
      have Z13 : n0 ≤ h13.size := Nat.le_trans Z12 (Nat.le_of_eq W13.size.symm)
      have K13 := K12.wr W13 (Or.inr sz_b7)
      refine own_st (U' := (T13.setTop (mkF m 127 #[.val (.long q1), .second, .val (.int (own_ln q1)), .val (.int (own_ch q1 (2 : Int32))), .val (.int (own_ch q1 (10 : Int32))), .val (.int f), .val (.int (own_ln ((q1.toUInt64 >>> ((19 : Int32) &&& 0x3f).toInt64.toUInt64).toInt64))), .val (.int ((own_ch q1 (2 : Int32)) ^^^ (own_ch q1 (21 : Int32)))), .val (.int ((own_ch q1 (10 : Int32)) ^^^ (own_ch q1 (29 : Int32))))] [(.ref b7)]))) st13 ?_
      have V_b7 : own_A Z h13 b7 .int 6 (own_L [(own_ln q1), (own_ch q1 (2 : Int32)), (own_ch q1 (10 : Int32)), (own_ln ((q1.toUInt64 >>> ((19 : Int32) &&& 0x3f).toInt64.toUInt64).toInt64)), ((own_ch q1 (2 : Int32)) ^^^ (own_ch q1 (21 : Int32))), ((own_ch q1 (10 : Int32)) ^^^ (own_ch q1 (29 : Int32)))]) := V_b7.congr (by intro j hj; rcases j with _ | _ | _ | _ | _ | _ | j <;> first | rfl | omega)
      exact own_retA X13 hx (t := (.array .int)) Bd.returns Bd.notSynchronized rfl rfl (hb hby d1_127) (by decide) (by decide) (⟨b7, (own_ln q1), (own_ch q1 (2 : Int32)), (own_ch q1 (10 : Int32)), (own_ln ((q1.toUInt64 >>> ((19 : Int32) &&& 0x3f).toInt64.toUInt64).toInt64)), ((own_ch q1 (2 : Int32)) ^^^ (own_ch q1 (21 : Int32))), ((own_ch q1 (10 : Int32)) ^^^ (own_ch q1 (29 : Int32))), rfl, N13, by rw [e13]; exact K13, sz_b7, ⟨own_ln_three _, own_ln_three _, own_and255 _, own_and255 _, own_xor_in (own_and255 _) (own_and255 _), own_xor_in (own_and255 _) (own_and255 _)⟩, by rw [e13]; exact V_b7⟩)
    · skip
      refine own_st (U' := (T3.setTop (mkF m 42 #[.val (.long q1), .second, .val (.int (own_ln q1)), .val (.int (own_ch q1 (2 : Int32))), .val (.int (own_ch q1 (10 : Int32))), .val (.int f), .unset, .unset, .unset] []))) (fun _ k => XS.ifNo X3.here hx rfl (hb hby d1_39) rfl ((if0 _ _).trans (feq c0).1) k) ?_
      refine own_st (U' := (T3.setTop (mkF m 43 #[.val (.long q1), .second, .val (.int (own_ln q1)), .val (.int (own_ch q1 (2 : Int32))), .val (.int (own_ch q1 (10 : Int32))), .val (.int f), .unset, .unset, .unset] [(.int (own_ln q1))]))) (fun _ k => XS.iloadN X3.here hx rfl (hb hby d1_42) rfl k) ?_
      refine own_st (U' := (T3.setTop (mkF m 53 #[.val (.long q1), .second, .val (.int (own_ln q1)), .val (.int (own_ch q1 (2 : Int32))), .val (.int (own_ch q1 (10 : Int32))), .val (.int f), .unset, .unset, .unset] [(.int (own_ln q1))]))) (fun _ k => XS.goto X3.here hx rfl (pc0 := 43) (pc' := 53) rfl (hb hby d1_43) (by decide) (by decide) k) ?_
      refine own_st (U' := (T3.setTop (mkF m 55 #[.val (.long q1), .second, .val (.int (own_ln q1)), .val (.int (own_ch q1 (2 : Int32))), .val (.int (own_ch q1 (10 : Int32))), .val (.int f), .val (.int (own_ln q1)), .unset, .unset] []))) (fun _ k => XS.istore X3.here hx rfl (hb hby d1_53) rfl (l' := #[.val (.long q1), .second, .val (.int (own_ln q1)), .val (.int (own_ch q1 (2 : Int32))), .val (.int (own_ch q1 (10 : Int32))), .val (.int f), .val (.int (own_ln q1)), .unset, .unset]) rfl k) ?_
      refine own_st (U' := (T3.setTop (mkF m 57 #[.val (.long q1), .second, .val (.int (own_ln q1)), .val (.int (own_ch q1 (2 : Int32))), .val (.int (own_ch q1 (10 : Int32))), .val (.int f), .val (.int (own_ln q1)), .unset, .unset] [(.int f)]))) (fun _ k => XS.iload X3.here hx rfl (hb hby d1_55) rfl k) ?_
      refine own_st (U' := (T3.setTop (mkF m 60 #[.val (.long q1), .second, .val (.int (own_ln q1)), .val (.int (own_ch q1 (2 : Int32))), .val (.int (own_ch q1 (10 : Int32))), .val (.int f), .val (.int (own_ln q1)), .unset, .unset] []))) (fun _ k => XS.ifNo X3.here hx rfl (hb hby d1_57) rfl ((if0 _ _).trans (feq c0).1) k) ?_
      refine own_st (U' := (T3.setTop (mkF m 61 #[.val (.long q1), .second, .val (.int (own_ln q1)), .val (.int (own_ch q1 (2 : Int32))), .val (.int (own_ch q1 (10 : Int32))), .val (.int f), .val (.int (own_ln q1)), .unset, .unset] [(.int (own_ch q1 (2 : Int32)))]))) (fun _ k => XS.iloadN X3.here hx rfl (hb hby d1_60) rfl k) ?_
      refine own_st (U' := (T3.setTop (mkF m 72 #[.val (.long q1), .second, .val (.int (own_ln q1)), .val (.int (own_ch q1 (2 : Int32))), .val (.int (own_ch q1 (10 : Int32))), .val (.int f), .val (.int (own_ln q1)), .unset, .unset] [(.int (own_ch q1 (2 : Int32)))]))) (fun _ k => XS.goto X3.here hx rfl (pc0 := 61) (pc' := 72) rfl (hb hby d1_61) (by decide) (by decide) k) ?_
      refine own_st (U' := (T3.setTop (mkF m 74 #[.val (.long q1), .second, .val (.int (own_ln q1)), .val (.int (own_ch q1 (2 : Int32))), .val (.int (own_ch q1 (10 : Int32))), .val (.int f), .val (.int (own_ln q1)), .val (.int (own_ch q1 (2 : Int32))), .unset] []))) (fun _ k => XS.istore X3.here hx rfl (hb hby d1_72) rfl (l' := #[.val (.long q1), .second, .val (.int (own_ln q1)), .val (.int (own_ch q1 (2 : Int32))), .val (.int (own_ch q1 (10 : Int32))), .val (.int f), .val (.int (own_ln q1)), .val (.int (own_ch q1 (2 : Int32))), .unset]) rfl k) ?_
      refine own_st (U' := (T3.setTop (mkF m 76 #[.val (.long q1), .second, .val (.int (own_ln q1)), .val (.int (own_ch q1 (2 : Int32))), .val (.int (own_ch q1 (10 : Int32))), .val (.int f), .val (.int (own_ln q1)), .val (.int (own_ch q1 (2 : Int32))), .unset] [(.int f)]))) (fun _ k => XS.iload X3.here hx rfl (hb hby d1_74) rfl k) ?_
      refine own_st (U' := (T3.setTop (mkF m 79 #[.val (.long q1), .second, .val (.int (own_ln q1)), .val (.int (own_ch q1 (2 : Int32))), .val (.int (own_ch q1 (10 : Int32))), .val (.int f), .val (.int (own_ln q1)), .val (.int (own_ch q1 (2 : Int32))), .unset] []))) (fun _ k => XS.ifNo X3.here hx rfl (hb hby d1_76) rfl ((if0 _ _).trans (feq c0).1) k) ?_
      refine own_st (U' := (T3.setTop (mkF m 81 #[.val (.long q1), .second, .val (.int (own_ln q1)), .val (.int (own_ch q1 (2 : Int32))), .val (.int (own_ch q1 (10 : Int32))), .val (.int f), .val (.int (own_ln q1)), .val (.int (own_ch q1 (2 : Int32))), .unset] [(.int (own_ch q1 (10 : Int32)))]))) (fun _ k => XS.iload X3.here hx rfl (hb hby d1_79) rfl k) ?_
      refine own_st (U' := (T3.setTop (mkF m 93 #[.val (.long q1), .second, .val (.int (own_ln q1)), .val (.int (own_ch q1 (2 : Int32))), .val (.int (own_ch q1 (10 : Int32))), .val (.int f), .val (.int (own_ln q1)), .val (.int (own_ch q1 (2 : Int32))), .unset] [(.int (own_ch q1 (10 : Int32)))]))) (fun _ k => XS.goto X3.here hx rfl (pc0 := 81) (pc' := 93) rfl (hb hby d1_81) (by decide) (by decide) k) ?_
      refine own_st (U' := (T3.setTop (mkF m 95 #[.val (.long q1), .second, .val (.int (own_ln q1)), .val (.int (own_ch q1 (2 : Int32))), .val (.int (own_ch q1 (10 : Int32))), .val (.int f), .val (.int (own_ln q1)), .val (.int (own_ch q1 (2 : Int32))), .val (.int (own_ch q1 (10 : Int32)))] []))) (fun _ k => XS.istore X3.here hx rfl (hb hby d1_93) rfl (l' := #[.val (.long q1), .second, .val (.int (own_ln q1)), .val (.int (own_ch q1 (2 : Int32))), .val (.int (own_ch q1 (10 : Int32))), .val (.int f), .val (.int (own_ln q1)), .val (.int (own_ch q1 (2 : Int32))), .val (.int (own_ch q1 (10 : Int32)))]) rfl k) ?_
      refine own_st (U' := (T3.setTop (mkF m 97 #[.val (.long q1), .second, .val (.int (own_ln q1)), .val (.int (own_ch q1 (2 : Int32))), .val (.int (own_ch q1 (10 : Int32))), .val (.int f), .val (.int (own_ln q1)), .val (.int (own_ch q1 (2 : Int32))), .val (.int (own_ch q1 (10 : Int32)))] [(.int (6 : Int32))]))) (fun _ k => XS.bipush X3.here hx rfl (hb hby d1_95) k) ?_
      obtain ⟨T14, h14, k14, X14, e14, E14, A14, st14⟩ := newP X3 hx hZ (hw _ (List.mem_of_getElem? (i := 12) rfl)) eq3 (g := (mkF m 97 #[.val (.long q1), .second, .val (.int (own_ln q1)), .val (.int (own_ch q1 (2 : Int32))), .val (.int (own_ch q1 (10 : Int32))), .val (.int f), .val (.int (own_ln q1)), .val (.int (own_ch q1 (2 : Int32))), .val (.int (own_ch q1 (10 : Int32)))] [(.int (6 : Int32))])) rfl (hb hby d1_97) rfl (by decide) (cap := 6) (by decide) (by decide) (by decide) (by decide)
      obtain ⟨b14, g14⟩ : ∃ z, z = h0.size := ⟨_, rfl⟩
      rw [← g14] at A14 st14
      have g_b14 : n0 ≤ b14 := Nat.le_trans Z0 (Nat.le_of_eq g14.symm)
      have sz_b14 : h0.size ≤ b14 := Nat.le_trans (Keep.refl h0 []).1 (Nat.le_of_eq g14.symm)
      have Z14 : n0 ≤ h14.size := Nat.le_trans Z0 E14.1
      have K14 := (Keep.refl h0 []).ext E14
      have V_b14 : own_A Z h14 b14 .int 6 (fun _ => defaultValue .int) := own_A.new A14 (by decide)
      refine own_st (U' := (T14.setTop (mkF m 99 #[.val (.long q1), .second, .val (.int (own_ln q1)), .val (.int (own_ch q1 (2 : Int32))), .val (.int (own_ch q1 (10 : Int32))), .val (.int f), .val (.int (own_ln q1)), .val (.int (own_ch q1 (2 : Int32))), .val (.int (own_ch q1 (10 : Int32)))] [(.ref b14)]))) st14 ?_
      refine own_st (U' := (T14.setTop (mkF m 100 #[.val (.long q1), .second, .val (.int (own_ln q1)), .val (.int (own_ch q1 (2 : Int32))), .val (.int (own_ch q1 (10 : Int32))), .val (.int f), .val (.int (own_ln q1)), .val (.int (own_ch q1 (2 : Int32))), .val (.int (own_ch q1 (10 : Int32)))] [(.ref b14), (.ref b14)]))) (fun _ k => XS.dup X14.here hx rfl (hb hby d1_99) rfl rfl k) ?_
      refine own_st (U' := (T14.setTop (mkF m 101 #[.val (.long q1), .second, .val (.int (own_ln q1)), .val (.int (own_ch q1 (2 : Int32))), .val (.int (own_ch q1 (10 : Int32))), .val (.int f), .val (.int (own_ln q1)), .val (.int (own_ch q1 (2 : Int32))), .val (.int (own_ch q1 (10 : Int32)))] [(.int (0 : Int32)), (.ref b14), (.ref b14)]))) (fun _ k => XS.iconst X14.here hx rfl (hb hby d1_100) k) ?_
      refine own_st (U' := (T14.setTop (mkF m 102 #[.val (.long q1), .second, .val (.int (own_ln q1)), .val (.int (own_ch q1 (2 : Int32))), .val (.int (own_ch q1 (10 : Int32))), .val (.int f), .val (.int (own_ln q1)), .val (.int (own_ch q1 (2 : Int32))), .val (.int (own_ch q1 (10 : Int32)))] [(.int (own_ln q1)), (.int (0 : Int32)), (.ref b14), (.ref b14)]))) (fun _ k => XS.iloadN X14.here hx rfl (hb hby d1_101) rfl k) ?_
      obtain ⟨T15, h15, X15, e15, W15, V15, st15⟩ := own_stI X14 hx hZ e14 V_b14 (j := (0 : Int32)) (i := 0) (by decide) rfl (by decide) (g := (mkF m 102 #[.val (.long q1), .second, .val (.int (own_ln q1)), .val (.int (own_ch q1 (2 : Int32))), .val (.int (own_ch q1 (10 : Int32))), .val (.int f), .val (.int (own_ln q1)), .val (.int (own_ch q1 (2 : Int32))), .val (.int (own_ch q1 (10 : Int32)))] [(.int (own_ln q1)), (.int (0 : Int32)), (.ref b14), (.ref b14)])) rfl rfl (hb hby d1_102)
      have V_b14 := V15
      have N15 := Fr.snoc X15 N3 g_b14
      have Z15 : n0 ≤ h15.size := Nat.le_trans Z14 (Nat.le_of_eq W15.size.symm)
      have K15 := K14.wr W15 (Or.inr sz_b14)
      refine own_st (U' := (T15.setTop (mkF m 103 #[.val (.long q1), .second, .val (.int (own_ln q1)), .val (.int (own_ch q1 (2 : Int32))), .val (.int (own_ch q1 (10 : Int32))), .val (.int f), .val (.int (own_ln q1)), .val (.int (own_ch q1 (2 : Int32))), .val (.int (own_ch q1 (10 : Int32)))] [(.ref b14)]))) st15 ?_
      refine own_st (U' := (T15.setTop (mkF m 104 #[.val (.long q1), .second, .val (.int (own_ln q1)), .val (.int (own_ch q1 (2 : Int32))), .val (.int (own_ch q1 (10 : Int32))), .val (.int f), .val (.int (own_ln q1)), .val (.int (own_ch q1 (2 : Int32))), .val (.int (own_ch q1 (10 : Int32)))] [(.ref b14), (.ref b14)]))) (fun _ k => XS.dup X15.here hx rfl (hb hby d1_103) rfl rfl k) ?_
      refine own_st (U' := (T15.setTop (mkF m 105 #[.val (.long q1), .second, .val (.int (own_ln q1)), .val (.int (own_ch q1 (2 : Int32))), .val (.int (own_ch q1 (10 : Int32))), .val (.int f), .val (.int (own_ln q1)), .val (.int (own_ch q1 (2 : Int32))), .val (.int (own_ch q1 (10 : Int32)))] [(.int (1 : Int32)), (.ref b14), (.ref b14)]))) (fun _ k => XS.iconst X15.here hx rfl (hb hby d1_104) k) ?_
      refine own_st (U' := (T15.setTop (mkF m 106 #[.val (.long q1), .second, .val (.int (own_ln q1)), .val (.int (own_ch q1 (2 : Int32))), .val (.int (own_ch q1 (10 : Int32))), .val (.int f), .val (.int (own_ln q1)), .val (.int (own_ch q1 (2 : Int32))), .val (.int (own_ch q1 (10 : Int32)))] [(.int (own_ch q1 (2 : Int32))), (.int (1 : Int32)), (.ref b14), (.ref b14)]))) (fun _ k => XS.iloadN X15.here hx rfl (hb hby d1_105) rfl k) ?_
      obtain ⟨T16, h16, X16, e16, W16, V16, st16⟩ := own_stI X15 hx hZ e15 V_b14 (j := (1 : Int32)) (i := 1) (by decide) rfl (by decide) (g := (mkF m 106 #[.val (.long q1), .second, .val (.int (own_ln q1)), .val (.int (own_ch q1 (2 : Int32))), .val (.int (own_ch q1 (10 : Int32))), .val (.int f), .val (.int (own_ln q1)), .val (.int (own_ch q1 (2 : Int32))), .val (.int (own_ch q1 (10 : Int32)))] [(.int (own_ch q1 (2 : Int32))), (.int (1 : Int32)), (.ref b14), (.ref b14)])) rfl rfl (hb hby d1_106)
      have V_b14 := V16
      have N16 := Fr.snoc X16 N15 g_b14
      have Z16 : n0 ≤ h16.size := Nat.le_trans Z15 (Nat.le_of_eq W16.size.symm)
      have K16 := K15.wr W16 (Or.inr sz_b14)
      refine own_st (U' := (T16.setTop (mkF m 107 #[.val (.long q1), .second, .val (.int (own_ln q1)), .val (.int (own_ch q1 (2 : Int32))), .val (.int (own_ch q1 (10 : Int32))), .val (.int f), .val (.int (own_ln q1)), .val (.int (own_ch q1 (2 : Int32))), .val (.int (own_ch q1 (10 : Int32)))] [(.ref b14)]))) st16 ?_
      refine own_st (U' := (T16.setTop (mkF m 108 #[.val (.long q1), .second, .val (.int (own_ln q1)), .val (.int (own_ch q1 (2 : Int32))), .val (.int (own_ch q1 (10 : Int32))), .val (.int f), .val (.int (own_ln q1)), .val (.int (own_ch q1 (2 : Int32))), .val (.int (own_ch q1 (10 : Int32)))] [(.ref b14), (.ref b14)]))) (fun _ k => XS.dup X16.here hx rfl (hb hby d1_107) rfl rfl k) ?_
      refine own_st (U' := (T16.setTop (mkF m 109 #[.val (.long q1), .second, .val (.int (own_ln q1)), .val (.int (own_ch q1 (2 : Int32))), .val (.int (own_ch q1 (10 : Int32))), .val (.int f), .val (.int (own_ln q1)), .val (.int (own_ch q1 (2 : Int32))), .val (.int (own_ch q1 (10 : Int32)))] [(.int (2 : Int32)), (.ref b14), (.ref b14)]))) (fun _ k => XS.iconst X16.here hx rfl (hb hby d1_108) k) ?_
      refine own_st (U' := (T16.setTop (mkF m 111 #[.val (.long q1), .second, .val (.int (own_ln q1)), .val (.int (own_ch q1 (2 : Int32))), .val (.int (own_ch q1 (10 : Int32))), .val (.int f), .val (.int (own_ln q1)), .val (.int (own_ch q1 (2 : Int32))), .val (.int (own_ch q1 (10 : Int32)))] [(.int (own_ch q1 (10 : Int32))), (.int (2 : Int32)), (.ref b14), (.ref b14)]))) (fun _ k => XS.iload X16.here hx rfl (hb hby d1_109) rfl k) ?_
      obtain ⟨T17, h17, X17, e17, W17, V17, st17⟩ := own_stI X16 hx hZ e16 V_b14 (j := (2 : Int32)) (i := 2) (by decide) rfl (by decide) (g := (mkF m 111 #[.val (.long q1), .second, .val (.int (own_ln q1)), .val (.int (own_ch q1 (2 : Int32))), .val (.int (own_ch q1 (10 : Int32))), .val (.int f), .val (.int (own_ln q1)), .val (.int (own_ch q1 (2 : Int32))), .val (.int (own_ch q1 (10 : Int32)))] [(.int (own_ch q1 (10 : Int32))), (.int (2 : Int32)), (.ref b14), (.ref b14)])) rfl rfl (hb hby d1_111)
      have V_b14 := V17
      have N17 := Fr.snoc X17 N16 g_b14
      have Z17 : n0 ≤ h17.size := Nat.le_trans Z16 (Nat.le_of_eq W17.size.symm)
      have K17 := K16.wr W17 (Or.inr sz_b14)
      refine own_st (U' := (T17.setTop (mkF m 112 #[.val (.long q1), .second, .val (.int (own_ln q1)), .val (.int (own_ch q1 (2 : Int32))), .val (.int (own_ch q1 (10 : Int32))), .val (.int f), .val (.int (own_ln q1)), .val (.int (own_ch q1 (2 : Int32))), .val (.int (own_ch q1 (10 : Int32)))] [(.ref b14)]))) st17 ?_
      refine own_st (U' := (T17.setTop (mkF m 113 #[.val (.long q1), .second, .val (.int (own_ln q1)), .val (.int (own_ch q1 (2 : Int32))), .val (.int (own_ch q1 (10 : Int32))), .val (.int f), .val (.int (own_ln q1)), .val (.int (own_ch q1 (2 : Int32))), .val (.int (own_ch q1 (10 : Int32)))] [(.ref b14), (.ref b14)]))) (fun _ k => XS.dup X17.here hx rfl (hb hby d1_112) rfl rfl k) ?_
      refine own_st (U' := (T17.setTop (mkF m 114 #[.val (.long q1), .second, .val (.int (own_ln q1)), .val (.int (own_ch q1 (2 : Int32))), .val (.int (own_ch q1 (10 : Int32))), .val (.int f), .val (.int (own_ln q1)), .val (.int (own_ch q1 (2 : Int32))), .val (.int (own_ch q1 (10 : Int32)))] [(.int (3 : Int32)), (.ref b14), (.ref b14)]))) (fun _ k => XS.iconst X17.here hx rfl (hb hby d1_113) k) ?_
      refine own_st (U' := (T17.setTop (mkF m 116 #[.val (.long q1), .second, .val (.int (own_ln q1)), .val (.int (own_ch q1 (2 : Int32))), .val (.int (own_ch q1 (10 : Int32))), .val (.int f), .val (.int (own_ln q1)), .val (.int (own_ch q1 (2 : Int32))), .val (.int (own_ch q1 (10 : Int32)))] [(.int (own_ln q1)), (.int (3 : Int32)), (.ref b14), (.ref b14)]))) (fun _ k => XS.iload X17.here hx rfl (hb hby d1_114) rfl k) ?_
      obtain ⟨T18, h18, X18, e18, W18, V18, st18⟩ := own_stI X17 hx hZ e17 V_b14 (j := (3 : Int32)) (i := 3) (by decide) rfl (by decide) (g := (mkF m 116 #[.val (.long q1), .second, .val (.int (own_ln q1)), .val (.int (own_ch q1 (2 : Int32))), .val (.int (own_ch q1 (10 : Int32))), .val (.int f), .val (.int (own_ln q1)), .val (.int (own_ch q1 (2 : Int32))), .val (.int (own_ch q1 (10 : Int32)))] [(.int (own_ln q1)), (.int (3 : Int32)), (.ref b14), (.ref b14)])) rfl rfl (hb hby d1_116)
      have V_b14 := V18
      have N18 := Fr.snoc X18 N17 g_b14
      have Z18 : n0 ≤ h18.size := Nat.le_trans Z17 (Nat.le_of_eq W18.size.symm)
      have K18 := K17.wr W18 (Or.inr sz_b14)
      refine own_st (U' := (T18.setTop (mkF m 117 #[.val (.long q1), .second, .val (.int (own_ln q1)), .val (.int (own_ch q1 (2 : Int32))), .val (.int (own_ch q1 (10 : Int32))), .val (.int f), .val (.int (own_ln q1)), .val (.int (own_ch q1 (2 : Int32))), .val (.int (own_ch q1 (10 : Int32)))] [(.ref b14)]))) st18 ?_
      refine own_st (U' := (T18.setTop (mkF m 118 #[.val (.long q1), .second, .val (.int (own_ln q1)), .val (.int (own_ch q1 (2 : Int32))), .val (.int (own_ch q1 (10 : Int32))), .val (.int f), .val (.int (own_ln q1)), .val (.int (own_ch q1 (2 : Int32))), .val (.int (own_ch q1 (10 : Int32)))] [(.ref b14), (.ref b14)]))) (fun _ k => XS.dup X18.here hx rfl (hb hby d1_117) rfl rfl k) ?_
      refine own_st (U' := (T18.setTop (mkF m 119 #[.val (.long q1), .second, .val (.int (own_ln q1)), .val (.int (own_ch q1 (2 : Int32))), .val (.int (own_ch q1 (10 : Int32))), .val (.int f), .val (.int (own_ln q1)), .val (.int (own_ch q1 (2 : Int32))), .val (.int (own_ch q1 (10 : Int32)))] [(.int (4 : Int32)), (.ref b14), (.ref b14)]))) (fun _ k => XS.iconst X18.here hx rfl (hb hby d1_118) k) ?_
      refine own_st (U' := (T18.setTop (mkF m 121 #[.val (.long q1), .second, .val (.int (own_ln q1)), .val (.int (own_ch q1 (2 : Int32))), .val (.int (own_ch q1 (10 : Int32))), .val (.int f), .val (.int (own_ln q1)), .val (.int (own_ch q1 (2 : Int32))), .val (.int (own_ch q1 (10 : Int32)))] [(.int (own_ch q1 (2 : Int32))), (.int (4 : Int32)), (.ref b14), (.ref b14)]))) (fun _ k => XS.iload X18.here hx rfl (hb hby d1_119) rfl k) ?_
      obtain ⟨T19, h19, X19, e19, W19, V19, st19⟩ := own_stI X18 hx hZ e18 V_b14 (j := (4 : Int32)) (i := 4) (by decide) rfl (by decide) (g := (mkF m 121 #[.val (.long q1), .second, .val (.int (own_ln q1)), .val (.int (own_ch q1 (2 : Int32))), .val (.int (own_ch q1 (10 : Int32))), .val (.int f), .val (.int (own_ln q1)), .val (.int (own_ch q1 (2 : Int32))), .val (.int (own_ch q1 (10 : Int32)))] [(.int (own_ch q1 (2 : Int32))), (.int (4 : Int32)), (.ref b14), (.ref b14)])) rfl rfl (hb hby d1_121)
      have V_b14 := V19
      have N19 := Fr.snoc X19 N18 g_b14
      have Z19 : n0 ≤ h19.size := Nat.le_trans Z18 (Nat.le_of_eq W19.size.symm)
      have K19 := K18.wr W19 (Or.inr sz_b14)
      refine own_st (U' := (T19.setTop (mkF m 122 #[.val (.long q1), .second, .val (.int (own_ln q1)), .val (.int (own_ch q1 (2 : Int32))), .val (.int (own_ch q1 (10 : Int32))), .val (.int f), .val (.int (own_ln q1)), .val (.int (own_ch q1 (2 : Int32))), .val (.int (own_ch q1 (10 : Int32)))] [(.ref b14)]))) st19 ?_
      refine own_st (U' := (T19.setTop (mkF m 123 #[.val (.long q1), .second, .val (.int (own_ln q1)), .val (.int (own_ch q1 (2 : Int32))), .val (.int (own_ch q1 (10 : Int32))), .val (.int f), .val (.int (own_ln q1)), .val (.int (own_ch q1 (2 : Int32))), .val (.int (own_ch q1 (10 : Int32)))] [(.ref b14), (.ref b14)]))) (fun _ k => XS.dup X19.here hx rfl (hb hby d1_122) rfl rfl k) ?_
      refine own_st (U' := (T19.setTop (mkF m 124 #[.val (.long q1), .second, .val (.int (own_ln q1)), .val (.int (own_ch q1 (2 : Int32))), .val (.int (own_ch q1 (10 : Int32))), .val (.int f), .val (.int (own_ln q1)), .val (.int (own_ch q1 (2 : Int32))), .val (.int (own_ch q1 (10 : Int32)))] [(.int (5 : Int32)), (.ref b14), (.ref b14)]))) (fun _ k => XS.iconst X19.here hx rfl (hb hby d1_123) k) ?_
      refine own_st (U' := (T19.setTop (mkF m 126 #[.val (.long q1), .second, .val (.int (own_ln q1)), .val (.int (own_ch q1 (2 : Int32))), .val (.int (own_ch q1 (10 : Int32))), .val (.int f), .val (.int (own_ln q1)), .val (.int (own_ch q1 (2 : Int32))), .val (.int (own_ch q1 (10 : Int32)))] [(.int (own_ch q1 (10 : Int32))), (.int (5 : Int32)), (.ref b14), (.ref b14)]))) (fun _ k => XS.iload X19.here hx rfl (hb hby d1_124) rfl k) ?_
      obtain ⟨T20, h20, X20, e20, W20, V20, st20⟩ := own_stI X19 hx hZ e19 V_b14 (j := (5 : Int32)) (i := 5) (by decide) rfl (by decide) (g := (mkF m 126 #[.val (.long q1), .second, .val (.int (own_ln q1)), .val (.int (own_ch q1 (2 : Int32))), .val (.int (own_ch q1 (10 : Int32))), .val (.int f), .val (.int (own_ln q1)), .val (.int (own_ch q1 (2 : Int32))), .val (.int (own_ch q1 (10 : Int32)))] [(.int (own_ch q1 (10 : Int32))), (.int (5 : Int32)), (.ref b14), (.ref b14)])) rfl rfl (hb hby d1_126)
      have V_b14 := V20
      have N20 := Fr.snoc X20 N19 g_b14
      have Z20 : n0 ≤ h20.size := Nat.le_trans Z19 (Nat.le_of_eq W20.size.symm)
      have K20 := K19.wr W20 (Or.inr sz_b14)
      refine own_st (U' := (T20.setTop (mkF m 127 #[.val (.long q1), .second, .val (.int (own_ln q1)), .val (.int (own_ch q1 (2 : Int32))), .val (.int (own_ch q1 (10 : Int32))), .val (.int f), .val (.int (own_ln q1)), .val (.int (own_ch q1 (2 : Int32))), .val (.int (own_ch q1 (10 : Int32)))] [(.ref b14)]))) st20 ?_
      have V_b14 : own_A Z h20 b14 .int 6 (own_L [(own_ln q1), (own_ch q1 (2 : Int32)), (own_ch q1 (10 : Int32)), (own_ln q1), (own_ch q1 (2 : Int32)), (own_ch q1 (10 : Int32))]) := V_b14.congr (by intro j hj; rcases j with _ | _ | _ | _ | _ | _ | j <;> first | rfl | omega)
      exact own_retA X20 hx (t := (.array .int)) Bd.returns Bd.notSynchronized rfl rfl (hb hby d1_127) (by decide) (by decide) (⟨b14, (own_ln q1), (own_ch q1 (2 : Int32)), (own_ch q1 (10 : Int32)), (own_ln q1), (own_ch q1 (2 : Int32)), (own_ch q1 (10 : Int32)), rfl, N20, by rw [e20]; exact K20, sz_b14, ⟨own_ln_three _, own_ln_three _, own_and255 _, own_and255 _, own_and255 _, own_and255 _⟩, by rw [e20]; exact V_b14⟩)
  by_cases c1 : (lcmpW (((q1.toUInt64 >>> ((18 : Int32) &&& 0x3f).toInt64.toUInt64).toInt64) &&& (1 : Int64)) (0 : Int64)) = (0 : Int32)
  · skip
    refine own_st (U' := (T3.setTop (mkF m 34 #[.val (.long q1), .second, .val (.int (own_ln q1)), .val (.int (own_ch q1 (2 : Int32))), .val (.int (own_ch q1 (10 : Int32))), .unset, .unset, .unset, .unset] []))) (fun _ k => XS.ifYes X3.here hx rfl (pc0 := 27) (pc' := 34) rfl (hb hby d1_27) rfl ((if0 _ _).trans (teq c1).1) (by decide) (by decide) k) ?_
    refine own_st (U' := (T3.setTop (mkF m 35 #[.val (.long q1), .second, .val (.int (own_ln q1)), .val (.int (own_ch q1 (2 : Int32))), .val (.int (own_ch q1 (10 : Int32))), .unset, .unset, .unset, .unset] [(.int (0 : Int32))]))) (fun _ k => XS.iconst X3.here hx rfl (hb hby d1_34) k) ?_
    exact tail _
  · skip
    refine own_st (U' := (T3.setTop (mkF m 30 #[.val (.long q1), .second, .val (.int (own_ln q1)), .val (.int (own_ch q1 (2 : Int32))), .val (.int (own_ch q1 (10 : Int32))), .unset, .unset, .unset, .unset] []))) (fun _ k => XS.ifNo X3.here hx rfl (hb hby d1_27) rfl ((if0 _ _).trans (feq c1).1) k) ?_
    refine own_st (U' := (T3.setTop (mkF m 31 #[.val (.long q1), .second, .val (.int (own_ln q1)), .val (.int (own_ch q1 (2 : Int32))), .val (.int (own_ch q1 (10 : Int32))), .unset, .unset, .unset, .unset] [(.int (1 : Int32))]))) (fun _ k => XS.iconst X3.here hx rfl (hb hby d1_30) k) ?_
    refine own_st (U' := (T3.setTop (mkF m 35 #[.val (.long q1), .second, .val (.int (own_ln q1)), .val (.int (own_ch q1 (2 : Int32))), .val (.int (own_ch q1 (10 : Int32))), .unset, .unset, .unset, .unset] [(.int (1 : Int32))]))) (fun _ k => XS.goto X3.here hx rfl (pc0 := 31) (pc' := 35) rfl (hb hby d1_31) (by decide) (by decide) k) ?_
    exact tail _
theorem d14_0 : decode method_7_code 0 = .ok (.aload_n 0, 1) := by decide +kernel
theorem d14_1 : decode method_7_code 1 = .ok (.iconst 0, 1) := by decide +kernel
theorem d14_2 : decode method_7_code 2 = .ok (.iaload, 1) := by decide +kernel
theorem d14_3 : decode method_7_code 3 = .ok (.aload_n 0, 1) := by decide +kernel
theorem d14_4 : decode method_7_code 4 = .ok (.iconst 3, 1) := by decide +kernel
theorem d14_5 : decode method_7_code 5 = .ok (.iaload, 1) := by decide +kernel
theorem d14_6 : decode method_7_code 6 = .ok (.if_icmp .ne 39, 3) := by decide +kernel
theorem d14_9 : decode method_7_code 9 = .ok (.aload_n 0, 1) := by decide +kernel
theorem d14_10 : decode method_7_code 10 = .ok (.iconst 0, 1) := by decide +kernel
theorem d14_11 : decode method_7_code 11 = .ok (.iaload, 1) := by decide +kernel
theorem d14_12 : decode method_7_code 12 = .ok (.iconst 1, 1) := by decide +kernel
theorem d14_13 : decode method_7_code 13 = .ok (.if_icmp .lt 12, 3) := by decide +kernel
theorem d14_16 : decode method_7_code 16 = .ok (.aload_n 0, 1) := by decide +kernel
theorem d14_17 : decode method_7_code 17 = .ok (.iconst 1, 1) := by decide +kernel
theorem d14_18 : decode method_7_code 18 = .ok (.iaload, 1) := by decide +kernel
theorem d14_19 : decode method_7_code 19 = .ok (.aload_n 0, 1) := by decide +kernel
theorem d14_20 : decode method_7_code 20 = .ok (.iconst 4, 1) := by decide +kernel
theorem d14_21 : decode method_7_code 21 = .ok (.iaload, 1) := by decide +kernel
theorem d14_22 : decode method_7_code 22 = .ok (.if_icmp .ne 23, 3) := by decide +kernel
theorem d14_25 : decode method_7_code 25 = .ok (.aload_n 0, 1) := by decide +kernel
theorem d14_26 : decode method_7_code 26 = .ok (.iconst 0, 1) := by decide +kernel
theorem d14_27 : decode method_7_code 27 = .ok (.iaload, 1) := by decide +kernel
theorem d14_28 : decode method_7_code 28 = .ok (.iconst 2, 1) := by decide +kernel
theorem d14_29 : decode method_7_code 29 = .ok (.if_icmp .lt 12, 3) := by decide +kernel
theorem d14_32 : decode method_7_code 32 = .ok (.aload_n 0, 1) := by decide +kernel
theorem d14_33 : decode method_7_code 33 = .ok (.iconst 2, 1) := by decide +kernel
theorem d14_34 : decode method_7_code 34 = .ok (.iaload, 1) := by decide +kernel
theorem d14_35 : decode method_7_code 35 = .ok (.aload_n 0, 1) := by decide +kernel
theorem d14_36 : decode method_7_code 36 = .ok (.iconst 5, 1) := by decide +kernel
theorem d14_37 : decode method_7_code 37 = .ok (.iaload, 1) := by decide +kernel
theorem d14_38 : decode method_7_code 38 = .ok (.if_icmp .ne 7, 3) := by decide +kernel
theorem d14_41 : decode method_7_code 41 = .ok (.iconst 1, 1) := by decide +kernel
theorem d14_42 : decode method_7_code 42 = .ok (.goto 4, 3) := by decide +kernel
theorem d14_45 : decode method_7_code 45 = .ok (.iconst 0, 1) := by decide +kernel
theorem d14_46 : decode method_7_code 46 = .ok (.ireturn, 1) := by decide +kernel
theorem pn_rmSame : plainName "com/example/quorum/quorum/ValidationFailureEqualsPinLaw" = true := by first | (simp [plainName, overriddenIn]; done) | decide +kernel
theorem pd_d14 : parseMethodDescriptor "([I)Z" = some ⟨[(.array .int)], some .boolean⟩ := by decide +kernel
theorem ef_rmSame (m : MethodId) (x0 : Addr) : entryFrame m #[(.ref x0)] 1 = mkF m 0 #[.val (.ref x0)] [] := by first | (simp [entryFrame, mkF, argsToLocals, Value.category, maxLocals]; done) | rfl
def Q_rmSame (Z : State) (a : Addr) (l1 : Int32) (a0' : Int32) (a1 : Int32) (l2 : Int32) (b0 : Int32) (b1 : Int32) (h0 : Heap) (n0 : Nat) (v : Option Value) (h : Heap) (L : List Loc) : Prop := v = some (.int (own_b (own_same l1 a0' a1 l2 b0 b1))) ∧ Fr n0 L ∧ h = h0
set_option maxRecDepth 65536 in
set_option maxHeartbeats 40000000 in
theorem rmSame (l : Launch) (Z : State) (a0 : Array Value) (hw : ∀ d ∈ tables_1, d.before a0 Z = true) (ws : List Jvm.Cond) (a : Addr) (l1 : Int32) (a0' : Int32) (a1 : Int32) (l2 : Int32) (b0 : Int32) (b1 : Int32) (h0 : Heap) (n0 : Nat) (Z0 : n0 ≤ h0.size) (V1 : own_A Z h0 a .int 6 (own_L [l1, a0', a1, l2, b0, b1])) :
    MetFree l (⟨"com/example/quorum/quorum/ValidationFailureEqualsPinLaw", "same", "([I)Z"⟩ : MethodName) (head1 (Jvm.Cond.code (⟨"com/example/quorum/quorum/ValidationFailureEqualsPinLaw", "same", "([I)Z"⟩ : MethodName) method_7_code 1 (some .boolean) :: ws) ({ frames := 0, cells := 0, slots := 0, locals := 0 } : Room)) (fun as1 U => as1 = #[(.ref a)] ∧ Z.Warmed39 U.vm ∧ U.heap = h0) (fun _ _ _ _ _ => True) (fun _ U o U' => ∃ v L, o = .returned v ∧ Q_rmSame Z a l1 a0' a1 l2 b0 b1 h0 n0 v U'.heap L ∧ FrameEnd U o U' L ({ frames := 0, cells := 0, slots := 0, locals := 0 } : Room).cells ({ frames := 0, cells := 0, slots := 0, locals := 0 } : Room).slots) := by
  refine MetFree.of_bodySF (plainFor_of_name pn_rmSame) hisR ?_
  intro p e s m args below meth c s₁ Bd hml0 hP hK
  obtain ⟨rfl, hZ, hh⟩ := hP
  have hx := Bd.exec
  have hby := Bd.bytes
  have hml : c.maxLocals = 1 := hml0
  have hown : s.vm.findClass "com/example/quorum/quorum/ValidationFailureEqualsPinLaw" = some m.cls := findClass_of_methodNamed Bd.named
  have hnm := (name_of_methodNamed Bd.named Bd.method).1
  have X0 : Stand p l e ({ frames := 0, cells := 0, slots := 0, locals := 0 } : Room) s m #[(.ref a)] below meth c s₁ [] 0 0 := Stand.of_body Bd
  have e0 : s₁.heap = h0 := by rw [← hh, Bd.state]; rfl
  have N0 := Fr.nil n0
  show own_Ends p e s below (Q_rmSame Z a l1 a0' a1 l2 b0 b1 h0 n0) ({ frames := 0, cells := 0, slots := 0, locals := 0 } : Room).cells ({ frames := 0, cells := 0, slots := 0, locals := 0 } : Room).slots (s₁.setTop (entryFrame m #[(.ref a)] 1))
  refine own_st (U' := (s₁.setTop (mkF m 0 #[.val (.ref a)] []))) (fun _ k => castTop (ef_rmSame m a) k) ?_
  refine own_st (U' := (s₁.setTop (mkF m 1 #[.val (.ref a)] [(.ref a)]))) (fun _ k => XS.aloadN X0.here hx rfl (hb hby d14_0) rfl rfl k) ?_
  refine own_st (U' := (s₁.setTop (mkF m 2 #[.val (.ref a)] [(.int (0 : Int32)), (.ref a)]))) (fun _ k => XS.iconst X0.here hx rfl (hb hby d14_1) k) ?_
  refine own_st (U' := (s₁.setTop (mkF m 3 #[.val (.ref a)] [(.int l1)]))) (own_ldI X0 hx hZ e0 V1 (j := (0 : Int32)) (i := 0) (by decide) rfl (by decide) (v := (.int l1)) rfl (g := (mkF m 2 #[.val (.ref a)] [(.int (0 : Int32)), (.ref a)])) rfl rfl (hb hby d14_2)) ?_
  refine own_st (U' := (s₁.setTop (mkF m 4 #[.val (.ref a)] [(.ref a), (.int l1)]))) (fun _ k => XS.aloadN X0.here hx rfl (hb hby d14_3) rfl rfl k) ?_
  refine own_st (U' := (s₁.setTop (mkF m 5 #[.val (.ref a)] [(.int (3 : Int32)), (.ref a), (.int l1)]))) (fun _ k => XS.iconst X0.here hx rfl (hb hby d14_4) k) ?_
  refine own_st (U' := (s₁.setTop (mkF m 6 #[.val (.ref a)] [(.int l2), (.int l1)]))) (own_ldI X0 hx hZ e0 V1 (j := (3 : Int32)) (i := 3) (by decide) rfl (by decide) (v := (.int l2)) rfl (g := (mkF m 5 #[.val (.ref a)] [(.int (3 : Int32)), (.ref a), (.int l1)])) rfl rfl (hb hby d14_5)) ?_
  by_cases c1 : l1 = l2
  · skip
    refine own_st (U' := (s₁.setTop (mkF m 9 #[.val (.ref a)] []))) (fun _ k => XS.icmpNo X0.here hx rfl (hb hby d14_6) rfl (teq c1).2 k) ?_
    refine own_st (U' := (s₁.setTop (mkF m 10 #[.val (.ref a)] [(.ref a)]))) (fun _ k => XS.aloadN X0.here hx rfl (hb hby d14_9) rfl rfl k) ?_
    refine own_st (U' := (s₁.setTop (mkF m 11 #[.val (.ref a)] [(.int (0 : Int32)), (.ref a)]))) (fun _ k => XS.iconst X0.here hx rfl (hb hby d14_10) k) ?_
    refine own_st (U' := (s₁.setTop (mkF m 12 #[.val (.ref a)] [(.int l1)]))) (own_ldI X0 hx hZ e0 V1 (j := (0 : Int32)) (i := 0) (by decide) rfl (by decide) (v := (.int l1)) rfl (g := (mkF m 11 #[.val (.ref a)] [(.int (0 : Int32)), (.ref a)])) rfl rfl (hb hby d14_11)) ?_
    refine own_st (U' := (s₁.setTop (mkF m 13 #[.val (.ref a)] [(.int (1 : Int32)), (.int l1)]))) (fun _ k => XS.iconst X0.here hx rfl (hb hby d14_12) k) ?_
    by_cases c2 : l1 < (1 : Int32)
    · skip
      refine own_st (U' := (s₁.setTop (mkF m 25 #[.val (.ref a)] []))) (fun _ k => XS.icmpYes X0.here hx rfl (pc0 := 13) (pc' := 25) rfl (hb hby d14_13) rfl (tlt c2).1 (by decide) (by decide) k) ?_
      refine own_st (U' := (s₁.setTop (mkF m 26 #[.val (.ref a)] [(.ref a)]))) (fun _ k => XS.aloadN X0.here hx rfl (hb hby d14_25) rfl rfl k) ?_
      refine own_st (U' := (s₁.setTop (mkF m 27 #[.val (.ref a)] [(.int (0 : Int32)), (.ref a)]))) (fun _ k => XS.iconst X0.here hx rfl (hb hby d14_26) k) ?_
      refine own_st (U' := (s₁.setTop (mkF m 28 #[.val (.ref a)] [(.int l1)]))) (own_ldI X0 hx hZ e0 V1 (j := (0 : Int32)) (i := 0) (by decide) rfl (by decide) (v := (.int l1)) rfl (g := (mkF m 27 #[.val (.ref a)] [(.int (0 : Int32)), (.ref a)])) rfl rfl (hb hby d14_27)) ?_
      refine own_st (U' := (s₁.setTop (mkF m 29 #[.val (.ref a)] [(.int (2 : Int32)), (.int l1)]))) (fun _ k => XS.iconst X0.here hx rfl (hb hby d14_28) k) ?_
      by_cases c4 : l1 < (2 : Int32)
      · skip
        refine own_st (U' := (s₁.setTop (mkF m 41 #[.val (.ref a)] []))) (fun _ k => XS.icmpYes X0.here hx rfl (pc0 := 29) (pc' := 41) rfl (hb hby d14_29) rfl (tlt c4).1 (by decide) (by decide) k) ?_
        have q : own_b (own_same l1 a0' a1 l2 b0 b1) = 1 := by subst c1; simp [own_b, own_same, c2, c4]
        refine own_st (U' := (s₁.setTop (mkF m 42 #[.val (.ref a)] [(.int (1 : Int32))]))) (fun _ k => XS.iconst X0.here hx rfl (hb hby d14_41) k) ?_
        refine own_st (U' := (s₁.setTop (mkF m 46 #[.val (.ref a)] [(.int (1 : Int32))]))) (fun _ k => XS.goto X0.here hx rfl (pc0 := 42) (pc' := 46) rfl (hb hby d14_42) (by decide) (by decide) k) ?_
        exact own_retN X0 hx (t := .boolean) Bd.returns Bd.notSynchronized (by simp) rfl (hb hby d14_46) (by decide) (by decide) (⟨by rw [q], N0, e0⟩)
      · skip
        refine own_st (U' := (s₁.setTop (mkF m 32 #[.val (.ref a)] []))) (fun _ k => XS.icmpNo X0.here hx rfl (hb hby d14_29) rfl (flt c4).1 k) ?_
        refine own_st (U' := (s₁.setTop (mkF m 33 #[.val (.ref a)] [(.ref a)]))) (fun _ k => XS.aloadN X0.here hx rfl (hb hby d14_32) rfl rfl k) ?_
        refine own_st (U' := (s₁.setTop (mkF m 34 #[.val (.ref a)] [(.int (2 : Int32)), (.ref a)]))) (fun _ k => XS.iconst X0.here hx rfl (hb hby d14_33) k) ?_
        refine own_st (U' := (s₁.setTop (mkF m 35 #[.val (.ref a)] [(.int a1)]))) (own_ldI X0 hx hZ e0 V1 (j := (2 : Int32)) (i := 2) (by decide) rfl (by decide) (v := (.int a1)) rfl (g := (mkF m 34 #[.val (.ref a)] [(.int (2 : Int32)), (.ref a)])) rfl rfl (hb hby d14_34)) ?_
        refine own_st (U' := (s₁.setTop (mkF m 36 #[.val (.ref a)] [(.ref a), (.int a1)]))) (fun _ k => XS.aloadN X0.here hx rfl (hb hby d14_35) rfl rfl k) ?_
        refine own_st (U' := (s₁.setTop (mkF m 37 #[.val (.ref a)] [(.int (5 : Int32)), (.ref a), (.int a1)]))) (fun _ k => XS.iconst X0.here hx rfl (hb hby d14_36) k) ?_
        refine own_st (U' := (s₁.setTop (mkF m 38 #[.val (.ref a)] [(.int b1), (.int a1)]))) (own_ldI X0 hx hZ e0 V1 (j := (5 : Int32)) (i := 5) (by decide) rfl (by decide) (v := (.int b1)) rfl (g := (mkF m 37 #[.val (.ref a)] [(.int (5 : Int32)), (.ref a), (.int a1)])) rfl rfl (hb hby d14_37)) ?_
        by_cases c5 : a1 = b1
        · skip
          refine own_st (U' := (s₁.setTop (mkF m 41 #[.val (.ref a)] []))) (fun _ k => XS.icmpNo X0.here hx rfl (hb hby d14_38) rfl (teq c5).2 k) ?_
          have q : own_b (own_same l1 a0' a1 l2 b0 b1) = 1 := by subst c1; simp [own_b, own_same, c2, c4, c5]
          refine own_st (U' := (s₁.setTop (mkF m 42 #[.val (.ref a)] [(.int (1 : Int32))]))) (fun _ k => XS.iconst X0.here hx rfl (hb hby d14_41) k) ?_
          refine own_st (U' := (s₁.setTop (mkF m 46 #[.val (.ref a)] [(.int (1 : Int32))]))) (fun _ k => XS.goto X0.here hx rfl (pc0 := 42) (pc' := 46) rfl (hb hby d14_42) (by decide) (by decide) k) ?_
          exact own_retN X0 hx (t := .boolean) Bd.returns Bd.notSynchronized (by simp) rfl (hb hby d14_46) (by decide) (by decide) (⟨by rw [q], N0, e0⟩)
        · skip
          refine own_st (U' := (s₁.setTop (mkF m 45 #[.val (.ref a)] []))) (fun _ k => XS.icmpYes X0.here hx rfl (pc0 := 38) (pc' := 45) rfl (hb hby d14_38) rfl (feq c5).2 (by decide) (by decide) k) ?_
          have q : own_b (own_same l1 a0' a1 l2 b0 b1) = 0 := by subst c1; simp [own_b, own_same, c2, c4, c5]
          refine own_st (U' := (s₁.setTop (mkF m 46 #[.val (.ref a)] [(.int (0 : Int32))]))) (fun _ k => XS.iconst X0.here hx rfl (hb hby d14_45) k) ?_
          exact own_retN X0 hx (t := .boolean) Bd.returns Bd.notSynchronized (by simp) rfl (hb hby d14_46) (by decide) (by decide) (⟨by rw [q], N0, e0⟩)
    · skip
      refine own_st (U' := (s₁.setTop (mkF m 16 #[.val (.ref a)] []))) (fun _ k => XS.icmpNo X0.here hx rfl (hb hby d14_13) rfl (flt c2).1 k) ?_
      refine own_st (U' := (s₁.setTop (mkF m 17 #[.val (.ref a)] [(.ref a)]))) (fun _ k => XS.aloadN X0.here hx rfl (hb hby d14_16) rfl rfl k) ?_
      refine own_st (U' := (s₁.setTop (mkF m 18 #[.val (.ref a)] [(.int (1 : Int32)), (.ref a)]))) (fun _ k => XS.iconst X0.here hx rfl (hb hby d14_17) k) ?_
      refine own_st (U' := (s₁.setTop (mkF m 19 #[.val (.ref a)] [(.int a0')]))) (own_ldI X0 hx hZ e0 V1 (j := (1 : Int32)) (i := 1) (by decide) rfl (by decide) (v := (.int a0')) rfl (g := (mkF m 18 #[.val (.ref a)] [(.int (1 : Int32)), (.ref a)])) rfl rfl (hb hby d14_18)) ?_
      refine own_st (U' := (s₁.setTop (mkF m 20 #[.val (.ref a)] [(.ref a), (.int a0')]))) (fun _ k => XS.aloadN X0.here hx rfl (hb hby d14_19) rfl rfl k) ?_
      refine own_st (U' := (s₁.setTop (mkF m 21 #[.val (.ref a)] [(.int (4 : Int32)), (.ref a), (.int a0')]))) (fun _ k => XS.iconst X0.here hx rfl (hb hby d14_20) k) ?_
      refine own_st (U' := (s₁.setTop (mkF m 22 #[.val (.ref a)] [(.int b0), (.int a0')]))) (own_ldI X0 hx hZ e0 V1 (j := (4 : Int32)) (i := 4) (by decide) rfl (by decide) (v := (.int b0)) rfl (g := (mkF m 21 #[.val (.ref a)] [(.int (4 : Int32)), (.ref a), (.int a0')])) rfl rfl (hb hby d14_21)) ?_
      by_cases c3 : a0' = b0
      · skip
        refine own_st (U' := (s₁.setTop (mkF m 25 #[.val (.ref a)] []))) (fun _ k => XS.icmpNo X0.here hx rfl (hb hby d14_22) rfl (teq c3).2 k) ?_
        refine own_st (U' := (s₁.setTop (mkF m 26 #[.val (.ref a)] [(.ref a)]))) (fun _ k => XS.aloadN X0.here hx rfl (hb hby d14_25) rfl rfl k) ?_
        refine own_st (U' := (s₁.setTop (mkF m 27 #[.val (.ref a)] [(.int (0 : Int32)), (.ref a)]))) (fun _ k => XS.iconst X0.here hx rfl (hb hby d14_26) k) ?_
        refine own_st (U' := (s₁.setTop (mkF m 28 #[.val (.ref a)] [(.int l1)]))) (own_ldI X0 hx hZ e0 V1 (j := (0 : Int32)) (i := 0) (by decide) rfl (by decide) (v := (.int l1)) rfl (g := (mkF m 27 #[.val (.ref a)] [(.int (0 : Int32)), (.ref a)])) rfl rfl (hb hby d14_27)) ?_
        refine own_st (U' := (s₁.setTop (mkF m 29 #[.val (.ref a)] [(.int (2 : Int32)), (.int l1)]))) (fun _ k => XS.iconst X0.here hx rfl (hb hby d14_28) k) ?_
        by_cases c4 : l1 < (2 : Int32)
        · skip
          refine own_st (U' := (s₁.setTop (mkF m 41 #[.val (.ref a)] []))) (fun _ k => XS.icmpYes X0.here hx rfl (pc0 := 29) (pc' := 41) rfl (hb hby d14_29) rfl (tlt c4).1 (by decide) (by decide) k) ?_
          have q : own_b (own_same l1 a0' a1 l2 b0 b1) = 1 := by subst c1; simp [own_b, own_same, c2, c3, c4]
          refine own_st (U' := (s₁.setTop (mkF m 42 #[.val (.ref a)] [(.int (1 : Int32))]))) (fun _ k => XS.iconst X0.here hx rfl (hb hby d14_41) k) ?_
          refine own_st (U' := (s₁.setTop (mkF m 46 #[.val (.ref a)] [(.int (1 : Int32))]))) (fun _ k => XS.goto X0.here hx rfl (pc0 := 42) (pc' := 46) rfl (hb hby d14_42) (by decide) (by decide) k) ?_
          exact own_retN X0 hx (t := .boolean) Bd.returns Bd.notSynchronized (by simp) rfl (hb hby d14_46) (by decide) (by decide) (⟨by rw [q], N0, e0⟩)
        · skip
          refine own_st (U' := (s₁.setTop (mkF m 32 #[.val (.ref a)] []))) (fun _ k => XS.icmpNo X0.here hx rfl (hb hby d14_29) rfl (flt c4).1 k) ?_
          refine own_st (U' := (s₁.setTop (mkF m 33 #[.val (.ref a)] [(.ref a)]))) (fun _ k => XS.aloadN X0.here hx rfl (hb hby d14_32) rfl rfl k) ?_
          refine own_st (U' := (s₁.setTop (mkF m 34 #[.val (.ref a)] [(.int (2 : Int32)), (.ref a)]))) (fun _ k => XS.iconst X0.here hx rfl (hb hby d14_33) k) ?_
          refine own_st (U' := (s₁.setTop (mkF m 35 #[.val (.ref a)] [(.int a1)]))) (own_ldI X0 hx hZ e0 V1 (j := (2 : Int32)) (i := 2) (by decide) rfl (by decide) (v := (.int a1)) rfl (g := (mkF m 34 #[.val (.ref a)] [(.int (2 : Int32)), (.ref a)])) rfl rfl (hb hby d14_34)) ?_
          refine own_st (U' := (s₁.setTop (mkF m 36 #[.val (.ref a)] [(.ref a), (.int a1)]))) (fun _ k => XS.aloadN X0.here hx rfl (hb hby d14_35) rfl rfl k) ?_
          refine own_st (U' := (s₁.setTop (mkF m 37 #[.val (.ref a)] [(.int (5 : Int32)), (.ref a), (.int a1)]))) (fun _ k => XS.iconst X0.here hx rfl (hb hby d14_36) k) ?_
          refine own_st (U' := (s₁.setTop (mkF m 38 #[.val (.ref a)] [(.int b1), (.int a1)]))) (own_ldI X0 hx hZ e0 V1 (j := (5 : Int32)) (i := 5) (by decide) rfl (by decide) (v := (.int b1)) rfl (g := (mkF m 37 #[.val (.ref a)] [(.int (5 : Int32)), (.ref a), (.int a1)])) rfl rfl (hb hby d14_37)) ?_
          by_cases c5 : a1 = b1
          · skip
            refine own_st (U' := (s₁.setTop (mkF m 41 #[.val (.ref a)] []))) (fun _ k => XS.icmpNo X0.here hx rfl (hb hby d14_38) rfl (teq c5).2 k) ?_
            have q : own_b (own_same l1 a0' a1 l2 b0 b1) = 1 := by subst c1; simp [own_b, own_same, c2, c3, c4, c5]
            refine own_st (U' := (s₁.setTop (mkF m 42 #[.val (.ref a)] [(.int (1 : Int32))]))) (fun _ k => XS.iconst X0.here hx rfl (hb hby d14_41) k) ?_
            refine own_st (U' := (s₁.setTop (mkF m 46 #[.val (.ref a)] [(.int (1 : Int32))]))) (fun _ k => XS.goto X0.here hx rfl (pc0 := 42) (pc' := 46) rfl (hb hby d14_42) (by decide) (by decide) k) ?_
            exact own_retN X0 hx (t := .boolean) Bd.returns Bd.notSynchronized (by simp) rfl (hb hby d14_46) (by decide) (by decide) (⟨by rw [q], N0, e0⟩)
          · skip
            refine own_st (U' := (s₁.setTop (mkF m 45 #[.val (.ref a)] []))) (fun _ k => XS.icmpYes X0.here hx rfl (pc0 := 38) (pc' := 45) rfl (hb hby d14_38) rfl (feq c5).2 (by decide) (by decide) k) ?_
            have q : own_b (own_same l1 a0' a1 l2 b0 b1) = 0 := by subst c1; simp [own_b, own_same, c2, c3, c4, c5]
            refine own_st (U' := (s₁.setTop (mkF m 46 #[.val (.ref a)] [(.int (0 : Int32))]))) (fun _ k => XS.iconst X0.here hx rfl (hb hby d14_45) k) ?_
            exact own_retN X0 hx (t := .boolean) Bd.returns Bd.notSynchronized (by simp) rfl (hb hby d14_46) (by decide) (by decide) (⟨by rw [q], N0, e0⟩)
      · skip
        refine own_st (U' := (s₁.setTop (mkF m 45 #[.val (.ref a)] []))) (fun _ k => XS.icmpYes X0.here hx rfl (pc0 := 22) (pc' := 45) rfl (hb hby d14_22) rfl (feq c3).2 (by decide) (by decide) k) ?_
        have q : own_b (own_same l1 a0' a1 l2 b0 b1) = 0 := by subst c1; simp [own_b, own_same, c2, c3]
        refine own_st (U' := (s₁.setTop (mkF m 46 #[.val (.ref a)] [(.int (0 : Int32))]))) (fun _ k => XS.iconst X0.here hx rfl (hb hby d14_45) k) ?_
        exact own_retN X0 hx (t := .boolean) Bd.returns Bd.notSynchronized (by simp) rfl (hb hby d14_46) (by decide) (by decide) (⟨by rw [q], N0, e0⟩)
  · skip
    refine own_st (U' := (s₁.setTop (mkF m 45 #[.val (.ref a)] []))) (fun _ k => XS.icmpYes X0.here hx rfl (pc0 := 6) (pc' := 45) rfl (hb hby d14_6) rfl (feq c1).2 (by decide) (by decide) k) ?_
    have q : own_b (own_same l1 a0' a1 l2 b0 b1) = 0 := by simp [own_b, own_same, c1]
    refine own_st (U' := (s₁.setTop (mkF m 46 #[.val (.ref a)] [(.int (0 : Int32))]))) (fun _ k => XS.iconst X0.here hx rfl (hb hby d14_45) k) ?_
    exact own_retN X0 hx (t := .boolean) Bd.returns Bd.notSynchronized (by simp) rfl (hb hby d14_46) (by decide) (by decide) (⟨by rw [q], N0, e0⟩)
theorem d9_0 : decode jdk_52_method_21_code 0 = .ok (.iconst 0, 1) := by decide +kernel
theorem d9_1 : decode jdk_52_method_21_code 1 = .ok (.istore 5, 2) := by decide +kernel
theorem d9_3 : decode jdk_52_method_21_code 3 = .ok (.iload 5, 2) := by decide +kernel
theorem d9_5 : decode jdk_52_method_21_code 5 = .ok (.iload 4, 2) := by decide +kernel
theorem d9_7 : decode jdk_52_method_21_code 7 = .ok (.if_icmp .ge 37, 3) := by decide +kernel
theorem d9_10 : decode jdk_52_method_21_code 10 = .ok (.aload_n 0, 1) := by decide +kernel
theorem d9_11 : decode jdk_52_method_21_code 11 = .ok (.iload_n 1, 1) := by decide +kernel
theorem d9_12 : decode jdk_52_method_21_code 12 = .ok (.caload, 1) := by decide +kernel
theorem d9_13 : decode jdk_52_method_21_code 13 = .ok (.istore 6, 2) := by decide +kernel
theorem d9_15 : decode jdk_52_method_21_code 15 = .ok (.iload 6, 2) := by decide +kernel
theorem d9_17 : decode jdk_52_method_21_code 17 = .ok (.sipush 255, 3) := by decide +kernel
theorem d9_20 : decode jdk_52_method_21_code 20 = .ok (.if_icmp .le 6, 3) := by decide +kernel
theorem d9_23 : decode jdk_52_method_21_code 23 = .ok (.iload 5, 2) := by decide +kernel
theorem d9_25 : decode jdk_52_method_21_code 25 = .ok (.ireturn, 1) := by decide +kernel
theorem d9_26 : decode jdk_52_method_21_code 26 = .ok (.aload_n 2, 1) := by decide +kernel
theorem d9_27 : decode jdk_52_method_21_code 27 = .ok (.iload_n 3, 1) := by decide +kernel
theorem d9_28 : decode jdk_52_method_21_code 28 = .ok (.iload 6, 2) := by decide +kernel
theorem d9_30 : decode jdk_52_method_21_code 30 = .ok (.i2b, 1) := by decide +kernel
theorem d9_31 : decode jdk_52_method_21_code 31 = .ok (.bastore, 1) := by decide +kernel
theorem d9_32 : decode jdk_52_method_21_code 32 = .ok (.iinc 1 1, 3) := by decide +kernel
theorem d9_35 : decode jdk_52_method_21_code 35 = .ok (.iinc 3 1, 3) := by decide +kernel
theorem d9_38 : decode jdk_52_method_21_code 38 = .ok (.iinc 5 1, 3) := by decide +kernel
theorem d9_41 : decode jdk_52_method_21_code 41 = .ok (.goto (-38), 3) := by decide +kernel
theorem d9_44 : decode jdk_52_method_21_code 44 = .ok (.iload 4, 2) := by decide +kernel
theorem d9_46 : decode jdk_52_method_21_code 46 = .ok (.ireturn, 1) := by decide +kernel
theorem pn_rmC5_1 : plainName "java/lang/StringUTF16" = true := by first | (simp [plainName, overriddenIn]; done) | decide +kernel
theorem pd_d9 : parseMethodDescriptor "([CI[BII)I" = some ⟨[(.array .char), .int, (.array .byte), .int, .int], some .int⟩ := by decide +kernel
theorem ef_rmC5_1 (m : MethodId) (x0 : Addr) (x1 : Int32) (x2 : Addr) (x3 : Int32) (x4 : Int32) : entryFrame m #[(.ref x0), (.int x1), (.ref x2), (.int x3), (.int x4)] 7 = mkF m 0 #[.val (.ref x0), .val (.int x1), .val (.ref x2), .val (.int x3), .val (.int x4), .unset, .unset] [] := by first | (simp [entryFrame, mkF, argsToLocals, Value.category, maxLocals]; done) | rfl
def Q_rmC5_1 (Z : State) (b : Addr) (d : Addr) (c0 : Int32) (h0 : Heap) (n0 : Nat) (v : Option Value) (h : Heap) (L : List Loc) : Prop := v = some (.int (1 : Int32)) ∧ Fr n0 L ∧ Keep h0 h [d] ∧ own_A Z h d .byte 1 (fun j => .int (own_byte ([c0].getD j 0)))
set_option maxRecDepth 65536 in
set_option maxHeartbeats 40000000 in
theorem rmC5_1 (l : Launch) (Z : State) (a0 : Array Value) (hw : ∀ d ∈ tables_1, d.before a0 Z = true) (ws : List Jvm.Cond) (b : Addr) (d : Addr) (c0 : Int32) (h0 : Heap) (n0 : Nat) (Z0 : n0 ≤ h0.size) (Vb : own_A Z h0 b .char 1 (own_L [c0])) (Vd : own_A Z h0 d .byte 1 (fun _ => defaultValue .byte)) (ne_b_d : b ≠ d) (g_d : n0 ≤ d) (hc0 : own_in c0) :
    MetFree l (⟨"java/lang/StringUTF16", "compress", "([CI[BII)I"⟩ : MethodName) (head1 (Jvm.Cond.code (⟨"java/lang/StringUTF16", "compress", "([CI[BII)I"⟩ : MethodName) jdk_52_method_21_code 7 (some .int) :: ws) ({ frames := 0, cells := 0, slots := 0, locals := 0 } : Room)) (fun as1 U => as1 = #[(.ref b), (.int (0 : Int32)), (.ref d), (.int (0 : Int32)), (.int (1 : Int32))] ∧ Z.Warmed39 U.vm ∧ U.heap = h0) (fun _ _ _ _ _ => True) (fun _ U o U' => ∃ v L, o = .returned v ∧ Q_rmC5_1 Z b d c0 h0 n0 v U'.heap L ∧ FrameEnd U o U' L ({ frames := 0, cells := 0, slots := 0, locals := 0 } : Room).cells ({ frames := 0, cells := 0, slots := 0, locals := 0 } : Room).slots) := by
  refine MetFree.of_bodySF (plainFor_of_name pn_rmC5_1) hisR ?_
  intro p e s m args below meth c s₁ Bd hml0 hP hK
  obtain ⟨rfl, hZ, hh⟩ := hP
  have hx := Bd.exec
  have hby := Bd.bytes
  have hml : c.maxLocals = 7 := hml0
  have hown : s.vm.findClass "java/lang/StringUTF16" = some m.cls := findClass_of_methodNamed Bd.named
  have hnm := (name_of_methodNamed Bd.named Bd.method).1
  have X0 : Stand p l e ({ frames := 0, cells := 0, slots := 0, locals := 0 } : Room) s m #[(.ref b), (.int (0 : Int32)), (.ref d), (.int (0 : Int32)), (.int (1 : Int32))] below meth c s₁ [] 0 0 := Stand.of_body Bd
  have e0 : s₁.heap = h0 := by rw [← hh, Bd.state]; rfl
  have N0 := Fr.nil n0
  show own_Ends p e s below (Q_rmC5_1 Z b d c0 h0 n0) ({ frames := 0, cells := 0, slots := 0, locals := 0 } : Room).cells ({ frames := 0, cells := 0, slots := 0, locals := 0 } : Room).slots (s₁.setTop (entryFrame m #[(.ref b), (.int (0 : Int32)), (.ref d), (.int (0 : Int32)), (.int (1 : Int32))] 7))
  refine own_st (U' := (s₁.setTop (mkF m 0 #[.val (.ref b), .val (.int (0 : Int32)), .val (.ref d), .val (.int (0 : Int32)), .val (.int (1 : Int32)), .unset, .unset] []))) (fun _ k => castTop (ef_rmC5_1 m b (0 : Int32) d (0 : Int32) (1 : Int32)) k) ?_
  refine own_st (U' := (s₁.setTop (mkF m 1 #[.val (.ref b), .val (.int (0 : Int32)), .val (.ref d), .val (.int (0 : Int32)), .val (.int (1 : Int32)), .unset, .unset] [(.int (0 : Int32))]))) (fun _ k => XS.iconst X0.here hx rfl (hb hby d9_0) k) ?_
  refine own_st (U' := (s₁.setTop (mkF m 3 #[.val (.ref b), .val (.int (0 : Int32)), .val (.ref d), .val (.int (0 : Int32)), .val (.int (1 : Int32)), .val (.int (0 : Int32)), .unset] []))) (fun _ k => XS.istore X0.here hx rfl (hb hby d9_1) rfl (l' := #[.val (.ref b), .val (.int (0 : Int32)), .val (.ref d), .val (.int (0 : Int32)), .val (.int (1 : Int32)), .val (.int (0 : Int32)), .unset]) rfl k) ?_
  refine own_st (U' := (s₁.setTop (mkF m 5 #[.val (.ref b), .val (.int (0 : Int32)), .val (.ref d), .val (.int (0 : Int32)), .val (.int (1 : Int32)), .val (.int (0 : Int32)), .unset] [(.int (0 : Int32))]))) (fun _ k => XS.iload X0.here hx rfl (hb hby d9_3) rfl k) ?_
  refine own_st (U' := (s₁.setTop (mkF m 7 #[.val (.ref b), .val (.int (0 : Int32)), .val (.ref d), .val (.int (0 : Int32)), .val (.int (1 : Int32)), .val (.int (0 : Int32)), .unset] [(.int (1 : Int32)), (.int (0 : Int32))]))) (fun _ k => XS.iload X0.here hx rfl (hb hby d9_5) rfl k) ?_
  refine own_st (U' := (s₁.setTop (mkF m 10 #[.val (.ref b), .val (.int (0 : Int32)), .val (.ref d), .val (.int (0 : Int32)), .val (.int (1 : Int32)), .val (.int (0 : Int32)), .unset] []))) (fun _ k => XS.icmpNo X0.here hx rfl (hb hby d9_7) rfl (tlt (by decide)).2.1 k) ?_
  refine own_st (U' := (s₁.setTop (mkF m 11 #[.val (.ref b), .val (.int (0 : Int32)), .val (.ref d), .val (.int (0 : Int32)), .val (.int (1 : Int32)), .val (.int (0 : Int32)), .unset] [(.ref b)]))) (fun _ k => XS.aloadN X0.here hx rfl (hb hby d9_10) rfl rfl k) ?_
  refine own_st (U' := (s₁.setTop (mkF m 12 #[.val (.ref b), .val (.int (0 : Int32)), .val (.ref d), .val (.int (0 : Int32)), .val (.int (1 : Int32)), .val (.int (0 : Int32)), .unset] [(.int (0 : Int32)), (.ref b)]))) (fun _ k => XS.iloadN X0.here hx rfl (hb hby d9_11) rfl k) ?_
  refine own_st (U' := (s₁.setTop (mkF m 13 #[.val (.ref b), .val (.int (0 : Int32)), .val (.ref d), .val (.int (0 : Int32)), .val (.int (1 : Int32)), .val (.int (0 : Int32)), .unset] [(.int c0)]))) (own_ldC X0 hx hZ e0 Vb (j := (0 : Int32)) (i := 0) (by decide) rfl (by decide) (v := (.int c0)) rfl (g := (mkF m 12 #[.val (.ref b), .val (.int (0 : Int32)), .val (.ref d), .val (.int (0 : Int32)), .val (.int (1 : Int32)), .val (.int (0 : Int32)), .unset] [(.int (0 : Int32)), (.ref b)])) rfl rfl (hb hby d9_12)) ?_
  refine own_st (U' := (s₁.setTop (mkF m 15 #[.val (.ref b), .val (.int (0 : Int32)), .val (.ref d), .val (.int (0 : Int32)), .val (.int (1 : Int32)), .val (.int (0 : Int32)), .val (.int c0)] []))) (fun _ k => XS.istore X0.here hx rfl (hb hby d9_13) rfl (l' := #[.val (.ref b), .val (.int (0 : Int32)), .val (.ref d), .val (.int (0 : Int32)), .val (.int (1 : Int32)), .val (.int (0 : Int32)), .val (.int c0)]) rfl k) ?_
  refine own_st (U' := (s₁.setTop (mkF m 17 #[.val (.ref b), .val (.int (0 : Int32)), .val (.ref d), .val (.int (0 : Int32)), .val (.int (1 : Int32)), .val (.int (0 : Int32)), .val (.int c0)] [(.int c0)]))) (fun _ k => XS.iload X0.here hx rfl (hb hby d9_15) rfl k) ?_
  refine own_st (U' := (s₁.setTop (mkF m 20 #[.val (.ref b), .val (.int (0 : Int32)), .val (.ref d), .val (.int (0 : Int32)), .val (.int (1 : Int32)), .val (.int (0 : Int32)), .val (.int c0)] [(.int (255 : Int32)), (.int c0)]))) (fun _ k => XS.sipush X0.here hx rfl (hb hby d9_17) k) ?_
  refine own_st (U' := (s₁.setTop (mkF m 26 #[.val (.ref b), .val (.int (0 : Int32)), .val (.ref d), .val (.int (0 : Int32)), .val (.int (1 : Int32)), .val (.int (0 : Int32)), .val (.int c0)] []))) (fun _ k => XS.icmpYes X0.here hx rfl (pc0 := 20) (pc' := 26) rfl (hb hby d9_20) rfl (flt hc0.2).2.2.2 (by decide) (by decide) k) ?_
  refine own_st (U' := (s₁.setTop (mkF m 27 #[.val (.ref b), .val (.int (0 : Int32)), .val (.ref d), .val (.int (0 : Int32)), .val (.int (1 : Int32)), .val (.int (0 : Int32)), .val (.int c0)] [(.ref d)]))) (fun _ k => XS.aloadN X0.here hx rfl (hb hby d9_26) rfl rfl k) ?_
  refine own_st (U' := (s₁.setTop (mkF m 28 #[.val (.ref b), .val (.int (0 : Int32)), .val (.ref d), .val (.int (0 : Int32)), .val (.int (1 : Int32)), .val (.int (0 : Int32)), .val (.int c0)] [(.int (0 : Int32)), (.ref d)]))) (fun _ k => XS.iloadN X0.here hx rfl (hb hby d9_27) rfl k) ?_
  refine own_st (U' := (s₁.setTop (mkF m 30 #[.val (.ref b), .val (.int (0 : Int32)), .val (.ref d), .val (.int (0 : Int32)), .val (.int (1 : Int32)), .val (.int (0 : Int32)), .val (.int c0)] [(.int c0), (.int (0 : Int32)), (.ref d)]))) (fun _ k => XS.iload X0.here hx rfl (hb hby d9_28) rfl k) ?_
  refine own_st (U' := (s₁.setTop (mkF m 31 #[.val (.ref b), .val (.int (0 : Int32)), .val (.ref d), .val (.int (0 : Int32)), .val (.int (1 : Int32)), .val (.int (0 : Int32)), .val (.int c0)] [(.int (own_byte c0)), (.int (0 : Int32)), (.ref d)]))) (fun _ k => XS.i2b X0.here hx rfl (hb hby d9_30) rfl k) ?_
  obtain ⟨T21, h21, X21, e21, W21, V21, st21⟩ := own_stB X0 hx hZ e0 Vd (j := (0 : Int32)) (i := 0) (by decide) rfl (by decide) (g := (mkF m 31 #[.val (.ref b), .val (.int (0 : Int32)), .val (.ref d), .val (.int (0 : Int32)), .val (.int (1 : Int32)), .val (.int (0 : Int32)), .val (.int c0)] [(.int (own_byte c0)), (.int (0 : Int32)), (.ref d)])) rfl rfl (hb hby d9_31)
  have Vb := Vb.other W21 ne_b_d
  have Vd := V21
  have N21 := Fr.snoc X21 N0 g_d
  have Z21 : n0 ≤ h21.size := Nat.le_trans Z0 (Nat.le_of_eq W21.size.symm)
  have K21 := (Keep.refl h0 [d]).wr W21 (Or.inl (List.mem_of_getElem? (i := 0) rfl))
  refine own_st (U' := (T21.setTop (mkF m 32 #[.val (.ref b), .val (.int (0 : Int32)), .val (.ref d), .val (.int (0 : Int32)), .val (.int (1 : Int32)), .val (.int (0 : Int32)), .val (.int c0)] []))) st21 ?_
  refine own_st (U' := (T21.setTop (mkF m 35 #[.val (.ref b), .val (.int (1 : Int32)), .val (.ref d), .val (.int (0 : Int32)), .val (.int (1 : Int32)), .val (.int (0 : Int32)), .val (.int c0)] []))) (fun _ k => XS.iinc X21.here hx rfl (hb hby d9_32) rfl (l' := #[.val (.ref b), .val (.int (1 : Int32)), .val (.ref d), .val (.int (0 : Int32)), .val (.int (1 : Int32)), .val (.int (0 : Int32)), .val (.int c0)]) rfl k) ?_
  refine own_st (U' := (T21.setTop (mkF m 38 #[.val (.ref b), .val (.int (1 : Int32)), .val (.ref d), .val (.int (1 : Int32)), .val (.int (1 : Int32)), .val (.int (0 : Int32)), .val (.int c0)] []))) (fun _ k => XS.iinc X21.here hx rfl (hb hby d9_35) rfl (l' := #[.val (.ref b), .val (.int (1 : Int32)), .val (.ref d), .val (.int (1 : Int32)), .val (.int (1 : Int32)), .val (.int (0 : Int32)), .val (.int c0)]) rfl k) ?_
  refine own_st (U' := (T21.setTop (mkF m 41 #[.val (.ref b), .val (.int (1 : Int32)), .val (.ref d), .val (.int (1 : Int32)), .val (.int (1 : Int32)), .val (.int (1 : Int32)), .val (.int c0)] []))) (fun _ k => XS.iinc X21.here hx rfl (hb hby d9_38) rfl (l' := #[.val (.ref b), .val (.int (1 : Int32)), .val (.ref d), .val (.int (1 : Int32)), .val (.int (1 : Int32)), .val (.int (1 : Int32)), .val (.int c0)]) rfl k) ?_
  refine own_st (U' := (T21.setTop (mkF m 3 #[.val (.ref b), .val (.int (1 : Int32)), .val (.ref d), .val (.int (1 : Int32)), .val (.int (1 : Int32)), .val (.int (1 : Int32)), .val (.int c0)] []))) (fun _ k => XS.goto X21.here hx rfl (pc0 := 41) (pc' := 3) rfl (hb hby d9_41) (by decide) (by decide) k) ?_
  refine own_st (U' := (T21.setTop (mkF m 5 #[.val (.ref b), .val (.int (1 : Int32)), .val (.ref d), .val (.int (1 : Int32)), .val (.int (1 : Int32)), .val (.int (1 : Int32)), .val (.int c0)] [(.int (1 : Int32))]))) (fun _ k => XS.iload X21.here hx rfl (hb hby d9_3) rfl k) ?_
  refine own_st (U' := (T21.setTop (mkF m 7 #[.val (.ref b), .val (.int (1 : Int32)), .val (.ref d), .val (.int (1 : Int32)), .val (.int (1 : Int32)), .val (.int (1 : Int32)), .val (.int c0)] [(.int (1 : Int32)), (.int (1 : Int32))]))) (fun _ k => XS.iload X21.here hx rfl (hb hby d9_5) rfl k) ?_
  refine own_st (U' := (T21.setTop (mkF m 44 #[.val (.ref b), .val (.int (1 : Int32)), .val (.ref d), .val (.int (1 : Int32)), .val (.int (1 : Int32)), .val (.int (1 : Int32)), .val (.int c0)] []))) (fun _ k => XS.icmpYes X21.here hx rfl (pc0 := 7) (pc' := 44) rfl (hb hby d9_7) rfl (flt (by decide)).2.1 (by decide) (by decide) k) ?_
  refine own_st (U' := (T21.setTop (mkF m 46 #[.val (.ref b), .val (.int (1 : Int32)), .val (.ref d), .val (.int (1 : Int32)), .val (.int (1 : Int32)), .val (.int (1 : Int32)), .val (.int c0)] [(.int (1 : Int32))]))) (fun _ k => XS.iload X21.here hx rfl (hb hby d9_44) rfl k) ?_
  have Vd : own_A Z h21 d .byte 1 (fun j => .int (own_byte ([c0].getD j 0))) := Vd.congr (by intro j hj; rcases j with _ | j <;> first | exact congrArg Value.int (own_nbyte hc0) | omega)
  exact own_retI X21 hx Bd.returns Bd.notSynchronized (hb hby d9_46) (by decide) (by decide) (⟨rfl, N21, by rw [e21]; exact K21, by rw [e21]; exact Vd⟩)
theorem d8_0 : decode jdk_52_method_16_code 0 = .ok (.iload_n 2, 1) := by decide +kernel
theorem d8_1 : decode jdk_52_method_16_code 1 = .ok (.newarray .byte, 2) := by decide +kernel
theorem d8_3 : decode jdk_52_method_16_code 3 = .ok (.astore_n 3, 1) := by decide +kernel
theorem d8_4 : decode jdk_52_method_16_code 4 = .ok (.aload_n 0, 1) := by decide +kernel
theorem d8_5 : decode jdk_52_method_16_code 5 = .ok (.iload_n 1, 1) := by decide +kernel
theorem d8_6 : decode jdk_52_method_16_code 6 = .ok (.aload_n 3, 1) := by decide +kernel
theorem d8_7 : decode jdk_52_method_16_code 7 = .ok (.iconst 0, 1) := by decide +kernel
theorem d8_8 : decode jdk_52_method_16_code 8 = .ok (.iload_n 2, 1) := by decide +kernel
theorem d8_9 : decode jdk_52_method_16_code 9 = .ok (.invokestatic 115, 3) := by decide +kernel
theorem d8_12 : decode jdk_52_method_16_code 12 = .ok (.istore 4, 2) := by decide +kernel
theorem d8_14 : decode jdk_52_method_16_code 14 = .ok (.iload 4, 2) := by decide +kernel
theorem d8_16 : decode jdk_52_method_16_code 16 = .ok (.iload_n 2, 1) := by decide +kernel
theorem d8_17 : decode jdk_52_method_16_code 17 = .ok (.if_icmp .eq 40, 3) := by decide +kernel
theorem d8_20 : decode jdk_52_method_16_code 20 = .ok (.aload_n 0, 1) := by decide +kernel
theorem d8_21 : decode jdk_52_method_16_code 21 = .ok (.iload_n 1, 1) := by decide +kernel
theorem d8_22 : decode jdk_52_method_16_code 22 = .ok (.iload_n 2, 1) := by decide +kernel
theorem d8_23 : decode jdk_52_method_16_code 23 = .ok (.invokestatic 119, 3) := by decide +kernel
theorem d8_26 : decode jdk_52_method_16_code 26 = .ok (.astore 5, 2) := by decide +kernel
theorem d8_28 : decode jdk_52_method_16_code 28 = .ok (.aload 5, 2) := by decide +kernel
theorem d8_30 : decode jdk_52_method_16_code 30 = .ok (.iload 4, 2) := by decide +kernel
theorem d8_32 : decode jdk_52_method_16_code 32 = .ok (.invokestatic 71, 3) := by decide +kernel
theorem d8_35 : decode jdk_52_method_16_code 35 = .ok (.sipush 255, 3) := by decide +kernel
theorem d8_38 : decode jdk_52_method_16_code 38 = .ok (.if_icmp .gt 16, 3) := by decide +kernel
theorem d8_41 : decode jdk_52_method_16_code 41 = .ok (.aload 5, 2) := by decide +kernel
theorem d8_43 : decode jdk_52_method_16_code 43 = .ok (.iconst 0, 1) := by decide +kernel
theorem d8_44 : decode jdk_52_method_16_code 44 = .ok (.aload_n 3, 1) := by decide +kernel
theorem d8_45 : decode jdk_52_method_16_code 45 = .ok (.iconst 0, 1) := by decide +kernel
theorem d8_46 : decode jdk_52_method_16_code 46 = .ok (.iload_n 2, 1) := by decide +kernel
theorem d8_47 : decode jdk_52_method_16_code 47 = .ok (.invokestatic 123, 3) := by decide +kernel
theorem d8_50 : decode jdk_52_method_16_code 50 = .ok (.iload_n 2, 1) := by decide +kernel
theorem d8_51 : decode jdk_52_method_16_code 51 = .ok (.if_icmp .eq 6, 3) := by decide +kernel
theorem d8_54 : decode jdk_52_method_16_code 54 = .ok (.aload 5, 2) := by decide +kernel
theorem d8_56 : decode jdk_52_method_16_code 56 = .ok (.areturn, 1) := by decide +kernel
theorem d8_57 : decode jdk_52_method_16_code 57 = .ok (.aload_n 3, 1) := by decide +kernel
theorem d8_58 : decode jdk_52_method_16_code 58 = .ok (.areturn, 1) := by decide +kernel
theorem pn_rmC3_1 : plainName "java/lang/StringUTF16" = true := by first | (simp [plainName, overriddenIn]; done) | decide +kernel
theorem pd_d8 : parseMethodDescriptor "([CII)[B" = some ⟨[(.array .char), .int, .int], some (.array .byte)⟩ := by decide +kernel
theorem ef_rmC3_1 (m : MethodId) (x0 : Addr) (x1 : Int32) (x2 : Int32) : entryFrame m #[(.ref x0), (.int x1), (.int x2)] 6 = mkF m 0 #[.val (.ref x0), .val (.int x1), .val (.int x2), .unset, .unset, .unset] [] := by first | (simp [entryFrame, mkF, argsToLocals, Value.category, maxLocals]; done) | rfl
def Q_rmC3_1 (Z : State) (b : Addr) (c0 : Int32) (h0 : Heap) (n0 : Nat) (v : Option Value) (h : Heap) (L : List Loc) : Prop := ∃ r : Addr, v = some (.ref r) ∧ Fr n0 L ∧ Keep h0 h [] ∧ h0.size ≤ r ∧ own_A Z h r .byte 1 (fun j => .int (own_byte ([c0].getD j 0)))
set_option maxRecDepth 65536 in
set_option maxHeartbeats 40000000 in
theorem rmC3_1 (l : Launch) (Z : State) (a0 : Array Value) (hw : ∀ d ∈ tables_1, d.before a0 Z = true) (ws : List Jvm.Cond) (b : Addr) (c0 : Int32) (h0 : Heap) (n0 : Nat) (Z0 : n0 ≤ h0.size) (Vb : own_A Z h0 b .char 1 (own_L [c0])) (hc0 : own_in c0) :
    MetFree l (⟨"java/lang/StringUTF16", "compress", "([CII)[B"⟩ : MethodName) (head1 (Jvm.Cond.code (⟨"java/lang/StringUTF16", "compress", "([CII)[B"⟩ : MethodName) jdk_52_method_16_code 6 (some (.array .byte)) :: ws) ({ frames := 1, cells := 1, slots := 1, locals := 18 } : Room)) (fun as1 U => as1 = #[(.ref b), (.int (0 : Int32)), (.int (1 : Int32))] ∧ Z.Warmed39 U.vm ∧ U.heap = h0) (fun _ _ _ _ _ => True) (fun _ U o U' => ∃ v L, o = .returned v ∧ Q_rmC3_1 Z b c0 h0 n0 v U'.heap L ∧ FrameEnd U o U' L ({ frames := 1, cells := 1, slots := 1, locals := 18 } : Room).cells ({ frames := 1, cells := 1, slots := 1, locals := 18 } : Room).slots) := by
  refine MetFree.of_bodySF (plainFor_of_name pn_rmC3_1) hisR ?_
  intro p e s m args below meth c s₁ Bd hml0 hP hK
  obtain ⟨rfl, hZ, hh⟩ := hP
  have hx := Bd.exec
  have hby := Bd.bytes
  have hml : c.maxLocals = 6 := hml0
  have hown : s.vm.findClass "java/lang/StringUTF16" = some m.cls := findClass_of_methodNamed Bd.named
  have hnm := (name_of_methodNamed Bd.named Bd.method).1
  have X0 : Stand p l e ({ frames := 1, cells := 1, slots := 1, locals := 18 } : Room) s m #[(.ref b), (.int (0 : Int32)), (.int (1 : Int32))] below meth c s₁ [] 0 0 := Stand.of_body Bd
  have e0 : s₁.heap = h0 := by rw [← hh, Bd.state]; rfl
  have N0 := Fr.nil n0
  show own_Ends p e s below (Q_rmC3_1 Z b c0 h0 n0) ({ frames := 1, cells := 1, slots := 1, locals := 18 } : Room).cells ({ frames := 1, cells := 1, slots := 1, locals := 18 } : Room).slots (s₁.setTop (entryFrame m #[(.ref b), (.int (0 : Int32)), (.int (1 : Int32))] 6))
  refine own_st (U' := (s₁.setTop (mkF m 0 #[.val (.ref b), .val (.int (0 : Int32)), .val (.int (1 : Int32)), .unset, .unset, .unset] []))) (fun _ k => castTop (ef_rmC3_1 m b (0 : Int32) (1 : Int32)) k) ?_
  refine own_st (U' := (s₁.setTop (mkF m 1 #[.val (.ref b), .val (.int (0 : Int32)), .val (.int (1 : Int32)), .unset, .unset, .unset] [(.int (1 : Int32))]))) (fun _ k => XS.iloadN X0.here hx rfl (hb hby d8_0) rfl k) ?_
  obtain ⟨T22, h22, k22, X22, e22, E22, A22, st22⟩ := newP X0 hx hZ (hw _ (List.mem_of_getElem? (i := 31) rfl)) e0 (g := (mkF m 1 #[.val (.ref b), .val (.int (0 : Int32)), .val (.int (1 : Int32)), .unset, .unset, .unset] [(.int (1 : Int32))])) rfl (hb hby d8_1) rfl (by decide) (cap := 1) (by decide) (by decide) (by decide) (by decide)
  obtain ⟨b22, g22⟩ : ∃ z, z = h0.size := ⟨_, rfl⟩
  rw [← g22] at A22 st22
  have ne_b_b22 : b ≠ b22 := Nat.ne_of_lt (Nat.lt_of_lt_of_eq Vb.lt g22.symm)
  have g_b22 : n0 ≤ b22 := Nat.le_trans Z0 (Nat.le_of_eq g22.symm)
  have sz_b22 : h0.size ≤ b22 := Nat.le_trans (Keep.refl h0 []).1 (Nat.le_of_eq g22.symm)
  have Vb := Vb.ext E22
  have Z22 : n0 ≤ h22.size := Nat.le_trans Z0 E22.1
  have K22 := (Keep.refl h0 []).ext E22
  have V_b22 : own_A Z h22 b22 .byte 1 (fun _ => defaultValue .byte) := own_A.new A22 (by decide)
  refine own_st (U' := (T22.setTop (mkF m 3 #[.val (.ref b), .val (.int (0 : Int32)), .val (.int (1 : Int32)), .unset, .unset, .unset] [(.ref b22)]))) st22 ?_
  refine own_st (U' := (T22.setTop (mkF m 4 #[.val (.ref b), .val (.int (0 : Int32)), .val (.int (1 : Int32)), .val (.ref b22), .unset, .unset] []))) (fun _ k => XS.astoreN X22.here hx rfl (hb hby d8_3) rfl rfl (l' := #[.val (.ref b), .val (.int (0 : Int32)), .val (.int (1 : Int32)), .val (.ref b22), .unset, .unset]) rfl k) ?_
  refine own_st (U' := (T22.setTop (mkF m 5 #[.val (.ref b), .val (.int (0 : Int32)), .val (.int (1 : Int32)), .val (.ref b22), .unset, .unset] [(.ref b)]))) (fun _ k => XS.aloadN X22.here hx rfl (hb hby d8_4) rfl rfl k) ?_
  refine own_st (U' := (T22.setTop (mkF m 6 #[.val (.ref b), .val (.int (0 : Int32)), .val (.int (1 : Int32)), .val (.ref b22), .unset, .unset] [(.int (0 : Int32)), (.ref b)]))) (fun _ k => XS.iloadN X22.here hx rfl (hb hby d8_5) rfl k) ?_
  refine own_st (U' := (T22.setTop (mkF m 7 #[.val (.ref b), .val (.int (0 : Int32)), .val (.int (1 : Int32)), .val (.ref b22), .unset, .unset] [(.ref b22), (.int (0 : Int32)), (.ref b)]))) (fun _ k => XS.aloadN X22.here hx rfl (hb hby d8_6) rfl rfl k) ?_
  refine own_st (U' := (T22.setTop (mkF m 8 #[.val (.ref b), .val (.int (0 : Int32)), .val (.int (1 : Int32)), .val (.ref b22), .unset, .unset] [(.int (0 : Int32)), (.ref b22), (.int (0 : Int32)), (.ref b)]))) (fun _ k => XS.iconst X22.here hx rfl (hb hby d8_7) k) ?_
  refine own_st (U' := (T22.setTop (mkF m 9 #[.val (.ref b), .val (.int (0 : Int32)), .val (.int (1 : Int32)), .val (.ref b22), .unset, .unset] [(.int (1 : Int32)), (.int (0 : Int32)), (.ref b22), (.int (0 : Int32)), (.ref b)]))) (fun _ k => XS.iloadN X22.here hx rfl (hb hby d8_8) rfl k) ?_
  obtain ⟨_, _, ⟨T23, L23, k23, n23⟩, -, X23, ⟨Lc23, hQ23, l23, y23, z23⟩, st23⟩ := Jvm.LawKit.callS X22 hx (y := (⟨"java/lang/StringUTF16", "compress", "([CI[BII)I"⟩ : MethodName)) hown (mvT hZ (hw _ (List.mem_of_getElem? (i := 43) rfl))) (mvT hZ (hw _ (List.mem_of_getElem? (i := 44) rfl))) (mvT hZ (hw _ (List.mem_of_getElem? (i := 41) rfl))) (mvT hZ (hw _ (List.mem_of_getElem? (i := 45) rfl))) (by decide) (backOf (W := 0) (rmC5_1 l Z a0 hw [] b b22 c0 h22 n0 Z22 Vb V_b22 ne_b_b22 g_b22 hc0) hZ (hw _ (List.mem_of_getElem? (i := 45) rfl)) (hw _ (List.mem_of_getElem? (i := 41) rfl)) (by decide) (by decide)) (g := (mkF m 9 #[.val (.ref b), .val (.int (0 : Int32)), .val (.int (1 : Int32)), .val (.ref b22), .unset, .unset] [(.int (1 : Int32)), (.int (0 : Int32)), (.ref b22), (.int (0 : Int32)), (.ref b)])) rfl (by rw [hml]; rfl) (argsL := [(.ref b), (.int (0 : Int32)), (.ref b22), (.int (0 : Int32)), (.int (1 : Int32))]) (rest := []) (lenOf (pd_d9) rfl) rfl (by show 2 * 0 + _ ≤ _; exact Nat.le_of_eq rfl) (hb hby d8_9) (fun _ _ => ⟨rfl, e22, (Nat.le_of_ble_eq_true rfl), (Nat.le_of_ble_eq_true rfl)⟩)
  dsimp only [Pt.U, Pt.locs, Pt.cells, Pt.slots] at X23 l23 y23 z23 st23 hQ23
  subst l23 y23 z23
  obtain ⟨rfl, Nq23, Kq23, Vd⟩ := hQ23
  have N23 := Fr.app N0 Nq23
  have Z23 : n0 ≤ T23.heap.size := Nat.le_trans Z22 Kq23.1
  have K23 := K22.trans Kq23 (fun x hx => Or.inr (by cases List.mem_singleton.mp hx; exact sz_b22))
  refine own_st (U' := (T23.setTop (mkF m 12 #[.val (.ref b), .val (.int (0 : Int32)), .val (.int (1 : Int32)), .val (.ref b22), .unset, .unset] [(.int (1 : Int32))]))) st23 ?_
  refine own_st (U' := (T23.setTop (mkF m 14 #[.val (.ref b), .val (.int (0 : Int32)), .val (.int (1 : Int32)), .val (.ref b22), .val (.int (1 : Int32)), .unset] []))) (fun _ k => XS.istore X23.here hx rfl (hb hby d8_12) rfl (l' := #[.val (.ref b), .val (.int (0 : Int32)), .val (.int (1 : Int32)), .val (.ref b22), .val (.int (1 : Int32)), .unset]) rfl k) ?_
  refine own_st (U' := (T23.setTop (mkF m 16 #[.val (.ref b), .val (.int (0 : Int32)), .val (.int (1 : Int32)), .val (.ref b22), .val (.int (1 : Int32)), .unset] [(.int (1 : Int32))]))) (fun _ k => XS.iload X23.here hx rfl (hb hby d8_14) rfl k) ?_
  refine own_st (U' := (T23.setTop (mkF m 17 #[.val (.ref b), .val (.int (0 : Int32)), .val (.int (1 : Int32)), .val (.ref b22), .val (.int (1 : Int32)), .unset] [(.int (1 : Int32)), (.int (1 : Int32))]))) (fun _ k => XS.iloadN X23.here hx rfl (hb hby d8_16) rfl k) ?_
  refine own_st (U' := (T23.setTop (mkF m 57 #[.val (.ref b), .val (.int (0 : Int32)), .val (.int (1 : Int32)), .val (.ref b22), .val (.int (1 : Int32)), .unset] []))) (fun _ k => XS.icmpYes X23.here hx rfl (pc0 := 17) (pc' := 57) rfl (hb hby d8_17) rfl (teq rfl).1 (by decide) (by decide) k) ?_
  refine own_st (U' := (T23.setTop (mkF m 58 #[.val (.ref b), .val (.int (0 : Int32)), .val (.int (1 : Int32)), .val (.ref b22), .val (.int (1 : Int32)), .unset] [(.ref b22)]))) (fun _ k => XS.aloadN X23.here hx rfl (hb hby d8_57) rfl rfl k) ?_
  exact own_retA X23 hx (t := (.array .byte)) Bd.returns Bd.notSynchronized rfl rfl (hb hby d8_58) (by decide) (by decide) (⟨b22, rfl, N23, K23, sz_b22, Vd⟩)
theorem d10_0 : decode jdk_52_method_15_code 0 = .ok (.iload_n 1, 1) := by decide +kernel
theorem d10_1 : decode jdk_52_method_15_code 1 = .ok (.aload_n 0, 1) := by decide +kernel
theorem d10_2 : decode jdk_52_method_15_code 2 = .ok (.arraylength, 1) := by decide +kernel
theorem d10_3 : decode jdk_52_method_15_code 3 = .ok (.isub, 1) := by decide +kernel
theorem d10_4 : decode jdk_52_method_15_code 4 = .ok (.bipush 31, 2) := by decide +kernel
theorem d10_6 : decode jdk_52_method_15_code 6 = .ok (.iushr, 1) := by decide +kernel
theorem d10_7 : decode jdk_52_method_15_code 7 = .ok (.i2b, 1) := by decide +kernel
theorem d10_8 : decode jdk_52_method_15_code 8 = .ok (.ireturn, 1) := by decide +kernel
theorem pn_rmCod_1 : plainName "java/lang/StringUTF16" = true := by first | (simp [plainName, overriddenIn]; done) | decide +kernel
theorem pd_d10 : parseMethodDescriptor "([BI)B" = some ⟨[(.array .byte), .int], some .byte⟩ := by decide +kernel
theorem ef_rmCod_1 (m : MethodId) (x0 : Addr) (x1 : Int32) : entryFrame m #[(.ref x0), (.int x1)] 2 = mkF m 0 #[.val (.ref x0), .val (.int x1)] [] := by first | (simp [entryFrame, mkF, argsToLocals, Value.category, maxLocals]; done) | rfl
def Q_rmCod_1 (Z : State) (d : Addr) (f : Nat → Value) (h0 : Heap) (n0 : Nat) (v : Option Value) (h : Heap) (L : List Loc) : Prop := v = some (.int 0) ∧ Fr n0 L ∧ h = h0
set_option maxRecDepth 65536 in
set_option maxHeartbeats 40000000 in
theorem rmCod_1 (l : Launch) (Z : State) (a0 : Array Value) (hw : ∀ d ∈ tables_1, d.before a0 Z = true) (ws : List Jvm.Cond) (d : Addr) (f : Nat → Value) (h0 : Heap) (n0 : Nat) (Z0 : n0 ≤ h0.size) (Vd : own_A Z h0 d .byte 1 f) :
    MetFree l (⟨"java/lang/StringUTF16", "coderFromArrayLen", "([BI)B"⟩ : MethodName) (head1 (Jvm.Cond.code (⟨"java/lang/StringUTF16", "coderFromArrayLen", "([BI)B"⟩ : MethodName) jdk_52_method_15_code 2 (some .byte) :: ws) ({ frames := 0, cells := 0, slots := 0, locals := 0 } : Room)) (fun as1 U => as1 = #[(.ref d), (.int (1 : Int32))] ∧ Z.Warmed39 U.vm ∧ U.heap = h0) (fun _ _ _ _ _ => True) (fun _ U o U' => ∃ v L, o = .returned v ∧ Q_rmCod_1 Z d f h0 n0 v U'.heap L ∧ FrameEnd U o U' L ({ frames := 0, cells := 0, slots := 0, locals := 0 } : Room).cells ({ frames := 0, cells := 0, slots := 0, locals := 0 } : Room).slots) := by
  refine MetFree.of_bodySF (plainFor_of_name pn_rmCod_1) hisR ?_
  intro p e s m args below meth c s₁ Bd hml0 hP hK
  obtain ⟨rfl, hZ, hh⟩ := hP
  have hx := Bd.exec
  have hby := Bd.bytes
  have hml : c.maxLocals = 2 := hml0
  have hown : s.vm.findClass "java/lang/StringUTF16" = some m.cls := findClass_of_methodNamed Bd.named
  have hnm := (name_of_methodNamed Bd.named Bd.method).1
  have X0 : Stand p l e ({ frames := 0, cells := 0, slots := 0, locals := 0 } : Room) s m #[(.ref d), (.int (1 : Int32))] below meth c s₁ [] 0 0 := Stand.of_body Bd
  have e0 : s₁.heap = h0 := by rw [← hh, Bd.state]; rfl
  have N0 := Fr.nil n0
  show own_Ends p e s below (Q_rmCod_1 Z d f h0 n0) ({ frames := 0, cells := 0, slots := 0, locals := 0 } : Room).cells ({ frames := 0, cells := 0, slots := 0, locals := 0 } : Room).slots (s₁.setTop (entryFrame m #[(.ref d), (.int (1 : Int32))] 2))
  refine own_st (U' := (s₁.setTop (mkF m 0 #[.val (.ref d), .val (.int (1 : Int32))] []))) (fun _ k => castTop (ef_rmCod_1 m d (1 : Int32)) k) ?_
  refine own_st (U' := (s₁.setTop (mkF m 1 #[.val (.ref d), .val (.int (1 : Int32))] [(.int (1 : Int32))]))) (fun _ k => XS.iloadN X0.here hx rfl (hb hby d10_0) rfl k) ?_
  refine own_st (U' := (s₁.setTop (mkF m 2 #[.val (.ref d), .val (.int (1 : Int32))] [(.ref d), (.int (1 : Int32))]))) (fun _ k => XS.aloadN X0.here hx rfl (hb hby d10_1) rfl rfl k) ?_
  refine own_st (U' := (s₁.setTop (mkF m 3 #[.val (.ref d), .val (.int (1 : Int32))] [(.int (1 : Int32)), (.int (1 : Int32))]))) (own_len X0 hx hZ e0 Vd (z := (1 : Int32)) rfl (g := (mkF m 2 #[.val (.ref d), .val (.int (1 : Int32))] [(.ref d), (.int (1 : Int32))])) rfl rfl (hb hby d10_2)) ?_
  refine own_st (U' := (s₁.setTop (mkF m 4 #[.val (.ref d), .val (.int (1 : Int32))] [(.int (0 : Int32))]))) (fun _ k => XS.isub X0.here hx rfl (hb hby d10_3) rfl k) ?_
  refine own_st (U' := (s₁.setTop (mkF m 6 #[.val (.ref d), .val (.int (1 : Int32))] [(.int (31 : Int32)), (.int (0 : Int32))]))) (fun _ k => XS.bipush X0.here hx rfl (hb hby d10_4) k) ?_
  refine own_st (U' := (s₁.setTop (mkF m 7 #[.val (.ref d), .val (.int (1 : Int32))] [(.int (0 : Int32))]))) (fun _ k => XS.iushr X0.here hx rfl (hb hby d10_6) rfl k) ?_
  refine own_st (U' := (s₁.setTop (mkF m 8 #[.val (.ref d), .val (.int (1 : Int32))] [(.int (0 : Int32))]))) (fun _ k => XS.i2b X0.here hx rfl (hb hby d10_7) rfl k) ?_
  exact own_retN X0 hx (t := .byte) Bd.returns Bd.notSynchronized (by simp) rfl (hb hby d10_8) (by decide) (by decide) (⟨rfl, N0, e0⟩)
theorem pn_rmC5_2 : plainName "java/lang/StringUTF16" = true := by first | (simp [plainName, overriddenIn]; done) | decide +kernel
theorem ef_rmC5_2 (m : MethodId) (x0 : Addr) (x1 : Int32) (x2 : Addr) (x3 : Int32) (x4 : Int32) : entryFrame m #[(.ref x0), (.int x1), (.ref x2), (.int x3), (.int x4)] 7 = mkF m 0 #[.val (.ref x0), .val (.int x1), .val (.ref x2), .val (.int x3), .val (.int x4), .unset, .unset] [] := by first | (simp [entryFrame, mkF, argsToLocals, Value.category, maxLocals]; done) | rfl
def Q_rmC5_2 (Z : State) (b : Addr) (d : Addr) (c0 : Int32) (c1 : Int32) (h0 : Heap) (n0 : Nat) (v : Option Value) (h : Heap) (L : List Loc) : Prop := v = some (.int (2 : Int32)) ∧ Fr n0 L ∧ Keep h0 h [d] ∧ own_A Z h d .byte 2 (fun j => .int (own_byte ([c0, c1].getD j 0)))
set_option maxRecDepth 65536 in
set_option maxHeartbeats 40000000 in
theorem rmC5_2 (l : Launch) (Z : State) (a0 : Array Value) (hw : ∀ d ∈ tables_1, d.before a0 Z = true) (ws : List Jvm.Cond) (b : Addr) (d : Addr) (c0 : Int32) (c1 : Int32) (h0 : Heap) (n0 : Nat) (Z0 : n0 ≤ h0.size) (Vb : own_A Z h0 b .char 2 (own_L [c0, c1])) (Vd : own_A Z h0 d .byte 2 (fun _ => defaultValue .byte)) (ne_b_d : b ≠ d) (g_d : n0 ≤ d) (hc0 : own_in c0) (hc1 : own_in c1) :
    MetFree l (⟨"java/lang/StringUTF16", "compress", "([CI[BII)I"⟩ : MethodName) (head1 (Jvm.Cond.code (⟨"java/lang/StringUTF16", "compress", "([CI[BII)I"⟩ : MethodName) jdk_52_method_21_code 7 (some .int) :: ws) ({ frames := 0, cells := 0, slots := 0, locals := 0 } : Room)) (fun as1 U => as1 = #[(.ref b), (.int (0 : Int32)), (.ref d), (.int (0 : Int32)), (.int (2 : Int32))] ∧ Z.Warmed39 U.vm ∧ U.heap = h0) (fun _ _ _ _ _ => True) (fun _ U o U' => ∃ v L, o = .returned v ∧ Q_rmC5_2 Z b d c0 c1 h0 n0 v U'.heap L ∧ FrameEnd U o U' L ({ frames := 0, cells := 0, slots := 0, locals := 0 } : Room).cells ({ frames := 0, cells := 0, slots := 0, locals := 0 } : Room).slots) := by
  refine MetFree.of_bodySF (plainFor_of_name pn_rmC5_2) hisR ?_
  intro p e s m args below meth c s₁ Bd hml0 hP hK
  obtain ⟨rfl, hZ, hh⟩ := hP
  have hx := Bd.exec
  have hby := Bd.bytes
  have hml : c.maxLocals = 7 := hml0
  have hown : s.vm.findClass "java/lang/StringUTF16" = some m.cls := findClass_of_methodNamed Bd.named
  have hnm := (name_of_methodNamed Bd.named Bd.method).1
  have X0 : Stand p l e ({ frames := 0, cells := 0, slots := 0, locals := 0 } : Room) s m #[(.ref b), (.int (0 : Int32)), (.ref d), (.int (0 : Int32)), (.int (2 : Int32))] below meth c s₁ [] 0 0 := Stand.of_body Bd
  have e0 : s₁.heap = h0 := by rw [← hh, Bd.state]; rfl
  have N0 := Fr.nil n0
  show own_Ends p e s below (Q_rmC5_2 Z b d c0 c1 h0 n0) ({ frames := 0, cells := 0, slots := 0, locals := 0 } : Room).cells ({ frames := 0, cells := 0, slots := 0, locals := 0 } : Room).slots (s₁.setTop (entryFrame m #[(.ref b), (.int (0 : Int32)), (.ref d), (.int (0 : Int32)), (.int (2 : Int32))] 7))
  refine own_st (U' := (s₁.setTop (mkF m 0 #[.val (.ref b), .val (.int (0 : Int32)), .val (.ref d), .val (.int (0 : Int32)), .val (.int (2 : Int32)), .unset, .unset] []))) (fun _ k => castTop (ef_rmC5_2 m b (0 : Int32) d (0 : Int32) (2 : Int32)) k) ?_
  refine own_st (U' := (s₁.setTop (mkF m 1 #[.val (.ref b), .val (.int (0 : Int32)), .val (.ref d), .val (.int (0 : Int32)), .val (.int (2 : Int32)), .unset, .unset] [(.int (0 : Int32))]))) (fun _ k => XS.iconst X0.here hx rfl (hb hby d9_0) k) ?_
  refine own_st (U' := (s₁.setTop (mkF m 3 #[.val (.ref b), .val (.int (0 : Int32)), .val (.ref d), .val (.int (0 : Int32)), .val (.int (2 : Int32)), .val (.int (0 : Int32)), .unset] []))) (fun _ k => XS.istore X0.here hx rfl (hb hby d9_1) rfl (l' := #[.val (.ref b), .val (.int (0 : Int32)), .val (.ref d), .val (.int (0 : Int32)), .val (.int (2 : Int32)), .val (.int (0 : Int32)), .unset]) rfl k) ?_
  refine own_st (U' := (s₁.setTop (mkF m 5 #[.val (.ref b), .val (.int (0 : Int32)), .val (.ref d), .val (.int (0 : Int32)), .val (.int (2 : Int32)), .val (.int (0 : Int32)), .unset] [(.int (0 : Int32))]))) (fun _ k => XS.iload X0.here hx rfl (hb hby d9_3) rfl k) ?_
  refine own_st (U' := (s₁.setTop (mkF m 7 #[.val (.ref b), .val (.int (0 : Int32)), .val (.ref d), .val (.int (0 : Int32)), .val (.int (2 : Int32)), .val (.int (0 : Int32)), .unset] [(.int (2 : Int32)), (.int (0 : Int32))]))) (fun _ k => XS.iload X0.here hx rfl (hb hby d9_5) rfl k) ?_
  refine own_st (U' := (s₁.setTop (mkF m 10 #[.val (.ref b), .val (.int (0 : Int32)), .val (.ref d), .val (.int (0 : Int32)), .val (.int (2 : Int32)), .val (.int (0 : Int32)), .unset] []))) (fun _ k => XS.icmpNo X0.here hx rfl (hb hby d9_7) rfl (tlt (by decide)).2.1 k) ?_
  refine own_st (U' := (s₁.setTop (mkF m 11 #[.val (.ref b), .val (.int (0 : Int32)), .val (.ref d), .val (.int (0 : Int32)), .val (.int (2 : Int32)), .val (.int (0 : Int32)), .unset] [(.ref b)]))) (fun _ k => XS.aloadN X0.here hx rfl (hb hby d9_10) rfl rfl k) ?_
  refine own_st (U' := (s₁.setTop (mkF m 12 #[.val (.ref b), .val (.int (0 : Int32)), .val (.ref d), .val (.int (0 : Int32)), .val (.int (2 : Int32)), .val (.int (0 : Int32)), .unset] [(.int (0 : Int32)), (.ref b)]))) (fun _ k => XS.iloadN X0.here hx rfl (hb hby d9_11) rfl k) ?_
  refine own_st (U' := (s₁.setTop (mkF m 13 #[.val (.ref b), .val (.int (0 : Int32)), .val (.ref d), .val (.int (0 : Int32)), .val (.int (2 : Int32)), .val (.int (0 : Int32)), .unset] [(.int c0)]))) (own_ldC X0 hx hZ e0 Vb (j := (0 : Int32)) (i := 0) (by decide) rfl (by decide) (v := (.int c0)) rfl (g := (mkF m 12 #[.val (.ref b), .val (.int (0 : Int32)), .val (.ref d), .val (.int (0 : Int32)), .val (.int (2 : Int32)), .val (.int (0 : Int32)), .unset] [(.int (0 : Int32)), (.ref b)])) rfl rfl (hb hby d9_12)) ?_
  refine own_st (U' := (s₁.setTop (mkF m 15 #[.val (.ref b), .val (.int (0 : Int32)), .val (.ref d), .val (.int (0 : Int32)), .val (.int (2 : Int32)), .val (.int (0 : Int32)), .val (.int c0)] []))) (fun _ k => XS.istore X0.here hx rfl (hb hby d9_13) rfl (l' := #[.val (.ref b), .val (.int (0 : Int32)), .val (.ref d), .val (.int (0 : Int32)), .val (.int (2 : Int32)), .val (.int (0 : Int32)), .val (.int c0)]) rfl k) ?_
  refine own_st (U' := (s₁.setTop (mkF m 17 #[.val (.ref b), .val (.int (0 : Int32)), .val (.ref d), .val (.int (0 : Int32)), .val (.int (2 : Int32)), .val (.int (0 : Int32)), .val (.int c0)] [(.int c0)]))) (fun _ k => XS.iload X0.here hx rfl (hb hby d9_15) rfl k) ?_
  refine own_st (U' := (s₁.setTop (mkF m 20 #[.val (.ref b), .val (.int (0 : Int32)), .val (.ref d), .val (.int (0 : Int32)), .val (.int (2 : Int32)), .val (.int (0 : Int32)), .val (.int c0)] [(.int (255 : Int32)), (.int c0)]))) (fun _ k => XS.sipush X0.here hx rfl (hb hby d9_17) k) ?_
  refine own_st (U' := (s₁.setTop (mkF m 26 #[.val (.ref b), .val (.int (0 : Int32)), .val (.ref d), .val (.int (0 : Int32)), .val (.int (2 : Int32)), .val (.int (0 : Int32)), .val (.int c0)] []))) (fun _ k => XS.icmpYes X0.here hx rfl (pc0 := 20) (pc' := 26) rfl (hb hby d9_20) rfl (flt hc0.2).2.2.2 (by decide) (by decide) k) ?_
  refine own_st (U' := (s₁.setTop (mkF m 27 #[.val (.ref b), .val (.int (0 : Int32)), .val (.ref d), .val (.int (0 : Int32)), .val (.int (2 : Int32)), .val (.int (0 : Int32)), .val (.int c0)] [(.ref d)]))) (fun _ k => XS.aloadN X0.here hx rfl (hb hby d9_26) rfl rfl k) ?_
  refine own_st (U' := (s₁.setTop (mkF m 28 #[.val (.ref b), .val (.int (0 : Int32)), .val (.ref d), .val (.int (0 : Int32)), .val (.int (2 : Int32)), .val (.int (0 : Int32)), .val (.int c0)] [(.int (0 : Int32)), (.ref d)]))) (fun _ k => XS.iloadN X0.here hx rfl (hb hby d9_27) rfl k) ?_
  refine own_st (U' := (s₁.setTop (mkF m 30 #[.val (.ref b), .val (.int (0 : Int32)), .val (.ref d), .val (.int (0 : Int32)), .val (.int (2 : Int32)), .val (.int (0 : Int32)), .val (.int c0)] [(.int c0), (.int (0 : Int32)), (.ref d)]))) (fun _ k => XS.iload X0.here hx rfl (hb hby d9_28) rfl k) ?_
  refine own_st (U' := (s₁.setTop (mkF m 31 #[.val (.ref b), .val (.int (0 : Int32)), .val (.ref d), .val (.int (0 : Int32)), .val (.int (2 : Int32)), .val (.int (0 : Int32)), .val (.int c0)] [(.int (own_byte c0)), (.int (0 : Int32)), (.ref d)]))) (fun _ k => XS.i2b X0.here hx rfl (hb hby d9_30) rfl k) ?_
  obtain ⟨T24, h24, X24, e24, W24, V24, st24⟩ := own_stB X0 hx hZ e0 Vd (j := (0 : Int32)) (i := 0) (by decide) rfl (by decide) (g := (mkF m 31 #[.val (.ref b), .val (.int (0 : Int32)), .val (.ref d), .val (.int (0 : Int32)), .val (.int (2 : Int32)), .val (.int (0 : Int32)), .val (.int c0)] [(.int (own_byte c0)), (.int (0 : Int32)), (.ref d)])) rfl rfl (hb hby d9_31)
  have Vb := Vb.other W24 ne_b_d
  have Vd := V24
  have N24 := Fr.snoc X24 N0 g_d
  have Z24 : n0 ≤ h24.size := Nat.le_trans Z0 (Nat.le_of_eq W24.size.symm)
  have K24 := (Keep.refl h0 [d]).wr W24 (Or.inl (List.mem_of_getElem? (i := 0) rfl))
  refine own_st (U' := (T24.setTop (mkF m 32 #[.val (.ref b), .val (.int (0 : Int32)), .val (.ref d), .val (.int (0 : Int32)), .val (.int (2 : Int32)), .val (.int (0 : Int32)), .val (.int c0)] []))) st24 ?_
  refine own_st (U' := (T24.setTop (mkF m 35 #[.val (.ref b), .val (.int (1 : Int32)), .val (.ref d), .val (.int (0 : Int32)), .val (.int (2 : Int32)), .val (.int (0 : Int32)), .val (.int c0)] []))) (fun _ k => XS.iinc X24.here hx rfl (hb hby d9_32) rfl (l' := #[.val (.ref b), .val (.int (1 : Int32)), .val (.ref d), .val (.int (0 : Int32)), .val (.int (2 : Int32)), .val (.int (0 : Int32)), .val (.int c0)]) rfl k) ?_
  refine own_st (U' := (T24.setTop (mkF m 38 #[.val (.ref b), .val (.int (1 : Int32)), .val (.ref d), .val (.int (1 : Int32)), .val (.int (2 : Int32)), .val (.int (0 : Int32)), .val (.int c0)] []))) (fun _ k => XS.iinc X24.here hx rfl (hb hby d9_35) rfl (l' := #[.val (.ref b), .val (.int (1 : Int32)), .val (.ref d), .val (.int (1 : Int32)), .val (.int (2 : Int32)), .val (.int (0 : Int32)), .val (.int c0)]) rfl k) ?_
  refine own_st (U' := (T24.setTop (mkF m 41 #[.val (.ref b), .val (.int (1 : Int32)), .val (.ref d), .val (.int (1 : Int32)), .val (.int (2 : Int32)), .val (.int (1 : Int32)), .val (.int c0)] []))) (fun _ k => XS.iinc X24.here hx rfl (hb hby d9_38) rfl (l' := #[.val (.ref b), .val (.int (1 : Int32)), .val (.ref d), .val (.int (1 : Int32)), .val (.int (2 : Int32)), .val (.int (1 : Int32)), .val (.int c0)]) rfl k) ?_
  refine own_st (U' := (T24.setTop (mkF m 3 #[.val (.ref b), .val (.int (1 : Int32)), .val (.ref d), .val (.int (1 : Int32)), .val (.int (2 : Int32)), .val (.int (1 : Int32)), .val (.int c0)] []))) (fun _ k => XS.goto X24.here hx rfl (pc0 := 41) (pc' := 3) rfl (hb hby d9_41) (by decide) (by decide) k) ?_
  refine own_st (U' := (T24.setTop (mkF m 5 #[.val (.ref b), .val (.int (1 : Int32)), .val (.ref d), .val (.int (1 : Int32)), .val (.int (2 : Int32)), .val (.int (1 : Int32)), .val (.int c0)] [(.int (1 : Int32))]))) (fun _ k => XS.iload X24.here hx rfl (hb hby d9_3) rfl k) ?_
  refine own_st (U' := (T24.setTop (mkF m 7 #[.val (.ref b), .val (.int (1 : Int32)), .val (.ref d), .val (.int (1 : Int32)), .val (.int (2 : Int32)), .val (.int (1 : Int32)), .val (.int c0)] [(.int (2 : Int32)), (.int (1 : Int32))]))) (fun _ k => XS.iload X24.here hx rfl (hb hby d9_5) rfl k) ?_
  refine own_st (U' := (T24.setTop (mkF m 10 #[.val (.ref b), .val (.int (1 : Int32)), .val (.ref d), .val (.int (1 : Int32)), .val (.int (2 : Int32)), .val (.int (1 : Int32)), .val (.int c0)] []))) (fun _ k => XS.icmpNo X24.here hx rfl (hb hby d9_7) rfl (tlt (by decide)).2.1 k) ?_
  refine own_st (U' := (T24.setTop (mkF m 11 #[.val (.ref b), .val (.int (1 : Int32)), .val (.ref d), .val (.int (1 : Int32)), .val (.int (2 : Int32)), .val (.int (1 : Int32)), .val (.int c0)] [(.ref b)]))) (fun _ k => XS.aloadN X24.here hx rfl (hb hby d9_10) rfl rfl k) ?_
  refine own_st (U' := (T24.setTop (mkF m 12 #[.val (.ref b), .val (.int (1 : Int32)), .val (.ref d), .val (.int (1 : Int32)), .val (.int (2 : Int32)), .val (.int (1 : Int32)), .val (.int c0)] [(.int (1 : Int32)), (.ref b)]))) (fun _ k => XS.iloadN X24.here hx rfl (hb hby d9_11) rfl k) ?_
  refine own_st (U' := (T24.setTop (mkF m 13 #[.val (.ref b), .val (.int (1 : Int32)), .val (.ref d), .val (.int (1 : Int32)), .val (.int (2 : Int32)), .val (.int (1 : Int32)), .val (.int c0)] [(.int c1)]))) (own_ldC X24 hx hZ e24 Vb (j := (1 : Int32)) (i := 1) (by decide) rfl (by decide) (v := (.int c1)) rfl (g := (mkF m 12 #[.val (.ref b), .val (.int (1 : Int32)), .val (.ref d), .val (.int (1 : Int32)), .val (.int (2 : Int32)), .val (.int (1 : Int32)), .val (.int c0)] [(.int (1 : Int32)), (.ref b)])) rfl rfl (hb hby d9_12)) ?_
  refine own_st (U' := (T24.setTop (mkF m 15 #[.val (.ref b), .val (.int (1 : Int32)), .val (.ref d), .val (.int (1 : Int32)), .val (.int (2 : Int32)), .val (.int (1 : Int32)), .val (.int c1)] []))) (fun _ k => XS.istore X24.here hx rfl (hb hby d9_13) rfl (l' := #[.val (.ref b), .val (.int (1 : Int32)), .val (.ref d), .val (.int (1 : Int32)), .val (.int (2 : Int32)), .val (.int (1 : Int32)), .val (.int c1)]) rfl k) ?_
  refine own_st (U' := (T24.setTop (mkF m 17 #[.val (.ref b), .val (.int (1 : Int32)), .val (.ref d), .val (.int (1 : Int32)), .val (.int (2 : Int32)), .val (.int (1 : Int32)), .val (.int c1)] [(.int c1)]))) (fun _ k => XS.iload X24.here hx rfl (hb hby d9_15) rfl k) ?_
  refine own_st (U' := (T24.setTop (mkF m 20 #[.val (.ref b), .val (.int (1 : Int32)), .val (.ref d), .val (.int (1 : Int32)), .val (.int (2 : Int32)), .val (.int (1 : Int32)), .val (.int c1)] [(.int (255 : Int32)), (.int c1)]))) (fun _ k => XS.sipush X24.here hx rfl (hb hby d9_17) k) ?_
  refine own_st (U' := (T24.setTop (mkF m 26 #[.val (.ref b), .val (.int (1 : Int32)), .val (.ref d), .val (.int (1 : Int32)), .val (.int (2 : Int32)), .val (.int (1 : Int32)), .val (.int c1)] []))) (fun _ k => XS.icmpYes X24.here hx rfl (pc0 := 20) (pc' := 26) rfl (hb hby d9_20) rfl (flt hc1.2).2.2.2 (by decide) (by decide) k) ?_
  refine own_st (U' := (T24.setTop (mkF m 27 #[.val (.ref b), .val (.int (1 : Int32)), .val (.ref d), .val (.int (1 : Int32)), .val (.int (2 : Int32)), .val (.int (1 : Int32)), .val (.int c1)] [(.ref d)]))) (fun _ k => XS.aloadN X24.here hx rfl (hb hby d9_26) rfl rfl k) ?_
  refine own_st (U' := (T24.setTop (mkF m 28 #[.val (.ref b), .val (.int (1 : Int32)), .val (.ref d), .val (.int (1 : Int32)), .val (.int (2 : Int32)), .val (.int (1 : Int32)), .val (.int c1)] [(.int (1 : Int32)), (.ref d)]))) (fun _ k => XS.iloadN X24.here hx rfl (hb hby d9_27) rfl k) ?_
  refine own_st (U' := (T24.setTop (mkF m 30 #[.val (.ref b), .val (.int (1 : Int32)), .val (.ref d), .val (.int (1 : Int32)), .val (.int (2 : Int32)), .val (.int (1 : Int32)), .val (.int c1)] [(.int c1), (.int (1 : Int32)), (.ref d)]))) (fun _ k => XS.iload X24.here hx rfl (hb hby d9_28) rfl k) ?_
  refine own_st (U' := (T24.setTop (mkF m 31 #[.val (.ref b), .val (.int (1 : Int32)), .val (.ref d), .val (.int (1 : Int32)), .val (.int (2 : Int32)), .val (.int (1 : Int32)), .val (.int c1)] [(.int (own_byte c1)), (.int (1 : Int32)), (.ref d)]))) (fun _ k => XS.i2b X24.here hx rfl (hb hby d9_30) rfl k) ?_
  obtain ⟨T25, h25, X25, e25, W25, V25, st25⟩ := own_stB X24 hx hZ e24 Vd (j := (1 : Int32)) (i := 1) (by decide) rfl (by decide) (g := (mkF m 31 #[.val (.ref b), .val (.int (1 : Int32)), .val (.ref d), .val (.int (1 : Int32)), .val (.int (2 : Int32)), .val (.int (1 : Int32)), .val (.int c1)] [(.int (own_byte c1)), (.int (1 : Int32)), (.ref d)])) rfl rfl (hb hby d9_31)
  have Vb := Vb.other W25 ne_b_d
  have Vd := V25
  have N25 := Fr.snoc X25 N24 g_d
  have Z25 : n0 ≤ h25.size := Nat.le_trans Z24 (Nat.le_of_eq W25.size.symm)
  have K25 := K24.wr W25 (Or.inl (List.mem_of_getElem? (i := 0) rfl))
  refine own_st (U' := (T25.setTop (mkF m 32 #[.val (.ref b), .val (.int (1 : Int32)), .val (.ref d), .val (.int (1 : Int32)), .val (.int (2 : Int32)), .val (.int (1 : Int32)), .val (.int c1)] []))) st25 ?_
  refine own_st (U' := (T25.setTop (mkF m 35 #[.val (.ref b), .val (.int (2 : Int32)), .val (.ref d), .val (.int (1 : Int32)), .val (.int (2 : Int32)), .val (.int (1 : Int32)), .val (.int c1)] []))) (fun _ k => XS.iinc X25.here hx rfl (hb hby d9_32) rfl (l' := #[.val (.ref b), .val (.int (2 : Int32)), .val (.ref d), .val (.int (1 : Int32)), .val (.int (2 : Int32)), .val (.int (1 : Int32)), .val (.int c1)]) rfl k) ?_
  refine own_st (U' := (T25.setTop (mkF m 38 #[.val (.ref b), .val (.int (2 : Int32)), .val (.ref d), .val (.int (2 : Int32)), .val (.int (2 : Int32)), .val (.int (1 : Int32)), .val (.int c1)] []))) (fun _ k => XS.iinc X25.here hx rfl (hb hby d9_35) rfl (l' := #[.val (.ref b), .val (.int (2 : Int32)), .val (.ref d), .val (.int (2 : Int32)), .val (.int (2 : Int32)), .val (.int (1 : Int32)), .val (.int c1)]) rfl k) ?_
  refine own_st (U' := (T25.setTop (mkF m 41 #[.val (.ref b), .val (.int (2 : Int32)), .val (.ref d), .val (.int (2 : Int32)), .val (.int (2 : Int32)), .val (.int (2 : Int32)), .val (.int c1)] []))) (fun _ k => XS.iinc X25.here hx rfl (hb hby d9_38) rfl (l' := #[.val (.ref b), .val (.int (2 : Int32)), .val (.ref d), .val (.int (2 : Int32)), .val (.int (2 : Int32)), .val (.int (2 : Int32)), .val (.int c1)]) rfl k) ?_
  refine own_st (U' := (T25.setTop (mkF m 3 #[.val (.ref b), .val (.int (2 : Int32)), .val (.ref d), .val (.int (2 : Int32)), .val (.int (2 : Int32)), .val (.int (2 : Int32)), .val (.int c1)] []))) (fun _ k => XS.goto X25.here hx rfl (pc0 := 41) (pc' := 3) rfl (hb hby d9_41) (by decide) (by decide) k) ?_
  refine own_st (U' := (T25.setTop (mkF m 5 #[.val (.ref b), .val (.int (2 : Int32)), .val (.ref d), .val (.int (2 : Int32)), .val (.int (2 : Int32)), .val (.int (2 : Int32)), .val (.int c1)] [(.int (2 : Int32))]))) (fun _ k => XS.iload X25.here hx rfl (hb hby d9_3) rfl k) ?_
  refine own_st (U' := (T25.setTop (mkF m 7 #[.val (.ref b), .val (.int (2 : Int32)), .val (.ref d), .val (.int (2 : Int32)), .val (.int (2 : Int32)), .val (.int (2 : Int32)), .val (.int c1)] [(.int (2 : Int32)), (.int (2 : Int32))]))) (fun _ k => XS.iload X25.here hx rfl (hb hby d9_5) rfl k) ?_
  refine own_st (U' := (T25.setTop (mkF m 44 #[.val (.ref b), .val (.int (2 : Int32)), .val (.ref d), .val (.int (2 : Int32)), .val (.int (2 : Int32)), .val (.int (2 : Int32)), .val (.int c1)] []))) (fun _ k => XS.icmpYes X25.here hx rfl (pc0 := 7) (pc' := 44) rfl (hb hby d9_7) rfl (flt (by decide)).2.1 (by decide) (by decide) k) ?_
  refine own_st (U' := (T25.setTop (mkF m 46 #[.val (.ref b), .val (.int (2 : Int32)), .val (.ref d), .val (.int (2 : Int32)), .val (.int (2 : Int32)), .val (.int (2 : Int32)), .val (.int c1)] [(.int (2 : Int32))]))) (fun _ k => XS.iload X25.here hx rfl (hb hby d9_44) rfl k) ?_
  have Vd : own_A Z h25 d .byte 2 (fun j => .int (own_byte ([c0, c1].getD j 0))) := Vd.congr (by intro j hj; rcases j with _ | _ | j <;> first | exact congrArg Value.int (own_nbyte hc0) | exact congrArg Value.int (own_nbyte hc1) | omega)
  exact own_retI X25 hx Bd.returns Bd.notSynchronized (hb hby d9_46) (by decide) (by decide) (⟨rfl, N25, by rw [e25]; exact K25, by rw [e25]; exact Vd⟩)
theorem pn_rmC3_2 : plainName "java/lang/StringUTF16" = true := by first | (simp [plainName, overriddenIn]; done) | decide +kernel
theorem ef_rmC3_2 (m : MethodId) (x0 : Addr) (x1 : Int32) (x2 : Int32) : entryFrame m #[(.ref x0), (.int x1), (.int x2)] 6 = mkF m 0 #[.val (.ref x0), .val (.int x1), .val (.int x2), .unset, .unset, .unset] [] := by first | (simp [entryFrame, mkF, argsToLocals, Value.category, maxLocals]; done) | rfl
def Q_rmC3_2 (Z : State) (b : Addr) (c0 : Int32) (c1 : Int32) (h0 : Heap) (n0 : Nat) (v : Option Value) (h : Heap) (L : List Loc) : Prop := ∃ r : Addr, v = some (.ref r) ∧ Fr n0 L ∧ Keep h0 h [] ∧ h0.size ≤ r ∧ own_A Z h r .byte 2 (fun j => .int (own_byte ([c0, c1].getD j 0)))
set_option maxRecDepth 65536 in
set_option maxHeartbeats 40000000 in
theorem rmC3_2 (l : Launch) (Z : State) (a0 : Array Value) (hw : ∀ d ∈ tables_1, d.before a0 Z = true) (ws : List Jvm.Cond) (b : Addr) (c0 : Int32) (c1 : Int32) (h0 : Heap) (n0 : Nat) (Z0 : n0 ≤ h0.size) (Vb : own_A Z h0 b .char 2 (own_L [c0, c1])) (hc0 : own_in c0) (hc1 : own_in c1) :
    MetFree l (⟨"java/lang/StringUTF16", "compress", "([CII)[B"⟩ : MethodName) (head1 (Jvm.Cond.code (⟨"java/lang/StringUTF16", "compress", "([CII)[B"⟩ : MethodName) jdk_52_method_16_code 6 (some (.array .byte)) :: ws) ({ frames := 1, cells := 1, slots := 2, locals := 18 } : Room)) (fun as1 U => as1 = #[(.ref b), (.int (0 : Int32)), (.int (2 : Int32))] ∧ Z.Warmed39 U.vm ∧ U.heap = h0) (fun _ _ _ _ _ => True) (fun _ U o U' => ∃ v L, o = .returned v ∧ Q_rmC3_2 Z b c0 c1 h0 n0 v U'.heap L ∧ FrameEnd U o U' L ({ frames := 1, cells := 1, slots := 2, locals := 18 } : Room).cells ({ frames := 1, cells := 1, slots := 2, locals := 18 } : Room).slots) := by
  refine MetFree.of_bodySF (plainFor_of_name pn_rmC3_2) hisR ?_
  intro p e s m args below meth c s₁ Bd hml0 hP hK
  obtain ⟨rfl, hZ, hh⟩ := hP
  have hx := Bd.exec
  have hby := Bd.bytes
  have hml : c.maxLocals = 6 := hml0
  have hown : s.vm.findClass "java/lang/StringUTF16" = some m.cls := findClass_of_methodNamed Bd.named
  have hnm := (name_of_methodNamed Bd.named Bd.method).1
  have X0 : Stand p l e ({ frames := 1, cells := 1, slots := 2, locals := 18 } : Room) s m #[(.ref b), (.int (0 : Int32)), (.int (2 : Int32))] below meth c s₁ [] 0 0 := Stand.of_body Bd
  have e0 : s₁.heap = h0 := by rw [← hh, Bd.state]; rfl
  have N0 := Fr.nil n0
  show own_Ends p e s below (Q_rmC3_2 Z b c0 c1 h0 n0) ({ frames := 1, cells := 1, slots := 2, locals := 18 } : Room).cells ({ frames := 1, cells := 1, slots := 2, locals := 18 } : Room).slots (s₁.setTop (entryFrame m #[(.ref b), (.int (0 : Int32)), (.int (2 : Int32))] 6))
  refine own_st (U' := (s₁.setTop (mkF m 0 #[.val (.ref b), .val (.int (0 : Int32)), .val (.int (2 : Int32)), .unset, .unset, .unset] []))) (fun _ k => castTop (ef_rmC3_2 m b (0 : Int32) (2 : Int32)) k) ?_
  refine own_st (U' := (s₁.setTop (mkF m 1 #[.val (.ref b), .val (.int (0 : Int32)), .val (.int (2 : Int32)), .unset, .unset, .unset] [(.int (2 : Int32))]))) (fun _ k => XS.iloadN X0.here hx rfl (hb hby d8_0) rfl k) ?_
  obtain ⟨T26, h26, k26, X26, e26, E26, A26, st26⟩ := newP X0 hx hZ (hw _ (List.mem_of_getElem? (i := 31) rfl)) e0 (g := (mkF m 1 #[.val (.ref b), .val (.int (0 : Int32)), .val (.int (2 : Int32)), .unset, .unset, .unset] [(.int (2 : Int32))])) rfl (hb hby d8_1) rfl (by decide) (cap := 2) (by decide) (by decide) (by decide) (by decide)
  obtain ⟨b26, g26⟩ : ∃ z, z = h0.size := ⟨_, rfl⟩
  rw [← g26] at A26 st26
  have ne_b_b26 : b ≠ b26 := Nat.ne_of_lt (Nat.lt_of_lt_of_eq Vb.lt g26.symm)
  have g_b26 : n0 ≤ b26 := Nat.le_trans Z0 (Nat.le_of_eq g26.symm)
  have sz_b26 : h0.size ≤ b26 := Nat.le_trans (Keep.refl h0 []).1 (Nat.le_of_eq g26.symm)
  have Vb := Vb.ext E26
  have Z26 : n0 ≤ h26.size := Nat.le_trans Z0 E26.1
  have K26 := (Keep.refl h0 []).ext E26
  have V_b26 : own_A Z h26 b26 .byte 2 (fun _ => defaultValue .byte) := own_A.new A26 (by decide)
  refine own_st (U' := (T26.setTop (mkF m 3 #[.val (.ref b), .val (.int (0 : Int32)), .val (.int (2 : Int32)), .unset, .unset, .unset] [(.ref b26)]))) st26 ?_
  refine own_st (U' := (T26.setTop (mkF m 4 #[.val (.ref b), .val (.int (0 : Int32)), .val (.int (2 : Int32)), .val (.ref b26), .unset, .unset] []))) (fun _ k => XS.astoreN X26.here hx rfl (hb hby d8_3) rfl rfl (l' := #[.val (.ref b), .val (.int (0 : Int32)), .val (.int (2 : Int32)), .val (.ref b26), .unset, .unset]) rfl k) ?_
  refine own_st (U' := (T26.setTop (mkF m 5 #[.val (.ref b), .val (.int (0 : Int32)), .val (.int (2 : Int32)), .val (.ref b26), .unset, .unset] [(.ref b)]))) (fun _ k => XS.aloadN X26.here hx rfl (hb hby d8_4) rfl rfl k) ?_
  refine own_st (U' := (T26.setTop (mkF m 6 #[.val (.ref b), .val (.int (0 : Int32)), .val (.int (2 : Int32)), .val (.ref b26), .unset, .unset] [(.int (0 : Int32)), (.ref b)]))) (fun _ k => XS.iloadN X26.here hx rfl (hb hby d8_5) rfl k) ?_
  refine own_st (U' := (T26.setTop (mkF m 7 #[.val (.ref b), .val (.int (0 : Int32)), .val (.int (2 : Int32)), .val (.ref b26), .unset, .unset] [(.ref b26), (.int (0 : Int32)), (.ref b)]))) (fun _ k => XS.aloadN X26.here hx rfl (hb hby d8_6) rfl rfl k) ?_
  refine own_st (U' := (T26.setTop (mkF m 8 #[.val (.ref b), .val (.int (0 : Int32)), .val (.int (2 : Int32)), .val (.ref b26), .unset, .unset] [(.int (0 : Int32)), (.ref b26), (.int (0 : Int32)), (.ref b)]))) (fun _ k => XS.iconst X26.here hx rfl (hb hby d8_7) k) ?_
  refine own_st (U' := (T26.setTop (mkF m 9 #[.val (.ref b), .val (.int (0 : Int32)), .val (.int (2 : Int32)), .val (.ref b26), .unset, .unset] [(.int (2 : Int32)), (.int (0 : Int32)), (.ref b26), (.int (0 : Int32)), (.ref b)]))) (fun _ k => XS.iloadN X26.here hx rfl (hb hby d8_8) rfl k) ?_
  obtain ⟨_, _, ⟨T27, L27, k27, n27⟩, -, X27, ⟨Lc27, hQ27, l27, y27, z27⟩, st27⟩ := Jvm.LawKit.callS X26 hx (y := (⟨"java/lang/StringUTF16", "compress", "([CI[BII)I"⟩ : MethodName)) hown (mvT hZ (hw _ (List.mem_of_getElem? (i := 43) rfl))) (mvT hZ (hw _ (List.mem_of_getElem? (i := 44) rfl))) (mvT hZ (hw _ (List.mem_of_getElem? (i := 41) rfl))) (mvT hZ (hw _ (List.mem_of_getElem? (i := 45) rfl))) (by decide) (backOf (W := 0) (rmC5_2 l Z a0 hw [] b b26 c0 c1 h26 n0 Z26 Vb V_b26 ne_b_b26 g_b26 hc0 hc1) hZ (hw _ (List.mem_of_getElem? (i := 45) rfl)) (hw _ (List.mem_of_getElem? (i := 41) rfl)) (by decide) (by decide)) (g := (mkF m 9 #[.val (.ref b), .val (.int (0 : Int32)), .val (.int (2 : Int32)), .val (.ref b26), .unset, .unset] [(.int (2 : Int32)), (.int (0 : Int32)), (.ref b26), (.int (0 : Int32)), (.ref b)])) rfl (by rw [hml]; rfl) (argsL := [(.ref b), (.int (0 : Int32)), (.ref b26), (.int (0 : Int32)), (.int (2 : Int32))]) (rest := []) (lenOf (pd_d9) rfl) rfl (by show 2 * 0 + _ ≤ _; exact Nat.le_of_eq rfl) (hb hby d8_9) (fun _ _ => ⟨rfl, e26, (Nat.le_of_ble_eq_true rfl), (Nat.le_of_ble_eq_true rfl)⟩)
  dsimp only [Pt.U, Pt.locs, Pt.cells, Pt.slots] at X27 l27 y27 z27 st27 hQ27
  subst l27 y27 z27
  obtain ⟨rfl, Nq27, Kq27, Vd⟩ := hQ27
  have N27 := Fr.app N0 Nq27
  have Z27 : n0 ≤ T27.heap.size := Nat.le_trans Z26 Kq27.1
  have K27 := K26.trans Kq27 (fun x hx => Or.inr (by cases List.mem_singleton.mp hx; exact sz_b26))
  refine own_st (U' := (T27.setTop (mkF m 12 #[.val (.ref b), .val (.int (0 : Int32)), .val (.int (2 : Int32)), .val (.ref b26), .unset, .unset] [(.int (2 : Int32))]))) st27 ?_
  refine own_st (U' := (T27.setTop (mkF m 14 #[.val (.ref b), .val (.int (0 : Int32)), .val (.int (2 : Int32)), .val (.ref b26), .val (.int (2 : Int32)), .unset] []))) (fun _ k => XS.istore X27.here hx rfl (hb hby d8_12) rfl (l' := #[.val (.ref b), .val (.int (0 : Int32)), .val (.int (2 : Int32)), .val (.ref b26), .val (.int (2 : Int32)), .unset]) rfl k) ?_
  refine own_st (U' := (T27.setTop (mkF m 16 #[.val (.ref b), .val (.int (0 : Int32)), .val (.int (2 : Int32)), .val (.ref b26), .val (.int (2 : Int32)), .unset] [(.int (2 : Int32))]))) (fun _ k => XS.iload X27.here hx rfl (hb hby d8_14) rfl k) ?_
  refine own_st (U' := (T27.setTop (mkF m 17 #[.val (.ref b), .val (.int (0 : Int32)), .val (.int (2 : Int32)), .val (.ref b26), .val (.int (2 : Int32)), .unset] [(.int (2 : Int32)), (.int (2 : Int32))]))) (fun _ k => XS.iloadN X27.here hx rfl (hb hby d8_16) rfl k) ?_
  refine own_st (U' := (T27.setTop (mkF m 57 #[.val (.ref b), .val (.int (0 : Int32)), .val (.int (2 : Int32)), .val (.ref b26), .val (.int (2 : Int32)), .unset] []))) (fun _ k => XS.icmpYes X27.here hx rfl (pc0 := 17) (pc' := 57) rfl (hb hby d8_17) rfl (teq rfl).1 (by decide) (by decide) k) ?_
  refine own_st (U' := (T27.setTop (mkF m 58 #[.val (.ref b), .val (.int (0 : Int32)), .val (.int (2 : Int32)), .val (.ref b26), .val (.int (2 : Int32)), .unset] [(.ref b26)]))) (fun _ k => XS.aloadN X27.here hx rfl (hb hby d8_57) rfl rfl k) ?_
  exact own_retA X27 hx (t := (.array .byte)) Bd.returns Bd.notSynchronized rfl rfl (hb hby d8_58) (by decide) (by decide) (⟨b26, rfl, N27, K27, sz_b26, Vd⟩)
theorem pn_rmCod_2 : plainName "java/lang/StringUTF16" = true := by first | (simp [plainName, overriddenIn]; done) | decide +kernel
theorem ef_rmCod_2 (m : MethodId) (x0 : Addr) (x1 : Int32) : entryFrame m #[(.ref x0), (.int x1)] 2 = mkF m 0 #[.val (.ref x0), .val (.int x1)] [] := by first | (simp [entryFrame, mkF, argsToLocals, Value.category, maxLocals]; done) | rfl
def Q_rmCod_2 (Z : State) (d : Addr) (f : Nat → Value) (h0 : Heap) (n0 : Nat) (v : Option Value) (h : Heap) (L : List Loc) : Prop := v = some (.int 0) ∧ Fr n0 L ∧ h = h0
set_option maxRecDepth 65536 in
set_option maxHeartbeats 40000000 in
theorem rmCod_2 (l : Launch) (Z : State) (a0 : Array Value) (hw : ∀ d ∈ tables_1, d.before a0 Z = true) (ws : List Jvm.Cond) (d : Addr) (f : Nat → Value) (h0 : Heap) (n0 : Nat) (Z0 : n0 ≤ h0.size) (Vd : own_A Z h0 d .byte 2 f) :
    MetFree l (⟨"java/lang/StringUTF16", "coderFromArrayLen", "([BI)B"⟩ : MethodName) (head1 (Jvm.Cond.code (⟨"java/lang/StringUTF16", "coderFromArrayLen", "([BI)B"⟩ : MethodName) jdk_52_method_15_code 2 (some .byte) :: ws) ({ frames := 0, cells := 0, slots := 0, locals := 0 } : Room)) (fun as1 U => as1 = #[(.ref d), (.int (2 : Int32))] ∧ Z.Warmed39 U.vm ∧ U.heap = h0) (fun _ _ _ _ _ => True) (fun _ U o U' => ∃ v L, o = .returned v ∧ Q_rmCod_2 Z d f h0 n0 v U'.heap L ∧ FrameEnd U o U' L ({ frames := 0, cells := 0, slots := 0, locals := 0 } : Room).cells ({ frames := 0, cells := 0, slots := 0, locals := 0 } : Room).slots) := by
  refine MetFree.of_bodySF (plainFor_of_name pn_rmCod_2) hisR ?_
  intro p e s m args below meth c s₁ Bd hml0 hP hK
  obtain ⟨rfl, hZ, hh⟩ := hP
  have hx := Bd.exec
  have hby := Bd.bytes
  have hml : c.maxLocals = 2 := hml0
  have hown : s.vm.findClass "java/lang/StringUTF16" = some m.cls := findClass_of_methodNamed Bd.named
  have hnm := (name_of_methodNamed Bd.named Bd.method).1
  have X0 : Stand p l e ({ frames := 0, cells := 0, slots := 0, locals := 0 } : Room) s m #[(.ref d), (.int (2 : Int32))] below meth c s₁ [] 0 0 := Stand.of_body Bd
  have e0 : s₁.heap = h0 := by rw [← hh, Bd.state]; rfl
  have N0 := Fr.nil n0
  show own_Ends p e s below (Q_rmCod_2 Z d f h0 n0) ({ frames := 0, cells := 0, slots := 0, locals := 0 } : Room).cells ({ frames := 0, cells := 0, slots := 0, locals := 0 } : Room).slots (s₁.setTop (entryFrame m #[(.ref d), (.int (2 : Int32))] 2))
  refine own_st (U' := (s₁.setTop (mkF m 0 #[.val (.ref d), .val (.int (2 : Int32))] []))) (fun _ k => castTop (ef_rmCod_2 m d (2 : Int32)) k) ?_
  refine own_st (U' := (s₁.setTop (mkF m 1 #[.val (.ref d), .val (.int (2 : Int32))] [(.int (2 : Int32))]))) (fun _ k => XS.iloadN X0.here hx rfl (hb hby d10_0) rfl k) ?_
  refine own_st (U' := (s₁.setTop (mkF m 2 #[.val (.ref d), .val (.int (2 : Int32))] [(.ref d), (.int (2 : Int32))]))) (fun _ k => XS.aloadN X0.here hx rfl (hb hby d10_1) rfl rfl k) ?_
  refine own_st (U' := (s₁.setTop (mkF m 3 #[.val (.ref d), .val (.int (2 : Int32))] [(.int (2 : Int32)), (.int (2 : Int32))]))) (own_len X0 hx hZ e0 Vd (z := (2 : Int32)) rfl (g := (mkF m 2 #[.val (.ref d), .val (.int (2 : Int32))] [(.ref d), (.int (2 : Int32))])) rfl rfl (hb hby d10_2)) ?_
  refine own_st (U' := (s₁.setTop (mkF m 4 #[.val (.ref d), .val (.int (2 : Int32))] [(.int (0 : Int32))]))) (fun _ k => XS.isub X0.here hx rfl (hb hby d10_3) rfl k) ?_
  refine own_st (U' := (s₁.setTop (mkF m 6 #[.val (.ref d), .val (.int (2 : Int32))] [(.int (31 : Int32)), (.int (0 : Int32))]))) (fun _ k => XS.bipush X0.here hx rfl (hb hby d10_4) k) ?_
  refine own_st (U' := (s₁.setTop (mkF m 7 #[.val (.ref d), .val (.int (2 : Int32))] [(.int (0 : Int32))]))) (fun _ k => XS.iushr X0.here hx rfl (hb hby d10_6) rfl k) ?_
  refine own_st (U' := (s₁.setTop (mkF m 8 #[.val (.ref d), .val (.int (2 : Int32))] [(.int (0 : Int32))]))) (fun _ k => XS.i2b X0.here hx rfl (hb hby d10_7) rfl k) ?_
  exact own_retN X0 hx (t := .byte) Bd.returns Bd.notSynchronized (by simp) rfl (hb hby d10_8) (by decide) (by decide) (⟨rfl, N0, e0⟩)
theorem d6_0 : decode jdk_42_method_149_code 0 = .ok (.aload_n 0, 1) := by decide +kernel
theorem d6_1 : decode jdk_42_method_149_code 1 = .ok (.invokespecial 1, 3) := by decide +kernel
theorem d6_4 : decode jdk_42_method_149_code 4 = .ok (.iload_n 3, 1) := by decide +kernel
theorem d6_5 : decode jdk_42_method_149_code 5 = .ok (.ifCond .ne 22, 3) := by decide +kernel
theorem d6_8 : decode jdk_42_method_149_code 8 = .ok (.aload_n 0, 1) := by decide +kernel
theorem d6_9 : decode jdk_42_method_149_code 9 = .ok (.ldc 7, 2) := by decide +kernel
theorem d6_11 : decode jdk_42_method_149_code 11 = .ok (.getfield 9, 3) := by decide +kernel
theorem d6_14 : decode jdk_42_method_149_code 14 = .ok (.putfield 9, 3) := by decide +kernel
theorem d6_17 : decode jdk_42_method_149_code 17 = .ok (.aload_n 0, 1) := by decide +kernel
theorem d6_18 : decode jdk_42_method_149_code 18 = .ok (.ldc 7, 2) := by decide +kernel
theorem d6_20 : decode jdk_42_method_149_code 20 = .ok (.getfield 15, 3) := by decide +kernel
theorem d6_23 : decode jdk_42_method_149_code 23 = .ok (.putfield 15, 3) := by decide +kernel
theorem d6_26 : decode jdk_42_method_149_code 26 = .ok (.return_, 1) := by decide +kernel
theorem d6_27 : decode jdk_42_method_149_code 27 = .ok (.getstatic 38, 3) := by decide +kernel
theorem d6_30 : decode jdk_42_method_149_code 30 = .ok (.ifCond .eq 28, 3) := by decide +kernel
theorem d6_33 : decode jdk_42_method_149_code 33 = .ok (.aload_n 1, 1) := by decide +kernel
theorem d6_34 : decode jdk_42_method_149_code 34 = .ok (.iload_n 2, 1) := by decide +kernel
theorem d6_35 : decode jdk_42_method_149_code 35 = .ok (.iload_n 3, 1) := by decide +kernel
theorem d6_36 : decode jdk_42_method_149_code 36 = .ok (.invokestatic 177, 3) := by decide +kernel
theorem d6_39 : decode jdk_42_method_149_code 39 = .ok (.astore 5, 2) := by decide +kernel
theorem d6_41 : decode jdk_42_method_149_code 41 = .ok (.aload_n 0, 1) := by decide +kernel
theorem d6_42 : decode jdk_42_method_149_code 42 = .ok (.aload 5, 2) := by decide +kernel
theorem d6_44 : decode jdk_42_method_149_code 44 = .ok (.iload_n 3, 1) := by decide +kernel
theorem d6_45 : decode jdk_42_method_149_code 45 = .ok (.invokestatic 47, 3) := by decide +kernel
theorem d6_48 : decode jdk_42_method_149_code 48 = .ok (.putfield 15, 3) := by decide +kernel
theorem d6_51 : decode jdk_42_method_149_code 51 = .ok (.aload_n 0, 1) := by decide +kernel
theorem d6_52 : decode jdk_42_method_149_code 52 = .ok (.aload 5, 2) := by decide +kernel
theorem d6_54 : decode jdk_42_method_149_code 54 = .ok (.putfield 9, 3) := by decide +kernel
theorem d6_57 : decode jdk_42_method_149_code 57 = .ok (.return_, 1) := by decide +kernel
theorem d6_58 : decode jdk_42_method_149_code 58 = .ok (.aload_n 0, 1) := by decide +kernel
theorem d6_59 : decode jdk_42_method_149_code 59 = .ok (.iconst 1, 1) := by decide +kernel
theorem d6_60 : decode jdk_42_method_149_code 60 = .ok (.putfield 15, 3) := by decide +kernel
theorem d6_63 : decode jdk_42_method_149_code 63 = .ok (.aload_n 0, 1) := by decide +kernel
theorem d6_64 : decode jdk_42_method_149_code 64 = .ok (.aload_n 1, 1) := by decide +kernel
theorem d6_65 : decode jdk_42_method_149_code 65 = .ok (.iload_n 2, 1) := by decide +kernel
theorem d6_66 : decode jdk_42_method_149_code 66 = .ok (.iload_n 3, 1) := by decide +kernel
theorem d6_67 : decode jdk_42_method_149_code 67 = .ok (.invokestatic 180, 3) := by decide +kernel
theorem d6_70 : decode jdk_42_method_149_code 70 = .ok (.putfield 9, 3) := by decide +kernel
theorem d6_73 : decode jdk_42_method_149_code 73 = .ok (.return_, 1) := by decide +kernel
theorem pd_d6 : parseMethodDescriptor "([CIILjava/lang/Void;)V" = some ⟨[(.array .char), .int, .int, (.object "java/lang/Void")], none⟩ := by decide +kernel
theorem pn_rmI4_0 : plainName "java/lang/String" = true := by first | (simp [plainName, overriddenIn]; done) | decide +kernel
theorem ef_rmI4_0 (m : MethodId) (x0 : Addr) (x1 : Addr) (x2 : Int32) (x3 : Int32) : entryFrame m #[(.ref x0), (.ref x1), (.int x2), (.int x3), .null] 6 = mkF m 0 #[.val (.ref x0), .val (.ref x1), .val (.int x2), .val (.int x3), .val .null, .unset] [] := by first | (simp [entryFrame, mkF, argsToLocals, Value.category, maxLocals]; done) | rfl
def Q_rmI4_0 (Z : State) (a : Addr) (b : Addr) (z0 : Int32) (h0 : Heap) (n0 : Nat) (v : Option Value) (h : Heap) (L : List Loc) : Prop := v = none ∧ Fr n0 L ∧ Keep h0 h [a] ∧ own_S Z h h.size a []
set_option maxRecDepth 65536 in
set_option maxHeartbeats 40000000 in
theorem rmI4_0 (l : Launch) (Z : State) (a0 : Array Value) (hw : ∀ d ∈ tables_1, d.before a0 Z = true) (hEL : EW Z a0 own_EL) (ws : List Jvm.Cond) (a : Addr) (b : Addr) (z0 : Int32) (h0 : Heap) (n0 : Nat) (Z0 : n0 ≤ h0.size) (E_a : Exa Z h0 a "java/lang/String") (F_value : Fld Z h0 a "java/lang/String" "value" "[B" .null) (F_coder : Fld Z h0 a "java/lang/String" "coder" "B" (.int 0)) (g_a : n0 ≤ a) (Vb : own_A Z h0 b .char 0 (own_L [])) (O : Old Z n0 h0) (S0 : Sta Z Z.heap "java/lang/String" "COMPACT_STRINGS" "Z" (.int z0)) (hz0 : ¬ z0 = 0) :
    MetFree l (⟨"java/lang/String", "<init>", "([CIILjava/lang/Void;)V"⟩ : MethodName) (head1 (Jvm.Cond.code (⟨"java/lang/String", "<init>", "([CIILjava/lang/Void;)V"⟩ : MethodName) jdk_42_method_149_code 6 none :: ws) ({ frames := 2, cells := 4, slots := 8, locals := 36 } : Room)) (fun as1 U => as1 = #[(.ref a), (.ref b), (.int (0 : Int32)), (.int (0 : Int32)), .null] ∧ Z.Warmed39 U.vm ∧ U.heap = h0 ∧ CHv Z own_EL U.vm h0) (fun _ _ _ _ _ => True) (fun _ U o U' => ∃ v L, o = .returned v ∧ Q_rmI4_0 Z a b z0 h0 n0 v U'.heap L ∧ CHr Z own_EL U.vm U.heap U'.vm U'.heap ∧ ReturnedEndW U o U' L ({ frames := 2, cells := 4, slots := 8, locals := 36 } : Room).cells ({ frames := 2, cells := 4, slots := 8, locals := 36 } : Room).slots) := by
  refine MetFree.of_bodySF (plainFor_of_name pn_rmI4_0) hisR ?_
  intro p e s m args below meth c s₁ Bd hml0 hP hK
  obtain ⟨rfl, hZ, hh, hH⟩ := hP
  have hx := Bd.exec
  have hby := Bd.bytes
  have hml : c.maxLocals = 6 := hml0
  have hown : (s.setVm s.vm).vm.findClass "java/lang/String" = some m.cls := findClass_of_methodNamed Bd.named
  have hnm := (name_of_methodNamed Bd.named Bd.method).1
  have X0 : Stand p l e ({ frames := 2, cells := 4, slots := 8, locals := 36 } : Room) (s.setVm s.vm) m #[(.ref a), (.ref b), (.int (0 : Int32)), (.int (0 : Int32)), .null] below meth c s₁ [] 0 0 := Stand.of_body Bd
  have e0 : s₁.heap = h0 := by rw [← hh, Bd.state]; rfl
  have N0 := Fr.nil n0
  have hZ : Z.Warmed39 (s.setVm s.vm).vm := hZ
  have hS : s.Since s.vm h0.size := (State.WarmedH.refl s).since _
  have hk : h0.size ≤ h0.size := Nat.le_refl _
  have C0 : CHr Z own_EL s.vm h0 s.vm h0 := CHr.refl hH
  show own_EndW p e s below Z own_EL s.heap (Q_rmI4_0 Z a b z0 h0 n0) ({ frames := 2, cells := 4, slots := 8, locals := 36 } : Room).cells ({ frames := 2, cells := 4, slots := 8, locals := 36 } : Room).slots (s₁.setTop (entryFrame m #[(.ref a), (.ref b), (.int (0 : Int32)), (.int (0 : Int32)), .null] 6))
  rw [hh]
  refine own_stW (U' := (s₁.setTop (mkF m 0 #[.val (.ref a), .val (.ref b), .val (.int (0 : Int32)), .val (.int (0 : Int32)), .val .null, .unset] []))) (fun _ k => castTop (ef_rmI4_0 m a b (0 : Int32) (0 : Int32)) k) ?_
  have Sf_a : Safe Z own_EL s.vm h0 a := own_safe hZ.alike (hw _ (List.mem_of_getElem? (i := 17) rfl)) E_a F_value
  refine own_stW (U' := (s₁.setTop (mkF m 1 #[.val (.ref a), .val (.ref b), .val (.int (0 : Int32)), .val (.int (0 : Int32)), .val .null, .unset] [(.ref a)]))) (fun _ k => XS.aloadN X0.here hx rfl (hb hby d6_0) rfl rfl k) ?_
  obtain ⟨T28, X28, e28, st28⟩ := initO X0 hx hZ hown (hw _ (List.mem_of_getElem? (i := 27) rfl)) (hw _ (List.mem_of_getElem? (i := 28) rfl)) (hw _ (List.mem_of_getElem? (i := 29) rfl)) e0 (g := (mkF m 1 #[.val (.ref a), .val (.ref b), .val (.int (0 : Int32)), .val (.int (0 : Int32)), .val .null, .unset] [(.ref a)])) rfl (by rw [hml]; rfl) rfl (hb hby d6_1) (by decide) (W := 0) (by show 2 * 0 + _ ≤ _; exact Nat.le_of_eq rfl) (by decide)
  refine own_stW (U' := (T28.setTop (mkF m 4 #[.val (.ref a), .val (.ref b), .val (.int (0 : Int32)), .val (.int (0 : Int32)), .val .null, .unset] []))) st28 ?_
  refine own_stW (U' := (T28.setTop (mkF m 5 #[.val (.ref a), .val (.ref b), .val (.int (0 : Int32)), .val (.int (0 : Int32)), .val .null, .unset] [(.int (0 : Int32))]))) (fun _ k => XS.iloadN X28.here hx rfl (hb hby d6_4) rfl k) ?_
  refine own_stW (U' := (T28.setTop (mkF m 8 #[.val (.ref a), .val (.ref b), .val (.int (0 : Int32)), .val (.int (0 : Int32)), .val .null, .unset] []))) (fun _ k => XS.ifNo X28.here hx rfl (hb hby d6_5) rfl ((if0 _ _).trans (teq rfl).2) k) ?_
  refine own_stW (U' := (T28.setTop (mkF m 9 #[.val (.ref a), .val (.ref b), .val (.int (0 : Int32)), .val (.int (0 : Int32)), .val .null, .unset] [(.ref a)]))) (fun _ k => XS.aloadN X28.here hx rfl (hb hby d6_8) rfl rfl k) ?_
  obtain ⟨a29, T29, h29, k29, b29, kb29, X29, e29, E29, hS, hk, hZ, hown, Ex29, Fc29, Fv29, Va29, la29, lb29, C29q, L29, ne29, st29⟩ := ldcCH X28 hx hZ hown (hw _ (List.mem_of_getElem? (i := 30) rfl)) (own_wS hw) e28 hS hk hEL own_mem C0.1 (vs := []) (z := 0) ⟨by decide, rfl⟩ (by decide) rfl (g := (mkF m 9 #[.val (.ref a), .val (.ref b), .val (.int (0 : Int32)), .val (.int (0 : Int32)), .val .null, .unset] [(.ref a)])) rfl (hb hby d6_9) (n := 0) (by decide) (by decide) (by decide) (by decide)
  have Sf_a := C29q.safe E_a.lt Sf_a
  have E_a := E_a.ext E29
  have F_value := F_value.ext E29
  have F_coder := F_coder.ext E29
  have C29 := C0.trans C29q
  have Z29 : n0 ≤ h29.size := Nat.le_trans Z0 E29.1
  have K29 := (Keep.refl h0 [a]).ext E29
  refine own_stW (U' := (T29.setTop (mkF m 11 #[.val (.ref a), .val (.ref b), .val (.int (0 : Int32)), .val (.int (0 : Int32)), .val .null, .unset] [(.ref a29), (.ref a)]))) st29 ?_
  obtain ⟨na29, nb29⟩ := ne29 a Sf_a
  obtain ⟨T30, X30, e30, st30⟩ := getF X29 hx hZ hown (host := "") (Or.inl (hw _ (List.mem_of_getElem? (i := 36) rfl))) Via.refl e29 Fv29 (g := (mkF m 11 #[.val (.ref a), .val (.ref b), .val (.int (0 : Int32)), .val (.int (0 : Int32)), .val .null, .unset] [(.ref a29), (.ref a)])) rfl rfl (hb hby d6_11)
  refine own_stW (U' := (T30.setTop (mkF m 14 #[.val (.ref a), .val (.ref b), .val (.int (0 : Int32)), .val (.int (0 : Int32)), .val .null, .unset] [(.ref b29), (.ref a)]))) st30 ?_
  obtain ⟨T31, h31, X31, e31, W31, st31⟩ := putF X30 hx hZ hown (host := "") (Or.inl (hw _ (List.mem_of_getElem? (i := 36) rfl))) Via.refl e30 F_value E_a (Or.inr ⟨(hw _ (List.mem_of_getElem? (i := 32) rfl)), rfl, hnm⟩) (hw _ (List.mem_of_getElem? (i := 17) rfl)) (ty := (.array .byte)) (by decide) rfl rfl (g := (mkF m 14 #[.val (.ref a), .val (.ref b), .val (.int (0 : Int32)), .val (.int (0 : Int32)), .val .null, .unset] [(.ref b29), (.ref a)])) rfl rfl (hb hby d6_14)
  have F_value := F_value.same W31
  have C31 := C29.trans (CHr.wr W31 Sf_a C29.1)
  have Sf_a := Safe.wr W31 Sf_a C29.1 Sf_a
  have hk := Nat.le_trans hk (Nat.le_of_eq W31.size.symm)
  have E_a := E_a.wr W31
  have F_coder := F_coder.other W31 (Or.inr (slot_ne (Or.inr (hw _ (List.mem_of_getElem? (i := 33) rfl))) (Or.inr (hw _ (List.mem_of_getElem? (i := 32) rfl))) (by decide) (t := .byte) (t' := (.array .byte)) (by decide) (by decide)))
  have Va29 := Va29.other W31 (Ne.symm nb29)
  have N31 := Fr.snoc X31 N0 g_a
  have Z31 : n0 ≤ h31.size := Nat.le_trans Z29 (Nat.le_of_eq W31.size.symm)
  have K31 := K29.wr W31 (Or.inl (List.mem_of_getElem? (i := 0) rfl))
  refine own_stW (U' := (T31.setTop (mkF m 17 #[.val (.ref a), .val (.ref b), .val (.int (0 : Int32)), .val (.int (0 : Int32)), .val .null, .unset] []))) st31 ?_
  refine own_stW (U' := (T31.setTop (mkF m 18 #[.val (.ref a), .val (.ref b), .val (.int (0 : Int32)), .val (.int (0 : Int32)), .val .null, .unset] [(.ref a)]))) (fun _ k => XS.aloadN X31.here hx rfl (hb hby d6_17) rfl rfl k) ?_
  obtain ⟨a32, T32, h32, k32, b32, kb32, X32, e32, E32, hS, hk, hZ, hown, Ex32, Fc32, Fv32, Va32, la32, lb32, C32q, L32, ne32, st32⟩ := ldcCH X31 hx hZ hown (hw _ (List.mem_of_getElem? (i := 30) rfl)) (own_wS hw) e31 hS hk hEL own_mem C31.1 (vs := []) (z := 0) ⟨by decide, rfl⟩ (by decide) rfl (g := (mkF m 18 #[.val (.ref a), .val (.ref b), .val (.int (0 : Int32)), .val (.int (0 : Int32)), .val .null, .unset] [(.ref a)])) rfl (hb hby d6_18) (n := 0) (by decide) (by decide) (by decide) (by decide)
  have Sf_a := C32q.safe E_a.lt Sf_a
  have E_a := E_a.ext E32
  have F_value := F_value.ext E32
  have F_coder := F_coder.ext E32
  have Va29 := Va29.ext E32
  have C32 := C31.trans C32q
  have Z32 : n0 ≤ h32.size := Nat.le_trans Z31 E32.1
  have K32 := K31.ext E32
  refine own_stW (U' := (T32.setTop (mkF m 20 #[.val (.ref a), .val (.ref b), .val (.int (0 : Int32)), .val (.int (0 : Int32)), .val .null, .unset] [(.ref a32), (.ref a)]))) st32 ?_
  obtain ⟨na32, nb32⟩ := ne32 a Sf_a
  obtain ⟨T33, X33, e33, st33⟩ := getF X32 hx hZ hown (host := "") (Or.inl (hw _ (List.mem_of_getElem? (i := 37) rfl))) Via.refl e32 Fc32 (g := (mkF m 20 #[.val (.ref a), .val (.ref b), .val (.int (0 : Int32)), .val (.int (0 : Int32)), .val .null, .unset] [(.ref a32), (.ref a)])) rfl rfl (hb hby d6_20)
  refine own_stW (U' := (T33.setTop (mkF m 23 #[.val (.ref a), .val (.ref b), .val (.int (0 : Int32)), .val (.int (0 : Int32)), .val .null, .unset] [(.int (0 : Int32)), (.ref a)]))) st33 ?_
  obtain ⟨T34, h34, X34, e34, W34, st34⟩ := putF X33 hx hZ hown (host := "") (Or.inl (hw _ (List.mem_of_getElem? (i := 37) rfl))) Via.refl e33 F_coder E_a (Or.inr ⟨(hw _ (List.mem_of_getElem? (i := 33) rfl)), rfl, hnm⟩) (hw _ (List.mem_of_getElem? (i := 17) rfl)) (ty := .byte) (by decide) rfl rfl (g := (mkF m 23 #[.val (.ref a), .val (.ref b), .val (.int (0 : Int32)), .val (.int (0 : Int32)), .val .null, .unset] [(.int (0 : Int32)), (.ref a)])) rfl rfl (hb hby d6_23)
  have F_coder := F_coder.same W34
  have C34 := C32.trans (CHr.wr W34 Sf_a C32.1)
  have Sf_a := Safe.wr W34 Sf_a C32.1 Sf_a
  have hk := Nat.le_trans hk (Nat.le_of_eq W34.size.symm)
  have E_a := E_a.wr W34
  have F_value := F_value.other W34 (Or.inr (slot_ne (Or.inr (hw _ (List.mem_of_getElem? (i := 32) rfl))) (Or.inr (hw _ (List.mem_of_getElem? (i := 33) rfl))) (by decide) (t := (.array .byte)) (t' := .byte) (by decide) (by decide)))
  have Va29 := Va29.other W34 (Ne.symm nb29)
  have N34 := Fr.snoc X34 N31 g_a
  have Z34 : n0 ≤ h34.size := Nat.le_trans Z32 (Nat.le_of_eq W34.size.symm)
  have K34 := K32.wr W34 (Or.inl (List.mem_of_getElem? (i := 0) rfl))
  refine own_stW (U' := (T34.setTop (mkF m 26 #[.val (.ref a), .val (.ref b), .val (.int (0 : Int32)), .val (.int (0 : Int32)), .val .null, .unset] []))) st34 ?_
  have Vt : own_A Z h34 b29 .byte ([] : List Int32).length (fun j => .int (own_byte (([] : List Int32).getD j 0))) := by obtain ⟨cl, A, -, S, -, -, -⟩ := Va29; exact ⟨cl, A, S, fun j hj => absurd hj (Nat.not_lt_zero j)⟩
  exact own_retVW X34 hx hS (by rw [e34]; exact hk) hZ hEL (by rw [e34]; exact C34) Bd.returns Bd.notSynchronized (hb hby d6_26) (by decide) (by decide) (⟨rfl, N34, by rw [e34]; exact K34, by rw [e34]; exact ⟨(by intro c hc; cases hc), Nat.le_of_ble_eq_true rfl, E_a.lt, E_a, F_coder, b29, Vt.lt, F_value, Vt⟩⟩)
theorem d5_0 : decode jdk_42_method_3_code 0 = .ok (.aload_n 0, 1) := by decide +kernel
theorem d5_1 : decode jdk_42_method_3_code 1 = .ok (.aload_n 1, 1) := by decide +kernel
theorem d5_2 : decode jdk_42_method_3_code 2 = .ok (.iconst 0, 1) := by decide +kernel
theorem d5_3 : decode jdk_42_method_3_code 3 = .ok (.aload_n 1, 1) := by decide +kernel
theorem d5_4 : decode jdk_42_method_3_code 4 = .ok (.arraylength, 1) := by decide +kernel
theorem d5_5 : decode jdk_42_method_3_code 5 = .ok (.aconst_null, 1) := by decide +kernel
theorem d5_6 : decode jdk_42_method_3_code 6 = .ok (.invokespecial 27, 3) := by decide +kernel
theorem d5_9 : decode jdk_42_method_3_code 9 = .ok (.return_, 1) := by decide +kernel
theorem pd_d5 : parseMethodDescriptor "([C)V" = some ⟨[(.array .char)], none⟩ := by decide +kernel
theorem pn_rmI1_0 : plainName "java/lang/String" = true := by first | (simp [plainName, overriddenIn]; done) | decide +kernel
theorem ef_rmI1_0 (m : MethodId) (x0 : Addr) (x1 : Addr) : entryFrame m #[(.ref x0), (.ref x1)] 2 = mkF m 0 #[.val (.ref x0), .val (.ref x1)] [] := by first | (simp [entryFrame, mkF, argsToLocals, Value.category, maxLocals]; done) | rfl
def Q_rmI1_0 (Z : State) (a : Addr) (b : Addr) (z0 : Int32) (h0 : Heap) (n0 : Nat) (v : Option Value) (h : Heap) (L : List Loc) : Prop := v = none ∧ Fr n0 L ∧ Keep h0 h [a] ∧ own_S Z h h.size a []
set_option maxRecDepth 65536 in
set_option maxHeartbeats 40000000 in
theorem rmI1_0 (l : Launch) (Z : State) (a0 : Array Value) (hw : ∀ d ∈ tables_1, d.before a0 Z = true) (hEL : EW Z a0 own_EL) (ws : List Jvm.Cond) (a : Addr) (b : Addr) (z0 : Int32) (h0 : Heap) (n0 : Nat) (Z0 : n0 ≤ h0.size) (E_a : Exa Z h0 a "java/lang/String") (F_value : Fld Z h0 a "java/lang/String" "value" "[B" .null) (F_coder : Fld Z h0 a "java/lang/String" "coder" "B" (.int 0)) (g_a : n0 ≤ a) (Vb : own_A Z h0 b .char 0 (own_L [])) (O : Old Z n0 h0) (S0 : Sta Z Z.heap "java/lang/String" "COMPACT_STRINGS" "Z" (.int z0)) (hz0 : ¬ z0 = 0) :
    MetFree l (⟨"java/lang/String", "<init>", "([C)V"⟩ : MethodName) (head1 (Jvm.Cond.code (⟨"java/lang/String", "<init>", "([C)V"⟩ : MethodName) jdk_42_method_3_code 2 none :: ws) ({ frames := 3, cells := 4, slots := 8, locals := 53 } : Room)) (fun as1 U => as1 = #[(.ref a), (.ref b)] ∧ Z.Warmed39 U.vm ∧ U.heap = h0 ∧ CHv Z own_EL U.vm h0) (fun _ _ _ _ _ => True) (fun _ U o U' => ∃ v L, o = .returned v ∧ Q_rmI1_0 Z a b z0 h0 n0 v U'.heap L ∧ CHr Z own_EL U.vm U.heap U'.vm U'.heap ∧ ReturnedEndW U o U' L ({ frames := 3, cells := 4, slots := 8, locals := 53 } : Room).cells ({ frames := 3, cells := 4, slots := 8, locals := 53 } : Room).slots) := by
  refine MetFree.of_bodySF (plainFor_of_name pn_rmI1_0) hisR ?_
  intro p e s m args below meth c s₁ Bd hml0 hP hK
  obtain ⟨rfl, hZ, hh, hH⟩ := hP
  have hx := Bd.exec
  have hby := Bd.bytes
  have hml : c.maxLocals = 2 := hml0
  have hown : (s.setVm s.vm).vm.findClass "java/lang/String" = some m.cls := findClass_of_methodNamed Bd.named
  have hnm := (name_of_methodNamed Bd.named Bd.method).1
  have X0 : Stand p l e ({ frames := 3, cells := 4, slots := 8, locals := 53 } : Room) (s.setVm s.vm) m #[(.ref a), (.ref b)] below meth c s₁ [] 0 0 := Stand.of_body Bd
  have e0 : s₁.heap = h0 := by rw [← hh, Bd.state]; rfl
  have N0 := Fr.nil n0
  have hZ : Z.Warmed39 (s.setVm s.vm).vm := hZ
  have hS : s.Since s.vm h0.size := (State.WarmedH.refl s).since _
  have hk : h0.size ≤ h0.size := Nat.le_refl _
  have C0 : CHr Z own_EL s.vm h0 s.vm h0 := CHr.refl hH
  show own_EndW p e s below Z own_EL s.heap (Q_rmI1_0 Z a b z0 h0 n0) ({ frames := 3, cells := 4, slots := 8, locals := 53 } : Room).cells ({ frames := 3, cells := 4, slots := 8, locals := 53 } : Room).slots (s₁.setTop (entryFrame m #[(.ref a), (.ref b)] 2))
  rw [hh]
  refine own_stW (U' := (s₁.setTop (mkF m 0 #[.val (.ref a), .val (.ref b)] []))) (fun _ k => castTop (ef_rmI1_0 m a b) k) ?_
  refine own_stW (U' := (s₁.setTop (mkF m 1 #[.val (.ref a), .val (.ref b)] [(.ref a)]))) (fun _ k => XS.aloadN X0.here hx rfl (hb hby d5_0) rfl rfl k) ?_
  refine own_stW (U' := (s₁.setTop (mkF m 2 #[.val (.ref a), .val (.ref b)] [(.ref b), (.ref a)]))) (fun _ k => XS.aloadN X0.here hx rfl (hb hby d5_1) rfl rfl k) ?_
  refine own_stW (U' := (s₁.setTop (mkF m 3 #[.val (.ref a), .val (.ref b)] [(.int (0 : Int32)), (.ref b), (.ref a)]))) (fun _ k => XS.iconst X0.here hx rfl (hb hby d5_2) k) ?_
  refine own_stW (U' := (s₁.setTop (mkF m 4 #[.val (.ref a), .val (.ref b)] [(.ref b), (.int (0 : Int32)), (.ref b), (.ref a)]))) (fun _ k => XS.aloadN X0.here hx rfl (hb hby d5_3) rfl rfl k) ?_
  refine own_stW (U' := (s₁.setTop (mkF m 5 #[.val (.ref a), .val (.ref b)] [(.int (0 : Int32)), (.int (0 : Int32)), (.ref b), (.ref a)]))) (own_len X0 hx hZ e0 Vb (z := (0 : Int32)) rfl (g := (mkF m 4 #[.val (.ref a), .val (.ref b)] [(.ref b), (.int (0 : Int32)), (.ref b), (.ref a)])) rfl rfl (hb hby d5_4)) ?_
  refine own_stW (U' := (s₁.setTop (mkF m 6 #[.val (.ref a), .val (.ref b)] [.null, (.int (0 : Int32)), (.int (0 : Int32)), (.ref b), (.ref a)]))) (fun _ k => XS.aconstNull X0.here hx rfl (hb hby d5_5) k) ?_
  obtain ⟨_, _, ⟨T35, L35, k35, n35⟩, -, X35, hS35, gr35, ⟨Lc35, hQ35, l35, y35, z35, C35q⟩, st35⟩ := X0.specialBackS hx (y := (⟨"java/lang/String", "<init>", "([CIILjava/lang/Void;)V"⟩ : MethodName)) rfl hown (mvT hZ (hw _ (List.mem_of_getElem? (i := 23) rfl))) (mvT hZ (hw _ (List.mem_of_getElem? (i := 24) rfl))) (mvT hZ (hw _ (List.mem_of_getElem? (i := 26) rfl))) (by decide) (backOfSH (W := 0) (rmI4_0 l Z a0 hw hEL [] a b  z0 h0 n0 Z0 E_a F_value F_coder g_a Vb  O S0 hz0) hZ (hw _ (List.mem_of_getElem? (i := 26) rfl)) (hw _ (List.mem_of_getElem? (i := 18) rfl)) (by decide) (by decide) hEL C0.1) (g := (mkF m 6 #[.val (.ref a), .val (.ref b)] [.null, (.int (0 : Int32)), (.int (0 : Int32)), (.ref b), (.ref a)])) rfl (by rw [hml]; rfl) (Steps.refl _) (a := a) (argsL := [(.ref b), (.int (0 : Int32)), (.int (0 : Int32)), .null]) (rest := []) (lenOf (pd_d6) rfl) rfl (by show 2 * 0 + _ ≤ _; exact Nat.le_of_eq rfl) (hb hby d5_6) (fun _ _ => ⟨rfl, e0, (Nat.le_of_ble_eq_true rfl), (Nat.le_of_ble_eq_true rfl)⟩)
  dsimp only [Pt.U, Pt.locs, Pt.cells, Pt.slots] at X35 l35 y35 z35 st35 hQ35 hS35 gr35 C35q
  subst l35 y35 z35
  obtain ⟨X35, hS, hZ, hown⟩ := rebS hS (show _ ≤ s₁.heap.size by rw [e0]; exact hk) X35 hS35 gr35 hZ hown
  obtain ⟨rfl, Nq35, Kq35, St⟩ := hQ35
  have C35 := C0.trans C35q
  have N35 := Fr.app N0 Nq35
  have Z35 : n0 ≤ T35.heap.size := Nat.le_trans Z0 Kq35.1
  have hk : T35.heap.size ≤ T35.heap.size := Nat.le_refl _
  refine own_trW (U' := (T35.setTop (mkF m 9 #[.val (.ref a), .val (.ref b)] []))) st35 ?_
  exact own_retVW X35 hx hS (by rw [show T35.heap = T35.heap from rfl]; exact hk) hZ hEL (by rw [show T35.heap = T35.heap from rfl]; exact C35) Bd.returns Bd.notSynchronized (hb hby d5_9) (by decide) (by decide) (⟨rfl, N35, Kq35, St⟩)
theorem pn_rmI4_1 : plainName "java/lang/String" = true := by first | (simp [plainName, overriddenIn]; done) | decide +kernel
theorem ef_rmI4_1 (m : MethodId) (x0 : Addr) (x1 : Addr) (x2 : Int32) (x3 : Int32) : entryFrame m #[(.ref x0), (.ref x1), (.int x2), (.int x3), .null] 6 = mkF m 0 #[.val (.ref x0), .val (.ref x1), .val (.int x2), .val (.int x3), .val .null, .unset] [] := by first | (simp [entryFrame, mkF, argsToLocals, Value.category, maxLocals]; done) | rfl
def Q_rmI4_1 (Z : State) (a : Addr) (b : Addr) (c0 : Int32) (z0 : Int32) (h0 : Heap) (n0 : Nat) (v : Option Value) (h : Heap) (L : List Loc) : Prop := v = none ∧ Fr n0 L ∧ Keep h0 h [a] ∧ own_S Z h h.size a [c0]
set_option maxRecDepth 65536 in
set_option maxHeartbeats 40000000 in
theorem rmI4_1 (l : Launch) (Z : State) (a0 : Array Value) (hw : ∀ d ∈ tables_1, d.before a0 Z = true) (hEL : EW Z a0 own_EL) (ws : List Jvm.Cond) (a : Addr) (b : Addr) (c0 : Int32) (z0 : Int32) (h0 : Heap) (n0 : Nat) (Z0 : n0 ≤ h0.size) (E_a : Exa Z h0 a "java/lang/String") (F_value : Fld Z h0 a "java/lang/String" "value" "[B" .null) (F_coder : Fld Z h0 a "java/lang/String" "coder" "B" (.int 0)) (g_a : n0 ≤ a) (Vb : own_A Z h0 b .char 1 (own_L [c0])) (hc0 : own_in c0) (O : Old Z n0 h0) (S0 : Sta Z Z.heap "java/lang/String" "COMPACT_STRINGS" "Z" (.int z0)) (hz0 : ¬ z0 = 0) :
    MetFree l (⟨"java/lang/String", "<init>", "([CIILjava/lang/Void;)V"⟩ : MethodName) (head1 (Jvm.Cond.code (⟨"java/lang/String", "<init>", "([CIILjava/lang/Void;)V"⟩ : MethodName) jdk_42_method_149_code 6 none :: ws) ({ frames := 2, cells := 4, slots := 8, locals := 36 } : Room)) (fun as1 U => as1 = #[(.ref a), (.ref b), (.int (0 : Int32)), (.int (1 : Int32)), .null] ∧ Z.Warmed39 U.vm ∧ U.heap = h0 ∧ CHv Z own_EL U.vm h0) (fun _ _ _ _ _ => True) (fun _ U o U' => ∃ v L, o = .returned v ∧ Q_rmI4_1 Z a b c0 z0 h0 n0 v U'.heap L ∧ CHr Z own_EL U.vm U.heap U'.vm U'.heap ∧ ReturnedEndW U o U' L ({ frames := 2, cells := 4, slots := 8, locals := 36 } : Room).cells ({ frames := 2, cells := 4, slots := 8, locals := 36 } : Room).slots) := by
  refine MetFree.of_bodySF (plainFor_of_name pn_rmI4_1) hisR ?_
  intro p e s m args below meth c s₁ Bd hml0 hP hK
  obtain ⟨rfl, hZ, hh, hH⟩ := hP
  have hx := Bd.exec
  have hby := Bd.bytes
  have hml : c.maxLocals = 6 := hml0
  have hown : (s.setVm s.vm).vm.findClass "java/lang/String" = some m.cls := findClass_of_methodNamed Bd.named
  have hnm := (name_of_methodNamed Bd.named Bd.method).1
  have X0 : Stand p l e ({ frames := 2, cells := 4, slots := 8, locals := 36 } : Room) (s.setVm s.vm) m #[(.ref a), (.ref b), (.int (0 : Int32)), (.int (1 : Int32)), .null] below meth c s₁ [] 0 0 := Stand.of_body Bd
  have e0 : s₁.heap = h0 := by rw [← hh, Bd.state]; rfl
  have N0 := Fr.nil n0
  have hZ : Z.Warmed39 (s.setVm s.vm).vm := hZ
  have hS : s.Since s.vm h0.size := (State.WarmedH.refl s).since _
  have hk : h0.size ≤ h0.size := Nat.le_refl _
  have C0 : CHr Z own_EL s.vm h0 s.vm h0 := CHr.refl hH
  show own_EndW p e s below Z own_EL s.heap (Q_rmI4_1 Z a b c0 z0 h0 n0) ({ frames := 2, cells := 4, slots := 8, locals := 36 } : Room).cells ({ frames := 2, cells := 4, slots := 8, locals := 36 } : Room).slots (s₁.setTop (entryFrame m #[(.ref a), (.ref b), (.int (0 : Int32)), (.int (1 : Int32)), .null] 6))
  rw [hh]
  refine own_stW (U' := (s₁.setTop (mkF m 0 #[.val (.ref a), .val (.ref b), .val (.int (0 : Int32)), .val (.int (1 : Int32)), .val .null, .unset] []))) (fun _ k => castTop (ef_rmI4_1 m a b (0 : Int32) (1 : Int32)) k) ?_
  have Sf_a : Safe Z own_EL s.vm h0 a := own_safe hZ.alike (hw _ (List.mem_of_getElem? (i := 17) rfl)) E_a F_value
  refine own_stW (U' := (s₁.setTop (mkF m 1 #[.val (.ref a), .val (.ref b), .val (.int (0 : Int32)), .val (.int (1 : Int32)), .val .null, .unset] [(.ref a)]))) (fun _ k => XS.aloadN X0.here hx rfl (hb hby d6_0) rfl rfl k) ?_
  obtain ⟨T36, X36, e36, st36⟩ := initO X0 hx hZ hown (hw _ (List.mem_of_getElem? (i := 27) rfl)) (hw _ (List.mem_of_getElem? (i := 28) rfl)) (hw _ (List.mem_of_getElem? (i := 29) rfl)) e0 (g := (mkF m 1 #[.val (.ref a), .val (.ref b), .val (.int (0 : Int32)), .val (.int (1 : Int32)), .val .null, .unset] [(.ref a)])) rfl (by rw [hml]; rfl) rfl (hb hby d6_1) (by decide) (W := 0) (by show 2 * 0 + _ ≤ _; exact Nat.le_of_eq rfl) (by decide)
  refine own_stW (U' := (T36.setTop (mkF m 4 #[.val (.ref a), .val (.ref b), .val (.int (0 : Int32)), .val (.int (1 : Int32)), .val .null, .unset] []))) st36 ?_
  refine own_stW (U' := (T36.setTop (mkF m 5 #[.val (.ref a), .val (.ref b), .val (.int (0 : Int32)), .val (.int (1 : Int32)), .val .null, .unset] [(.int (1 : Int32))]))) (fun _ k => XS.iloadN X36.here hx rfl (hb hby d6_4) rfl k) ?_
  refine own_stW (U' := (T36.setTop (mkF m 27 #[.val (.ref a), .val (.ref b), .val (.int (0 : Int32)), .val (.int (1 : Int32)), .val .null, .unset] []))) (fun _ k => XS.ifYes X36.here hx rfl (pc0 := 5) (pc' := 27) rfl (hb hby d6_5) rfl ((if0 _ _).trans (feq (by decide)).2) (by decide) (by decide) k) ?_
  obtain ⟨T37, X37, e37, st37⟩ := getS X36 hx hZ hown (host := "") (hw _ (List.mem_of_getElem? (i := 38) rfl)) Via.refl e36 (S0.ext O.2) (g := (mkF m 27 #[.val (.ref a), .val (.ref b), .val (.int (0 : Int32)), .val (.int (1 : Int32)), .val .null, .unset] [])) rfl (hb hby d6_27)
  refine own_stW (U' := (T37.setTop (mkF m 30 #[.val (.ref a), .val (.ref b), .val (.int (0 : Int32)), .val (.int (1 : Int32)), .val .null, .unset] [(.int z0)]))) st37 ?_
  refine own_stW (U' := (T37.setTop (mkF m 33 #[.val (.ref a), .val (.ref b), .val (.int (0 : Int32)), .val (.int (1 : Int32)), .val .null, .unset] []))) (fun _ k => XS.ifNo X37.here hx rfl (hb hby d6_30) rfl ((if0 _ _).trans (feq hz0).1) k) ?_
  refine own_stW (U' := (T37.setTop (mkF m 34 #[.val (.ref a), .val (.ref b), .val (.int (0 : Int32)), .val (.int (1 : Int32)), .val .null, .unset] [(.ref b)]))) (fun _ k => XS.aloadN X37.here hx rfl (hb hby d6_33) rfl rfl k) ?_
  refine own_stW (U' := (T37.setTop (mkF m 35 #[.val (.ref a), .val (.ref b), .val (.int (0 : Int32)), .val (.int (1 : Int32)), .val .null, .unset] [(.int (0 : Int32)), (.ref b)]))) (fun _ k => XS.iloadN X37.here hx rfl (hb hby d6_34) rfl k) ?_
  refine own_stW (U' := (T37.setTop (mkF m 36 #[.val (.ref a), .val (.ref b), .val (.int (0 : Int32)), .val (.int (1 : Int32)), .val .null, .unset] [(.int (1 : Int32)), (.int (0 : Int32)), (.ref b)]))) (fun _ k => XS.iloadN X37.here hx rfl (hb hby d6_35) rfl k) ?_
  obtain ⟨_, _, ⟨T38, L38, k38, n38⟩, -, X38, ⟨Lc38, hQ38, l38, y38, z38⟩, st38⟩ := Jvm.LawKit.callS X37 hx (y := (⟨"java/lang/StringUTF16", "compress", "([CII)[B"⟩ : MethodName)) hown (mvT hZ (hw _ (List.mem_of_getElem? (i := 39) rfl))) (mvT hZ (hw _ (List.mem_of_getElem? (i := 40) rfl))) (mvT hZ (hw _ (List.mem_of_getElem? (i := 41) rfl))) (mvT hZ (hw _ (List.mem_of_getElem? (i := 42) rfl))) (by decide) (backOf (W := 0) (rmC3_1 l Z a0 hw [] b c0 h0 n0 Z0 Vb hc0) hZ (hw _ (List.mem_of_getElem? (i := 42) rfl)) (hw _ (List.mem_of_getElem? (i := 41) rfl)) (by decide) (by decide)) (g := (mkF m 36 #[.val (.ref a), .val (.ref b), .val (.int (0 : Int32)), .val (.int (1 : Int32)), .val .null, .unset] [(.int (1 : Int32)), (.int (0 : Int32)), (.ref b)])) rfl (by rw [hml]; rfl) (argsL := [(.ref b), (.int (0 : Int32)), (.int (1 : Int32))]) (rest := []) (lenOf (pd_d8) rfl) rfl (by show 2 * 0 + _ ≤ _; exact Nat.le_of_eq rfl) (hb hby d6_36) (fun _ _ => ⟨rfl, e37, (Nat.le_of_ble_eq_true rfl), (Nat.le_of_ble_eq_true rfl)⟩)
  dsimp only [Pt.U, Pt.locs, Pt.cells, Pt.slots] at X38 l38 y38 z38 st38 hQ38
  subst l38 y38 z38
  obtain ⟨t, rfl, Nq38, Kq38, sz_t, Vt⟩ := hQ38
  have ne_a_t : a ≠ t := Nat.ne_of_lt (Nat.lt_of_lt_of_le E_a.lt sz_t)
  have Sf_a := Safe.keep Kq38 all0 C0.1 Sf_a
  have C39k := C0.trans (CHr.keep Kq38 all0 C0.1)
  have hk := Nat.le_trans hk Kq38.1
  have E_a := E_a.keep Kq38
  have F_value := F_value.keep Kq38 nin0
  have F_coder := F_coder.keep Kq38 nin0
  have N38 := Fr.app N0 Nq38
  have Z38 : n0 ≤ T38.heap.size := Nat.le_trans Z0 Kq38.1
  have K38 := (Keep.refl h0 [a]).trans Kq38 all0
  refine own_stW (U' := (T38.setTop (mkF m 39 #[.val (.ref a), .val (.ref b), .val (.int (0 : Int32)), .val (.int (1 : Int32)), .val .null, .unset] [(.ref t)]))) st38 ?_
  refine own_stW (U' := (T38.setTop (mkF m 41 #[.val (.ref a), .val (.ref b), .val (.int (0 : Int32)), .val (.int (1 : Int32)), .val .null, .val (.ref t)] []))) (fun _ k => XS.astore X38.here hx rfl (hb hby d6_39) rfl rfl (l' := #[.val (.ref a), .val (.ref b), .val (.int (0 : Int32)), .val (.int (1 : Int32)), .val .null, .val (.ref t)]) rfl k) ?_
  refine own_stW (U' := (T38.setTop (mkF m 42 #[.val (.ref a), .val (.ref b), .val (.int (0 : Int32)), .val (.int (1 : Int32)), .val .null, .val (.ref t)] [(.ref a)]))) (fun _ k => XS.aloadN X38.here hx rfl (hb hby d6_41) rfl rfl k) ?_
  refine own_stW (U' := (T38.setTop (mkF m 44 #[.val (.ref a), .val (.ref b), .val (.int (0 : Int32)), .val (.int (1 : Int32)), .val .null, .val (.ref t)] [(.ref t), (.ref a)]))) (fun _ k => XS.aload X38.here hx rfl (hb hby d6_42) rfl rfl k) ?_
  refine own_stW (U' := (T38.setTop (mkF m 45 #[.val (.ref a), .val (.ref b), .val (.int (0 : Int32)), .val (.int (1 : Int32)), .val .null, .val (.ref t)] [(.int (1 : Int32)), (.ref t), (.ref a)]))) (fun _ k => XS.iloadN X38.here hx rfl (hb hby d6_44) rfl k) ?_
  obtain ⟨_, _, ⟨T40, L40, k40, n40⟩, -, X40, ⟨Lc40, hQ40, l40, y40, z40⟩, st40⟩ := Jvm.LawKit.callS X38 hx (y := (⟨"java/lang/StringUTF16", "coderFromArrayLen", "([BI)B"⟩ : MethodName)) hown (mvT hZ (hw _ (List.mem_of_getElem? (i := 46) rfl))) (mvT hZ (hw _ (List.mem_of_getElem? (i := 47) rfl))) (mvT hZ (hw _ (List.mem_of_getElem? (i := 41) rfl))) (mvT hZ (hw _ (List.mem_of_getElem? (i := 48) rfl))) (by decide) (backOf (W := 1) (rmCod_1 l Z a0 hw [] t _ T38.heap n0 Z38 Vt) hZ (hw _ (List.mem_of_getElem? (i := 48) rfl)) (hw _ (List.mem_of_getElem? (i := 41) rfl)) (by decide) (by decide)) (g := (mkF m 45 #[.val (.ref a), .val (.ref b), .val (.int (0 : Int32)), .val (.int (1 : Int32)), .val .null, .val (.ref t)] [(.int (1 : Int32)), (.ref t), (.ref a)])) rfl (by rw [hml]; rfl) (argsL := [(.ref t), (.int (1 : Int32))]) (rest := [(.ref a)]) (lenOf (pd_d10) rfl) rfl (by show 2 * 0 + _ ≤ _; exact Nat.le_of_eq rfl) (hb hby d6_45) (fun _ _ => ⟨rfl, rfl, (Nat.le_of_ble_eq_true rfl), (Nat.le_of_ble_eq_true rfl)⟩)
  dsimp only [Pt.U, Pt.locs, Pt.cells, Pt.slots] at X40 l40 y40 z40 st40 hQ40
  subst l40 y40 z40
  obtain ⟨rfl, Nq40, eq40⟩ := hQ40
  have N40 := Fr.app N38 Nq40
  refine own_stW (U' := (T40.setTop (mkF m 48 #[.val (.ref a), .val (.ref b), .val (.int (0 : Int32)), .val (.int (1 : Int32)), .val .null, .val (.ref t)] [(.int (0 : Int32)), (.ref a)]))) st40 ?_
  obtain ⟨T41, h41, X41, e41, W41, st41⟩ := putF X40 hx hZ hown (host := "") (Or.inl (hw _ (List.mem_of_getElem? (i := 37) rfl))) Via.refl eq40 F_coder E_a (Or.inr ⟨(hw _ (List.mem_of_getElem? (i := 33) rfl)), rfl, hnm⟩) (hw _ (List.mem_of_getElem? (i := 17) rfl)) (ty := .byte) (by decide) rfl rfl (g := (mkF m 48 #[.val (.ref a), .val (.ref b), .val (.int (0 : Int32)), .val (.int (1 : Int32)), .val .null, .val (.ref t)] [(.int (0 : Int32)), (.ref a)])) rfl rfl (hb hby d6_48)
  have F_coder := F_coder.same W41
  have C41 := C39k.trans (CHr.wr W41 Sf_a C39k.1)
  have Sf_a := Safe.wr W41 Sf_a C39k.1 Sf_a
  have hk := Nat.le_trans hk (Nat.le_of_eq W41.size.symm)
  have E_a := E_a.wr W41
  have F_value := F_value.other W41 (Or.inr (slot_ne (Or.inr (hw _ (List.mem_of_getElem? (i := 32) rfl))) (Or.inr (hw _ (List.mem_of_getElem? (i := 33) rfl))) (by decide) (t := (.array .byte)) (t' := .byte) (by decide) (by decide)))
  have Vt := Vt.other W41 (Ne.symm ne_a_t)
  have N41 := Fr.snoc X41 N40 g_a
  have Z41 : n0 ≤ h41.size := Nat.le_trans Z38 (Nat.le_of_eq W41.size.symm)
  have K41 := K38.wr W41 (Or.inl (List.mem_of_getElem? (i := 0) rfl))
  refine own_stW (U' := (T41.setTop (mkF m 51 #[.val (.ref a), .val (.ref b), .val (.int (0 : Int32)), .val (.int (1 : Int32)), .val .null, .val (.ref t)] []))) st41 ?_
  refine own_stW (U' := (T41.setTop (mkF m 52 #[.val (.ref a), .val (.ref b), .val (.int (0 : Int32)), .val (.int (1 : Int32)), .val .null, .val (.ref t)] [(.ref a)]))) (fun _ k => XS.aloadN X41.here hx rfl (hb hby d6_51) rfl rfl k) ?_
  refine own_stW (U' := (T41.setTop (mkF m 54 #[.val (.ref a), .val (.ref b), .val (.int (0 : Int32)), .val (.int (1 : Int32)), .val .null, .val (.ref t)] [(.ref t), (.ref a)]))) (fun _ k => XS.aload X41.here hx rfl (hb hby d6_52) rfl rfl k) ?_
  obtain ⟨T42, h42, X42, e42, W42, st42⟩ := putF X41 hx hZ hown (host := "") (Or.inl (hw _ (List.mem_of_getElem? (i := 36) rfl))) Via.refl e41 F_value E_a (Or.inr ⟨(hw _ (List.mem_of_getElem? (i := 32) rfl)), rfl, hnm⟩) (hw _ (List.mem_of_getElem? (i := 17) rfl)) (ty := (.array .byte)) (by decide) rfl rfl (g := (mkF m 54 #[.val (.ref a), .val (.ref b), .val (.int (0 : Int32)), .val (.int (1 : Int32)), .val .null, .val (.ref t)] [(.ref t), (.ref a)])) rfl rfl (hb hby d6_54)
  have F_value := F_value.same W42
  have C42 := C41.trans (CHr.wr W42 Sf_a C41.1)
  have Sf_a := Safe.wr W42 Sf_a C41.1 Sf_a
  have hk := Nat.le_trans hk (Nat.le_of_eq W42.size.symm)
  have E_a := E_a.wr W42
  have F_coder := F_coder.other W42 (Or.inr (slot_ne (Or.inr (hw _ (List.mem_of_getElem? (i := 33) rfl))) (Or.inr (hw _ (List.mem_of_getElem? (i := 32) rfl))) (by decide) (t := .byte) (t' := (.array .byte)) (by decide) (by decide)))
  have Vt := Vt.other W42 (Ne.symm ne_a_t)
  have N42 := Fr.snoc X42 N41 g_a
  have Z42 : n0 ≤ h42.size := Nat.le_trans Z41 (Nat.le_of_eq W42.size.symm)
  have K42 := K41.wr W42 (Or.inl (List.mem_of_getElem? (i := 0) rfl))
  refine own_stW (U' := (T42.setTop (mkF m 57 #[.val (.ref a), .val (.ref b), .val (.int (0 : Int32)), .val (.int (1 : Int32)), .val .null, .val (.ref t)] []))) st42 ?_
  exact own_retVW X42 hx hS (by rw [e42]; exact hk) hZ hEL (by rw [e42]; exact C42) Bd.returns Bd.notSynchronized (hb hby d6_57) (by decide) (by decide) (⟨rfl, N42, by rw [e42]; exact K42, by rw [e42]; exact ⟨(by intro c hc; cases List.mem_singleton.mp hc; exact hc0), Nat.le_of_ble_eq_true rfl, E_a.lt, E_a, F_coder, t, Vt.lt, F_value, Vt⟩⟩)
theorem pn_rmI1_1 : plainName "java/lang/String" = true := by first | (simp [plainName, overriddenIn]; done) | decide +kernel
theorem ef_rmI1_1 (m : MethodId) (x0 : Addr) (x1 : Addr) : entryFrame m #[(.ref x0), (.ref x1)] 2 = mkF m 0 #[.val (.ref x0), .val (.ref x1)] [] := by first | (simp [entryFrame, mkF, argsToLocals, Value.category, maxLocals]; done) | rfl
def Q_rmI1_1 (Z : State) (a : Addr) (b : Addr) (c0 : Int32) (z0 : Int32) (h0 : Heap) (n0 : Nat) (v : Option Value) (h : Heap) (L : List Loc) : Prop := v = none ∧ Fr n0 L ∧ Keep h0 h [a] ∧ own_S Z h h.size a [c0]
set_option maxRecDepth 65536 in
set_option maxHeartbeats 40000000 in
theorem rmI1_1 (l : Launch) (Z : State) (a0 : Array Value) (hw : ∀ d ∈ tables_1, d.before a0 Z = true) (hEL : EW Z a0 own_EL) (ws : List Jvm.Cond) (a : Addr) (b : Addr) (c0 : Int32) (z0 : Int32) (h0 : Heap) (n0 : Nat) (Z0 : n0 ≤ h0.size) (E_a : Exa Z h0 a "java/lang/String") (F_value : Fld Z h0 a "java/lang/String" "value" "[B" .null) (F_coder : Fld Z h0 a "java/lang/String" "coder" "B" (.int 0)) (g_a : n0 ≤ a) (Vb : own_A Z h0 b .char 1 (own_L [c0])) (hc0 : own_in c0) (O : Old Z n0 h0) (S0 : Sta Z Z.heap "java/lang/String" "COMPACT_STRINGS" "Z" (.int z0)) (hz0 : ¬ z0 = 0) :
    MetFree l (⟨"java/lang/String", "<init>", "([C)V"⟩ : MethodName) (head1 (Jvm.Cond.code (⟨"java/lang/String", "<init>", "([C)V"⟩ : MethodName) jdk_42_method_3_code 2 none :: ws) ({ frames := 3, cells := 4, slots := 8, locals := 53 } : Room)) (fun as1 U => as1 = #[(.ref a), (.ref b)] ∧ Z.Warmed39 U.vm ∧ U.heap = h0 ∧ CHv Z own_EL U.vm h0) (fun _ _ _ _ _ => True) (fun _ U o U' => ∃ v L, o = .returned v ∧ Q_rmI1_1 Z a b c0 z0 h0 n0 v U'.heap L ∧ CHr Z own_EL U.vm U.heap U'.vm U'.heap ∧ ReturnedEndW U o U' L ({ frames := 3, cells := 4, slots := 8, locals := 53 } : Room).cells ({ frames := 3, cells := 4, slots := 8, locals := 53 } : Room).slots) := by
  refine MetFree.of_bodySF (plainFor_of_name pn_rmI1_1) hisR ?_
  intro p e s m args below meth c s₁ Bd hml0 hP hK
  obtain ⟨rfl, hZ, hh, hH⟩ := hP
  have hx := Bd.exec
  have hby := Bd.bytes
  have hml : c.maxLocals = 2 := hml0
  have hown : (s.setVm s.vm).vm.findClass "java/lang/String" = some m.cls := findClass_of_methodNamed Bd.named
  have hnm := (name_of_methodNamed Bd.named Bd.method).1
  have X0 : Stand p l e ({ frames := 3, cells := 4, slots := 8, locals := 53 } : Room) (s.setVm s.vm) m #[(.ref a), (.ref b)] below meth c s₁ [] 0 0 := Stand.of_body Bd
  have e0 : s₁.heap = h0 := by rw [← hh, Bd.state]; rfl
  have N0 := Fr.nil n0
  have hZ : Z.Warmed39 (s.setVm s.vm).vm := hZ
  have hS : s.Since s.vm h0.size := (State.WarmedH.refl s).since _
  have hk : h0.size ≤ h0.size := Nat.le_refl _
  have C0 : CHr Z own_EL s.vm h0 s.vm h0 := CHr.refl hH
  show own_EndW p e s below Z own_EL s.heap (Q_rmI1_1 Z a b c0 z0 h0 n0) ({ frames := 3, cells := 4, slots := 8, locals := 53 } : Room).cells ({ frames := 3, cells := 4, slots := 8, locals := 53 } : Room).slots (s₁.setTop (entryFrame m #[(.ref a), (.ref b)] 2))
  rw [hh]
  refine own_stW (U' := (s₁.setTop (mkF m 0 #[.val (.ref a), .val (.ref b)] []))) (fun _ k => castTop (ef_rmI1_1 m a b) k) ?_
  refine own_stW (U' := (s₁.setTop (mkF m 1 #[.val (.ref a), .val (.ref b)] [(.ref a)]))) (fun _ k => XS.aloadN X0.here hx rfl (hb hby d5_0) rfl rfl k) ?_
  refine own_stW (U' := (s₁.setTop (mkF m 2 #[.val (.ref a), .val (.ref b)] [(.ref b), (.ref a)]))) (fun _ k => XS.aloadN X0.here hx rfl (hb hby d5_1) rfl rfl k) ?_
  refine own_stW (U' := (s₁.setTop (mkF m 3 #[.val (.ref a), .val (.ref b)] [(.int (0 : Int32)), (.ref b), (.ref a)]))) (fun _ k => XS.iconst X0.here hx rfl (hb hby d5_2) k) ?_
  refine own_stW (U' := (s₁.setTop (mkF m 4 #[.val (.ref a), .val (.ref b)] [(.ref b), (.int (0 : Int32)), (.ref b), (.ref a)]))) (fun _ k => XS.aloadN X0.here hx rfl (hb hby d5_3) rfl rfl k) ?_
  refine own_stW (U' := (s₁.setTop (mkF m 5 #[.val (.ref a), .val (.ref b)] [(.int (1 : Int32)), (.int (0 : Int32)), (.ref b), (.ref a)]))) (own_len X0 hx hZ e0 Vb (z := (1 : Int32)) rfl (g := (mkF m 4 #[.val (.ref a), .val (.ref b)] [(.ref b), (.int (0 : Int32)), (.ref b), (.ref a)])) rfl rfl (hb hby d5_4)) ?_
  refine own_stW (U' := (s₁.setTop (mkF m 6 #[.val (.ref a), .val (.ref b)] [.null, (.int (1 : Int32)), (.int (0 : Int32)), (.ref b), (.ref a)]))) (fun _ k => XS.aconstNull X0.here hx rfl (hb hby d5_5) k) ?_
  obtain ⟨_, _, ⟨T43, L43, k43, n43⟩, -, X43, hS43, gr43, ⟨Lc43, hQ43, l43, y43, z43, C43q⟩, st43⟩ := X0.specialBackS hx (y := (⟨"java/lang/String", "<init>", "([CIILjava/lang/Void;)V"⟩ : MethodName)) rfl hown (mvT hZ (hw _ (List.mem_of_getElem? (i := 23) rfl))) (mvT hZ (hw _ (List.mem_of_getElem? (i := 24) rfl))) (mvT hZ (hw _ (List.mem_of_getElem? (i := 26) rfl))) (by decide) (backOfSH (W := 0) (rmI4_1 l Z a0 hw hEL [] a b c0 z0 h0 n0 Z0 E_a F_value F_coder g_a Vb hc0 O S0 hz0) hZ (hw _ (List.mem_of_getElem? (i := 26) rfl)) (hw _ (List.mem_of_getElem? (i := 18) rfl)) (by decide) (by decide) hEL C0.1) (g := (mkF m 6 #[.val (.ref a), .val (.ref b)] [.null, (.int (1 : Int32)), (.int (0 : Int32)), (.ref b), (.ref a)])) rfl (by rw [hml]; rfl) (Steps.refl _) (a := a) (argsL := [(.ref b), (.int (0 : Int32)), (.int (1 : Int32)), .null]) (rest := []) (lenOf (pd_d6) rfl) rfl (by show 2 * 0 + _ ≤ _; exact Nat.le_of_eq rfl) (hb hby d5_6) (fun _ _ => ⟨rfl, e0, (Nat.le_of_ble_eq_true rfl), (Nat.le_of_ble_eq_true rfl)⟩)
  dsimp only [Pt.U, Pt.locs, Pt.cells, Pt.slots] at X43 l43 y43 z43 st43 hQ43 hS43 gr43 C43q
  subst l43 y43 z43
  obtain ⟨X43, hS, hZ, hown⟩ := rebS hS (show _ ≤ s₁.heap.size by rw [e0]; exact hk) X43 hS43 gr43 hZ hown
  obtain ⟨rfl, Nq43, Kq43, St⟩ := hQ43
  have C43 := C0.trans C43q
  have N43 := Fr.app N0 Nq43
  have Z43 : n0 ≤ T43.heap.size := Nat.le_trans Z0 Kq43.1
  have hk : T43.heap.size ≤ T43.heap.size := Nat.le_refl _
  refine own_trW (U' := (T43.setTop (mkF m 9 #[.val (.ref a), .val (.ref b)] []))) st43 ?_
  exact own_retVW X43 hx hS (by rw [show T43.heap = T43.heap from rfl]; exact hk) hZ hEL (by rw [show T43.heap = T43.heap from rfl]; exact C43) Bd.returns Bd.notSynchronized (hb hby d5_9) (by decide) (by decide) (⟨rfl, N43, Kq43, St⟩)
theorem pn_rmI4_2 : plainName "java/lang/String" = true := by first | (simp [plainName, overriddenIn]; done) | decide +kernel
theorem ef_rmI4_2 (m : MethodId) (x0 : Addr) (x1 : Addr) (x2 : Int32) (x3 : Int32) : entryFrame m #[(.ref x0), (.ref x1), (.int x2), (.int x3), .null] 6 = mkF m 0 #[.val (.ref x0), .val (.ref x1), .val (.int x2), .val (.int x3), .val .null, .unset] [] := by first | (simp [entryFrame, mkF, argsToLocals, Value.category, maxLocals]; done) | rfl
def Q_rmI4_2 (Z : State) (a : Addr) (b : Addr) (c0 : Int32) (c1 : Int32) (z0 : Int32) (h0 : Heap) (n0 : Nat) (v : Option Value) (h : Heap) (L : List Loc) : Prop := v = none ∧ Fr n0 L ∧ Keep h0 h [a] ∧ own_S Z h h.size a [c0, c1]
set_option maxRecDepth 65536 in
set_option maxHeartbeats 40000000 in
theorem rmI4_2 (l : Launch) (Z : State) (a0 : Array Value) (hw : ∀ d ∈ tables_1, d.before a0 Z = true) (hEL : EW Z a0 own_EL) (ws : List Jvm.Cond) (a : Addr) (b : Addr) (c0 : Int32) (c1 : Int32) (z0 : Int32) (h0 : Heap) (n0 : Nat) (Z0 : n0 ≤ h0.size) (E_a : Exa Z h0 a "java/lang/String") (F_value : Fld Z h0 a "java/lang/String" "value" "[B" .null) (F_coder : Fld Z h0 a "java/lang/String" "coder" "B" (.int 0)) (g_a : n0 ≤ a) (Vb : own_A Z h0 b .char 2 (own_L [c0, c1])) (hc0 : own_in c0) (hc1 : own_in c1) (O : Old Z n0 h0) (S0 : Sta Z Z.heap "java/lang/String" "COMPACT_STRINGS" "Z" (.int z0)) (hz0 : ¬ z0 = 0) :
    MetFree l (⟨"java/lang/String", "<init>", "([CIILjava/lang/Void;)V"⟩ : MethodName) (head1 (Jvm.Cond.code (⟨"java/lang/String", "<init>", "([CIILjava/lang/Void;)V"⟩ : MethodName) jdk_42_method_149_code 6 none :: ws) ({ frames := 2, cells := 4, slots := 8, locals := 36 } : Room)) (fun as1 U => as1 = #[(.ref a), (.ref b), (.int (0 : Int32)), (.int (2 : Int32)), .null] ∧ Z.Warmed39 U.vm ∧ U.heap = h0 ∧ CHv Z own_EL U.vm h0) (fun _ _ _ _ _ => True) (fun _ U o U' => ∃ v L, o = .returned v ∧ Q_rmI4_2 Z a b c0 c1 z0 h0 n0 v U'.heap L ∧ CHr Z own_EL U.vm U.heap U'.vm U'.heap ∧ ReturnedEndW U o U' L ({ frames := 2, cells := 4, slots := 8, locals := 36 } : Room).cells ({ frames := 2, cells := 4, slots := 8, locals := 36 } : Room).slots) := by
  refine MetFree.of_bodySF (plainFor_of_name pn_rmI4_2) hisR ?_
  intro p e s m args below meth c s₁ Bd hml0 hP hK
  obtain ⟨rfl, hZ, hh, hH⟩ := hP
  have hx := Bd.exec
  have hby := Bd.bytes
  have hml : c.maxLocals = 6 := hml0
  have hown : (s.setVm s.vm).vm.findClass "java/lang/String" = some m.cls := findClass_of_methodNamed Bd.named
  have hnm := (name_of_methodNamed Bd.named Bd.method).1
  have X0 : Stand p l e ({ frames := 2, cells := 4, slots := 8, locals := 36 } : Room) (s.setVm s.vm) m #[(.ref a), (.ref b), (.int (0 : Int32)), (.int (2 : Int32)), .null] below meth c s₁ [] 0 0 := Stand.of_body Bd
  have e0 : s₁.heap = h0 := by rw [← hh, Bd.state]; rfl
  have N0 := Fr.nil n0
  have hZ : Z.Warmed39 (s.setVm s.vm).vm := hZ
  have hS : s.Since s.vm h0.size := (State.WarmedH.refl s).since _
  have hk : h0.size ≤ h0.size := Nat.le_refl _
  have C0 : CHr Z own_EL s.vm h0 s.vm h0 := CHr.refl hH
  show own_EndW p e s below Z own_EL s.heap (Q_rmI4_2 Z a b c0 c1 z0 h0 n0) ({ frames := 2, cells := 4, slots := 8, locals := 36 } : Room).cells ({ frames := 2, cells := 4, slots := 8, locals := 36 } : Room).slots (s₁.setTop (entryFrame m #[(.ref a), (.ref b), (.int (0 : Int32)), (.int (2 : Int32)), .null] 6))
  rw [hh]
  refine own_stW (U' := (s₁.setTop (mkF m 0 #[.val (.ref a), .val (.ref b), .val (.int (0 : Int32)), .val (.int (2 : Int32)), .val .null, .unset] []))) (fun _ k => castTop (ef_rmI4_2 m a b (0 : Int32) (2 : Int32)) k) ?_
  have Sf_a : Safe Z own_EL s.vm h0 a := own_safe hZ.alike (hw _ (List.mem_of_getElem? (i := 17) rfl)) E_a F_value
  refine own_stW (U' := (s₁.setTop (mkF m 1 #[.val (.ref a), .val (.ref b), .val (.int (0 : Int32)), .val (.int (2 : Int32)), .val .null, .unset] [(.ref a)]))) (fun _ k => XS.aloadN X0.here hx rfl (hb hby d6_0) rfl rfl k) ?_
  obtain ⟨T44, X44, e44, st44⟩ := initO X0 hx hZ hown (hw _ (List.mem_of_getElem? (i := 27) rfl)) (hw _ (List.mem_of_getElem? (i := 28) rfl)) (hw _ (List.mem_of_getElem? (i := 29) rfl)) e0 (g := (mkF m 1 #[.val (.ref a), .val (.ref b), .val (.int (0 : Int32)), .val (.int (2 : Int32)), .val .null, .unset] [(.ref a)])) rfl (by rw [hml]; rfl) rfl (hb hby d6_1) (by decide) (W := 0) (by show 2 * 0 + _ ≤ _; exact Nat.le_of_eq rfl) (by decide)
  refine own_stW (U' := (T44.setTop (mkF m 4 #[.val (.ref a), .val (.ref b), .val (.int (0 : Int32)), .val (.int (2 : Int32)), .val .null, .unset] []))) st44 ?_
  refine own_stW (U' := (T44.setTop (mkF m 5 #[.val (.ref a), .val (.ref b), .val (.int (0 : Int32)), .val (.int (2 : Int32)), .val .null, .unset] [(.int (2 : Int32))]))) (fun _ k => XS.iloadN X44.here hx rfl (hb hby d6_4) rfl k) ?_
  refine own_stW (U' := (T44.setTop (mkF m 27 #[.val (.ref a), .val (.ref b), .val (.int (0 : Int32)), .val (.int (2 : Int32)), .val .null, .unset] []))) (fun _ k => XS.ifYes X44.here hx rfl (pc0 := 5) (pc' := 27) rfl (hb hby d6_5) rfl ((if0 _ _).trans (feq (by decide)).2) (by decide) (by decide) k) ?_
  obtain ⟨T45, X45, e45, st45⟩ := getS X44 hx hZ hown (host := "") (hw _ (List.mem_of_getElem? (i := 38) rfl)) Via.refl e44 (S0.ext O.2) (g := (mkF m 27 #[.val (.ref a), .val (.ref b), .val (.int (0 : Int32)), .val (.int (2 : Int32)), .val .null, .unset] [])) rfl (hb hby d6_27)
  refine own_stW (U' := (T45.setTop (mkF m 30 #[.val (.ref a), .val (.ref b), .val (.int (0 : Int32)), .val (.int (2 : Int32)), .val .null, .unset] [(.int z0)]))) st45 ?_
  refine own_stW (U' := (T45.setTop (mkF m 33 #[.val (.ref a), .val (.ref b), .val (.int (0 : Int32)), .val (.int (2 : Int32)), .val .null, .unset] []))) (fun _ k => XS.ifNo X45.here hx rfl (hb hby d6_30) rfl ((if0 _ _).trans (feq hz0).1) k) ?_
  refine own_stW (U' := (T45.setTop (mkF m 34 #[.val (.ref a), .val (.ref b), .val (.int (0 : Int32)), .val (.int (2 : Int32)), .val .null, .unset] [(.ref b)]))) (fun _ k => XS.aloadN X45.here hx rfl (hb hby d6_33) rfl rfl k) ?_
  refine own_stW (U' := (T45.setTop (mkF m 35 #[.val (.ref a), .val (.ref b), .val (.int (0 : Int32)), .val (.int (2 : Int32)), .val .null, .unset] [(.int (0 : Int32)), (.ref b)]))) (fun _ k => XS.iloadN X45.here hx rfl (hb hby d6_34) rfl k) ?_
  refine own_stW (U' := (T45.setTop (mkF m 36 #[.val (.ref a), .val (.ref b), .val (.int (0 : Int32)), .val (.int (2 : Int32)), .val .null, .unset] [(.int (2 : Int32)), (.int (0 : Int32)), (.ref b)]))) (fun _ k => XS.iloadN X45.here hx rfl (hb hby d6_35) rfl k) ?_
  obtain ⟨_, _, ⟨T46, L46, k46, n46⟩, -, X46, ⟨Lc46, hQ46, l46, y46, z46⟩, st46⟩ := Jvm.LawKit.callS X45 hx (y := (⟨"java/lang/StringUTF16", "compress", "([CII)[B"⟩ : MethodName)) hown (mvT hZ (hw _ (List.mem_of_getElem? (i := 39) rfl))) (mvT hZ (hw _ (List.mem_of_getElem? (i := 40) rfl))) (mvT hZ (hw _ (List.mem_of_getElem? (i := 41) rfl))) (mvT hZ (hw _ (List.mem_of_getElem? (i := 42) rfl))) (by decide) (backOf (W := 0) (rmC3_2 l Z a0 hw [] b c0 c1 h0 n0 Z0 Vb hc0 hc1) hZ (hw _ (List.mem_of_getElem? (i := 42) rfl)) (hw _ (List.mem_of_getElem? (i := 41) rfl)) (by decide) (by decide)) (g := (mkF m 36 #[.val (.ref a), .val (.ref b), .val (.int (0 : Int32)), .val (.int (2 : Int32)), .val .null, .unset] [(.int (2 : Int32)), (.int (0 : Int32)), (.ref b)])) rfl (by rw [hml]; rfl) (argsL := [(.ref b), (.int (0 : Int32)), (.int (2 : Int32))]) (rest := []) (lenOf (pd_d8) rfl) rfl (by show 2 * 0 + _ ≤ _; exact Nat.le_of_eq rfl) (hb hby d6_36) (fun _ _ => ⟨rfl, e45, (Nat.le_of_ble_eq_true rfl), (Nat.le_of_ble_eq_true rfl)⟩)
  dsimp only [Pt.U, Pt.locs, Pt.cells, Pt.slots] at X46 l46 y46 z46 st46 hQ46
  subst l46 y46 z46
  obtain ⟨t, rfl, Nq46, Kq46, sz_t, Vt⟩ := hQ46
  have ne_a_t : a ≠ t := Nat.ne_of_lt (Nat.lt_of_lt_of_le E_a.lt sz_t)
  have Sf_a := Safe.keep Kq46 all0 C0.1 Sf_a
  have C47k := C0.trans (CHr.keep Kq46 all0 C0.1)
  have hk := Nat.le_trans hk Kq46.1
  have E_a := E_a.keep Kq46
  have F_value := F_value.keep Kq46 nin0
  have F_coder := F_coder.keep Kq46 nin0
  have N46 := Fr.app N0 Nq46
  have Z46 : n0 ≤ T46.heap.size := Nat.le_trans Z0 Kq46.1
  have K46 := (Keep.refl h0 [a]).trans Kq46 all0
  refine own_stW (U' := (T46.setTop (mkF m 39 #[.val (.ref a), .val (.ref b), .val (.int (0 : Int32)), .val (.int (2 : Int32)), .val .null, .unset] [(.ref t)]))) st46 ?_
  refine own_stW (U' := (T46.setTop (mkF m 41 #[.val (.ref a), .val (.ref b), .val (.int (0 : Int32)), .val (.int (2 : Int32)), .val .null, .val (.ref t)] []))) (fun _ k => XS.astore X46.here hx rfl (hb hby d6_39) rfl rfl (l' := #[.val (.ref a), .val (.ref b), .val (.int (0 : Int32)), .val (.int (2 : Int32)), .val .null, .val (.ref t)]) rfl k) ?_
  refine own_stW (U' := (T46.setTop (mkF m 42 #[.val (.ref a), .val (.ref b), .val (.int (0 : Int32)), .val (.int (2 : Int32)), .val .null, .val (.ref t)] [(.ref a)]))) (fun _ k => XS.aloadN X46.here hx rfl (hb hby d6_41) rfl rfl k) ?_
  refine own_stW (U' := (T46.setTop (mkF m 44 #[.val (.ref a), .val (.ref b), .val (.int (0 : Int32)), .val (.int (2 : Int32)), .val .null, .val (.ref t)] [(.ref t), (.ref a)]))) (fun _ k => XS.aload X46.here hx rfl (hb hby d6_42) rfl rfl k) ?_
  refine own_stW (U' := (T46.setTop (mkF m 45 #[.val (.ref a), .val (.ref b), .val (.int (0 : Int32)), .val (.int (2 : Int32)), .val .null, .val (.ref t)] [(.int (2 : Int32)), (.ref t), (.ref a)]))) (fun _ k => XS.iloadN X46.here hx rfl (hb hby d6_44) rfl k) ?_
  obtain ⟨_, _, ⟨T48, L48, k48, n48⟩, -, X48, ⟨Lc48, hQ48, l48, y48, z48⟩, st48⟩ := Jvm.LawKit.callS X46 hx (y := (⟨"java/lang/StringUTF16", "coderFromArrayLen", "([BI)B"⟩ : MethodName)) hown (mvT hZ (hw _ (List.mem_of_getElem? (i := 46) rfl))) (mvT hZ (hw _ (List.mem_of_getElem? (i := 47) rfl))) (mvT hZ (hw _ (List.mem_of_getElem? (i := 41) rfl))) (mvT hZ (hw _ (List.mem_of_getElem? (i := 48) rfl))) (by decide) (backOf (W := 1) (rmCod_2 l Z a0 hw [] t _ T46.heap n0 Z46 Vt) hZ (hw _ (List.mem_of_getElem? (i := 48) rfl)) (hw _ (List.mem_of_getElem? (i := 41) rfl)) (by decide) (by decide)) (g := (mkF m 45 #[.val (.ref a), .val (.ref b), .val (.int (0 : Int32)), .val (.int (2 : Int32)), .val .null, .val (.ref t)] [(.int (2 : Int32)), (.ref t), (.ref a)])) rfl (by rw [hml]; rfl) (argsL := [(.ref t), (.int (2 : Int32))]) (rest := [(.ref a)]) (lenOf (pd_d10) rfl) rfl (by show 2 * 0 + _ ≤ _; exact Nat.le_of_eq rfl) (hb hby d6_45) (fun _ _ => ⟨rfl, rfl, (Nat.le_of_ble_eq_true rfl), (Nat.le_of_ble_eq_true rfl)⟩)
  dsimp only [Pt.U, Pt.locs, Pt.cells, Pt.slots] at X48 l48 y48 z48 st48 hQ48
  subst l48 y48 z48
  obtain ⟨rfl, Nq48, eq48⟩ := hQ48
  have N48 := Fr.app N46 Nq48
  refine own_stW (U' := (T48.setTop (mkF m 48 #[.val (.ref a), .val (.ref b), .val (.int (0 : Int32)), .val (.int (2 : Int32)), .val .null, .val (.ref t)] [(.int (0 : Int32)), (.ref a)]))) st48 ?_
  obtain ⟨T49, h49, X49, e49, W49, st49⟩ := putF X48 hx hZ hown (host := "") (Or.inl (hw _ (List.mem_of_getElem? (i := 37) rfl))) Via.refl eq48 F_coder E_a (Or.inr ⟨(hw _ (List.mem_of_getElem? (i := 33) rfl)), rfl, hnm⟩) (hw _ (List.mem_of_getElem? (i := 17) rfl)) (ty := .byte) (by decide) rfl rfl (g := (mkF m 48 #[.val (.ref a), .val (.ref b), .val (.int (0 : Int32)), .val (.int (2 : Int32)), .val .null, .val (.ref t)] [(.int (0 : Int32)), (.ref a)])) rfl rfl (hb hby d6_48)
  have F_coder := F_coder.same W49
  have C49 := C47k.trans (CHr.wr W49 Sf_a C47k.1)
  have Sf_a := Safe.wr W49 Sf_a C47k.1 Sf_a
  have hk := Nat.le_trans hk (Nat.le_of_eq W49.size.symm)
  have E_a := E_a.wr W49
  have F_value := F_value.other W49 (Or.inr (slot_ne (Or.inr (hw _ (List.mem_of_getElem? (i := 32) rfl))) (Or.inr (hw _ (List.mem_of_getElem? (i := 33) rfl))) (by decide) (t := (.array .byte)) (t' := .byte) (by decide) (by decide)))
  have Vt := Vt.other W49 (Ne.symm ne_a_t)
  have N49 := Fr.snoc X49 N48 g_a
  have Z49 : n0 ≤ h49.size := Nat.le_trans Z46 (Nat.le_of_eq W49.size.symm)
  have K49 := K46.wr W49 (Or.inl (List.mem_of_getElem? (i := 0) rfl))
  refine own_stW (U' := (T49.setTop (mkF m 51 #[.val (.ref a), .val (.ref b), .val (.int (0 : Int32)), .val (.int (2 : Int32)), .val .null, .val (.ref t)] []))) st49 ?_
  refine own_stW (U' := (T49.setTop (mkF m 52 #[.val (.ref a), .val (.ref b), .val (.int (0 : Int32)), .val (.int (2 : Int32)), .val .null, .val (.ref t)] [(.ref a)]))) (fun _ k => XS.aloadN X49.here hx rfl (hb hby d6_51) rfl rfl k) ?_
  refine own_stW (U' := (T49.setTop (mkF m 54 #[.val (.ref a), .val (.ref b), .val (.int (0 : Int32)), .val (.int (2 : Int32)), .val .null, .val (.ref t)] [(.ref t), (.ref a)]))) (fun _ k => XS.aload X49.here hx rfl (hb hby d6_52) rfl rfl k) ?_
  obtain ⟨T50, h50, X50, e50, W50, st50⟩ := putF X49 hx hZ hown (host := "") (Or.inl (hw _ (List.mem_of_getElem? (i := 36) rfl))) Via.refl e49 F_value E_a (Or.inr ⟨(hw _ (List.mem_of_getElem? (i := 32) rfl)), rfl, hnm⟩) (hw _ (List.mem_of_getElem? (i := 17) rfl)) (ty := (.array .byte)) (by decide) rfl rfl (g := (mkF m 54 #[.val (.ref a), .val (.ref b), .val (.int (0 : Int32)), .val (.int (2 : Int32)), .val .null, .val (.ref t)] [(.ref t), (.ref a)])) rfl rfl (hb hby d6_54)
  have F_value := F_value.same W50
  have C50 := C49.trans (CHr.wr W50 Sf_a C49.1)
  have Sf_a := Safe.wr W50 Sf_a C49.1 Sf_a
  have hk := Nat.le_trans hk (Nat.le_of_eq W50.size.symm)
  have E_a := E_a.wr W50
  have F_coder := F_coder.other W50 (Or.inr (slot_ne (Or.inr (hw _ (List.mem_of_getElem? (i := 33) rfl))) (Or.inr (hw _ (List.mem_of_getElem? (i := 32) rfl))) (by decide) (t := .byte) (t' := (.array .byte)) (by decide) (by decide)))
  have Vt := Vt.other W50 (Ne.symm ne_a_t)
  have N50 := Fr.snoc X50 N49 g_a
  have Z50 : n0 ≤ h50.size := Nat.le_trans Z49 (Nat.le_of_eq W50.size.symm)
  have K50 := K49.wr W50 (Or.inl (List.mem_of_getElem? (i := 0) rfl))
  refine own_stW (U' := (T50.setTop (mkF m 57 #[.val (.ref a), .val (.ref b), .val (.int (0 : Int32)), .val (.int (2 : Int32)), .val .null, .val (.ref t)] []))) st50 ?_
  exact own_retVW X50 hx hS (by rw [e50]; exact hk) hZ hEL (by rw [e50]; exact C50) Bd.returns Bd.notSynchronized (hb hby d6_57) (by decide) (by decide) (⟨rfl, N50, by rw [e50]; exact K50, by rw [e50]; exact ⟨(by intro c hc; simp only [List.mem_cons, List.not_mem_nil, or_false] at hc; rcases hc with rfl | rfl <;> assumption), Nat.le_of_ble_eq_true rfl, E_a.lt, E_a, F_coder, t, Vt.lt, F_value, Vt⟩⟩)
theorem pn_rmI1_2 : plainName "java/lang/String" = true := by first | (simp [plainName, overriddenIn]; done) | decide +kernel
theorem ef_rmI1_2 (m : MethodId) (x0 : Addr) (x1 : Addr) : entryFrame m #[(.ref x0), (.ref x1)] 2 = mkF m 0 #[.val (.ref x0), .val (.ref x1)] [] := by first | (simp [entryFrame, mkF, argsToLocals, Value.category, maxLocals]; done) | rfl
def Q_rmI1_2 (Z : State) (a : Addr) (b : Addr) (c0 : Int32) (c1 : Int32) (z0 : Int32) (h0 : Heap) (n0 : Nat) (v : Option Value) (h : Heap) (L : List Loc) : Prop := v = none ∧ Fr n0 L ∧ Keep h0 h [a] ∧ own_S Z h h.size a [c0, c1]
set_option maxRecDepth 65536 in
set_option maxHeartbeats 40000000 in
theorem rmI1_2 (l : Launch) (Z : State) (a0 : Array Value) (hw : ∀ d ∈ tables_1, d.before a0 Z = true) (hEL : EW Z a0 own_EL) (ws : List Jvm.Cond) (a : Addr) (b : Addr) (c0 : Int32) (c1 : Int32) (z0 : Int32) (h0 : Heap) (n0 : Nat) (Z0 : n0 ≤ h0.size) (E_a : Exa Z h0 a "java/lang/String") (F_value : Fld Z h0 a "java/lang/String" "value" "[B" .null) (F_coder : Fld Z h0 a "java/lang/String" "coder" "B" (.int 0)) (g_a : n0 ≤ a) (Vb : own_A Z h0 b .char 2 (own_L [c0, c1])) (hc0 : own_in c0) (hc1 : own_in c1) (O : Old Z n0 h0) (S0 : Sta Z Z.heap "java/lang/String" "COMPACT_STRINGS" "Z" (.int z0)) (hz0 : ¬ z0 = 0) :
    MetFree l (⟨"java/lang/String", "<init>", "([C)V"⟩ : MethodName) (head1 (Jvm.Cond.code (⟨"java/lang/String", "<init>", "([C)V"⟩ : MethodName) jdk_42_method_3_code 2 none :: ws) ({ frames := 3, cells := 4, slots := 8, locals := 53 } : Room)) (fun as1 U => as1 = #[(.ref a), (.ref b)] ∧ Z.Warmed39 U.vm ∧ U.heap = h0 ∧ CHv Z own_EL U.vm h0) (fun _ _ _ _ _ => True) (fun _ U o U' => ∃ v L, o = .returned v ∧ Q_rmI1_2 Z a b c0 c1 z0 h0 n0 v U'.heap L ∧ CHr Z own_EL U.vm U.heap U'.vm U'.heap ∧ ReturnedEndW U o U' L ({ frames := 3, cells := 4, slots := 8, locals := 53 } : Room).cells ({ frames := 3, cells := 4, slots := 8, locals := 53 } : Room).slots) := by
  refine MetFree.of_bodySF (plainFor_of_name pn_rmI1_2) hisR ?_
  intro p e s m args below meth c s₁ Bd hml0 hP hK
  obtain ⟨rfl, hZ, hh, hH⟩ := hP
  have hx := Bd.exec
  have hby := Bd.bytes
  have hml : c.maxLocals = 2 := hml0
  have hown : (s.setVm s.vm).vm.findClass "java/lang/String" = some m.cls := findClass_of_methodNamed Bd.named
  have hnm := (name_of_methodNamed Bd.named Bd.method).1
  have X0 : Stand p l e ({ frames := 3, cells := 4, slots := 8, locals := 53 } : Room) (s.setVm s.vm) m #[(.ref a), (.ref b)] below meth c s₁ [] 0 0 := Stand.of_body Bd
  have e0 : s₁.heap = h0 := by rw [← hh, Bd.state]; rfl
  have N0 := Fr.nil n0
  have hZ : Z.Warmed39 (s.setVm s.vm).vm := hZ
  have hS : s.Since s.vm h0.size := (State.WarmedH.refl s).since _
  have hk : h0.size ≤ h0.size := Nat.le_refl _
  have C0 : CHr Z own_EL s.vm h0 s.vm h0 := CHr.refl hH
  show own_EndW p e s below Z own_EL s.heap (Q_rmI1_2 Z a b c0 c1 z0 h0 n0) ({ frames := 3, cells := 4, slots := 8, locals := 53 } : Room).cells ({ frames := 3, cells := 4, slots := 8, locals := 53 } : Room).slots (s₁.setTop (entryFrame m #[(.ref a), (.ref b)] 2))
  rw [hh]
  refine own_stW (U' := (s₁.setTop (mkF m 0 #[.val (.ref a), .val (.ref b)] []))) (fun _ k => castTop (ef_rmI1_2 m a b) k) ?_
  refine own_stW (U' := (s₁.setTop (mkF m 1 #[.val (.ref a), .val (.ref b)] [(.ref a)]))) (fun _ k => XS.aloadN X0.here hx rfl (hb hby d5_0) rfl rfl k) ?_
  refine own_stW (U' := (s₁.setTop (mkF m 2 #[.val (.ref a), .val (.ref b)] [(.ref b), (.ref a)]))) (fun _ k => XS.aloadN X0.here hx rfl (hb hby d5_1) rfl rfl k) ?_
  refine own_stW (U' := (s₁.setTop (mkF m 3 #[.val (.ref a), .val (.ref b)] [(.int (0 : Int32)), (.ref b), (.ref a)]))) (fun _ k => XS.iconst X0.here hx rfl (hb hby d5_2) k) ?_
  refine own_stW (U' := (s₁.setTop (mkF m 4 #[.val (.ref a), .val (.ref b)] [(.ref b), (.int (0 : Int32)), (.ref b), (.ref a)]))) (fun _ k => XS.aloadN X0.here hx rfl (hb hby d5_3) rfl rfl k) ?_
  refine own_stW (U' := (s₁.setTop (mkF m 5 #[.val (.ref a), .val (.ref b)] [(.int (2 : Int32)), (.int (0 : Int32)), (.ref b), (.ref a)]))) (own_len X0 hx hZ e0 Vb (z := (2 : Int32)) rfl (g := (mkF m 4 #[.val (.ref a), .val (.ref b)] [(.ref b), (.int (0 : Int32)), (.ref b), (.ref a)])) rfl rfl (hb hby d5_4)) ?_
  refine own_stW (U' := (s₁.setTop (mkF m 6 #[.val (.ref a), .val (.ref b)] [.null, (.int (2 : Int32)), (.int (0 : Int32)), (.ref b), (.ref a)]))) (fun _ k => XS.aconstNull X0.here hx rfl (hb hby d5_5) k) ?_
  obtain ⟨_, _, ⟨T51, L51, k51, n51⟩, -, X51, hS51, gr51, ⟨Lc51, hQ51, l51, y51, z51, C51q⟩, st51⟩ := X0.specialBackS hx (y := (⟨"java/lang/String", "<init>", "([CIILjava/lang/Void;)V"⟩ : MethodName)) rfl hown (mvT hZ (hw _ (List.mem_of_getElem? (i := 23) rfl))) (mvT hZ (hw _ (List.mem_of_getElem? (i := 24) rfl))) (mvT hZ (hw _ (List.mem_of_getElem? (i := 26) rfl))) (by decide) (backOfSH (W := 0) (rmI4_2 l Z a0 hw hEL [] a b c0 c1 z0 h0 n0 Z0 E_a F_value F_coder g_a Vb hc0 hc1 O S0 hz0) hZ (hw _ (List.mem_of_getElem? (i := 26) rfl)) (hw _ (List.mem_of_getElem? (i := 18) rfl)) (by decide) (by decide) hEL C0.1) (g := (mkF m 6 #[.val (.ref a), .val (.ref b)] [.null, (.int (2 : Int32)), (.int (0 : Int32)), (.ref b), (.ref a)])) rfl (by rw [hml]; rfl) (Steps.refl _) (a := a) (argsL := [(.ref b), (.int (0 : Int32)), (.int (2 : Int32)), .null]) (rest := []) (lenOf (pd_d6) rfl) rfl (by show 2 * 0 + _ ≤ _; exact Nat.le_of_eq rfl) (hb hby d5_6) (fun _ _ => ⟨rfl, e0, (Nat.le_of_ble_eq_true rfl), (Nat.le_of_ble_eq_true rfl)⟩)
  dsimp only [Pt.U, Pt.locs, Pt.cells, Pt.slots] at X51 l51 y51 z51 st51 hQ51 hS51 gr51 C51q
  subst l51 y51 z51
  obtain ⟨X51, hS, hZ, hown⟩ := rebS hS (show _ ≤ s₁.heap.size by rw [e0]; exact hk) X51 hS51 gr51 hZ hown
  obtain ⟨rfl, Nq51, Kq51, St⟩ := hQ51
  have C51 := C0.trans C51q
  have N51 := Fr.app N0 Nq51
  have Z51 : n0 ≤ T51.heap.size := Nat.le_trans Z0 Kq51.1
  have hk : T51.heap.size ≤ T51.heap.size := Nat.le_refl _
  refine own_trW (U' := (T51.setTop (mkF m 9 #[.val (.ref a), .val (.ref b)] []))) st51 ?_
  exact own_retVW X51 hx hS (by rw [show T51.heap = T51.heap from rfl]; exact hk) hZ hEL (by rw [show T51.heap = T51.heap from rfl]; exact C51) Bd.returns Bd.notSynchronized (hb hby d5_9) (by decide) (by decide) (⟨rfl, N51, Kq51, St⟩)
theorem d4_0 : decode method_6_code 0 = .ok (.iload_n 0, 1) := by decide +kernel
theorem d4_1 : decode method_6_code 1 = .ok (.ifCond .ne 14, 3) := by decide +kernel
theorem d4_4 : decode method_6_code 4 = .ok (.new 42, 3) := by decide +kernel
theorem d4_7 : decode method_6_code 7 = .ok (.dup, 1) := by decide +kernel
theorem d4_8 : decode method_6_code 8 = .ok (.iconst 0, 1) := by decide +kernel
theorem d4_9 : decode method_6_code 9 = .ok (.newarray .char, 2) := by decide +kernel
theorem d4_11 : decode method_6_code 11 = .ok (.invokespecial 44, 3) := by decide +kernel
theorem d4_14 : decode method_6_code 14 = .ok (.areturn, 1) := by decide +kernel
theorem d4_15 : decode method_6_code 15 = .ok (.iload_n 0, 1) := by decide +kernel
theorem d4_16 : decode method_6_code 16 = .ok (.iconst 1, 1) := by decide +kernel
theorem d4_17 : decode method_6_code 17 = .ok (.if_icmp .ne 19, 3) := by decide +kernel
theorem d4_20 : decode method_6_code 20 = .ok (.new 42, 3) := by decide +kernel
theorem d4_23 : decode method_6_code 23 = .ok (.dup, 1) := by decide +kernel
theorem d4_24 : decode method_6_code 24 = .ok (.iconst 1, 1) := by decide +kernel
theorem d4_25 : decode method_6_code 25 = .ok (.newarray .char, 2) := by decide +kernel
theorem d4_27 : decode method_6_code 27 = .ok (.dup, 1) := by decide +kernel
theorem d4_28 : decode method_6_code 28 = .ok (.iconst 0, 1) := by decide +kernel
theorem d4_29 : decode method_6_code 29 = .ok (.iload_n 1, 1) := by decide +kernel
theorem d4_30 : decode method_6_code 30 = .ok (.i2c, 1) := by decide +kernel
theorem d4_31 : decode method_6_code 31 = .ok (.castore, 1) := by decide +kernel
theorem d4_32 : decode method_6_code 32 = .ok (.invokespecial 44, 3) := by decide +kernel
theorem d4_35 : decode method_6_code 35 = .ok (.areturn, 1) := by decide +kernel
theorem d4_36 : decode method_6_code 36 = .ok (.new 42, 3) := by decide +kernel
theorem d4_39 : decode method_6_code 39 = .ok (.dup, 1) := by decide +kernel
theorem d4_40 : decode method_6_code 40 = .ok (.iconst 2, 1) := by decide +kernel
theorem d4_41 : decode method_6_code 41 = .ok (.newarray .char, 2) := by decide +kernel
theorem d4_43 : decode method_6_code 43 = .ok (.dup, 1) := by decide +kernel
theorem d4_44 : decode method_6_code 44 = .ok (.iconst 0, 1) := by decide +kernel
theorem d4_45 : decode method_6_code 45 = .ok (.iload_n 1, 1) := by decide +kernel
theorem d4_46 : decode method_6_code 46 = .ok (.i2c, 1) := by decide +kernel
theorem d4_47 : decode method_6_code 47 = .ok (.castore, 1) := by decide +kernel
theorem d4_48 : decode method_6_code 48 = .ok (.dup, 1) := by decide +kernel
theorem d4_49 : decode method_6_code 49 = .ok (.iconst 1, 1) := by decide +kernel
theorem d4_50 : decode method_6_code 50 = .ok (.iload_n 2, 1) := by decide +kernel
theorem d4_51 : decode method_6_code 51 = .ok (.i2c, 1) := by decide +kernel
theorem d4_52 : decode method_6_code 52 = .ok (.castore, 1) := by decide +kernel
theorem d4_53 : decode method_6_code 53 = .ok (.invokespecial 44, 3) := by decide +kernel
theorem d4_56 : decode method_6_code 56 = .ok (.areturn, 1) := by decide +kernel
theorem pd_d4 : parseMethodDescriptor "(III)Ljava/lang/String;" = some ⟨[.int, .int, .int], some (.object "java/lang/String")⟩ := by decide +kernel
theorem pn_rmMk : plainName "com/example/quorum/quorum/ValidationFailureEqualsPinLaw" = true := by first | (simp [plainName, overriddenIn]; done) | decide +kernel
theorem ef_rmMk (m : MethodId) (x0 : Int32) (x1 : Int32) (x2 : Int32) : entryFrame m #[(.int x0), (.int x1), (.int x2)] 3 = mkF m 0 #[.val (.int x0), .val (.int x1), .val (.int x2)] [] := by first | (simp [entryFrame, mkF, argsToLocals, Value.category, maxLocals]; done) | rfl
def Q_rmMk (Z : State) (p1 : Int32) (p2 : Int32) (p3 : Int32) (z0 : Int32) (h0 : Heap) (n0 : Nat) (v : Option Value) (h : Heap) (L : List Loc) : Prop := ∃ r : Addr, v = some (.ref r) ∧ Fr n0 L ∧ Keep h0 h [] ∧ own_S Z h h.size r (own_cs p1 p2 p3)
set_option maxRecDepth 65536 in
set_option maxHeartbeats 40000000 in
theorem rmMk (l : Launch) (Z : State) (a0 : Array Value) (hw : ∀ d ∈ tables_1, d.before a0 Z = true) (hEL : EW Z a0 own_EL) (ws : List Jvm.Cond) (p1 : Int32) (p2 : Int32) (p3 : Int32) (z0 : Int32) (h0 : Heap) (n0 : Nat) (Z0 : n0 ≤ h0.size) (h2 : own_in p2) (h3 : own_in p3) (O : Old Z n0 h0) (S0 : Sta Z Z.heap "java/lang/String" "COMPACT_STRINGS" "Z" (.int z0)) (hz0 : ¬ z0 = 0) :
    MetFree l (⟨"com/example/quorum/quorum/ValidationFailureEqualsPinLaw", "mk", "(III)Ljava/lang/String;"⟩ : MethodName) (head1 (Jvm.Cond.code (⟨"com/example/quorum/quorum/ValidationFailureEqualsPinLaw", "mk", "(III)Ljava/lang/String;"⟩ : MethodName) method_6_code 3 (some (.object "java/lang/String")) :: ws) ({ frames := 4, cells := 6, slots := 14, locals := 67 } : Room)) (fun as1 U => as1 = #[(.int p1), (.int p2), (.int p3)] ∧ Z.Warmed39 U.vm ∧ U.heap = h0 ∧ CHv Z own_EL U.vm h0) (fun _ _ _ _ _ => True) (fun _ U o U' => ∃ v L, o = .returned v ∧ Q_rmMk Z p1 p2 p3 z0 h0 n0 v U'.heap L ∧ CHr Z own_EL U.vm U.heap U'.vm U'.heap ∧ ReturnedEndW U o U' L ({ frames := 4, cells := 6, slots := 14, locals := 67 } : Room).cells ({ frames := 4, cells := 6, slots := 14, locals := 67 } : Room).slots) := by
  refine MetFree.of_bodySF (plainFor_of_name pn_rmMk) hisR ?_
  intro p e s m args below meth c s₁ Bd hml0 hP hK
  obtain ⟨rfl, hZ, hh, hH⟩ := hP
  have hx := Bd.exec
  have hby := Bd.bytes
  have hml : c.maxLocals = 3 := hml0
  have hown : (s.setVm s.vm).vm.findClass "com/example/quorum/quorum/ValidationFailureEqualsPinLaw" = some m.cls := findClass_of_methodNamed Bd.named
  have hnm := (name_of_methodNamed Bd.named Bd.method).1
  have X0 : Stand p l e ({ frames := 4, cells := 6, slots := 14, locals := 67 } : Room) (s.setVm s.vm) m #[(.int p1), (.int p2), (.int p3)] below meth c s₁ [] 0 0 := Stand.of_body Bd
  have e0 : s₁.heap = h0 := by rw [← hh, Bd.state]; rfl
  have N0 := Fr.nil n0
  have hZ : Z.Warmed39 (s.setVm s.vm).vm := hZ
  have hS : s.Since s.vm h0.size := (State.WarmedH.refl s).since _
  have hk : h0.size ≤ h0.size := Nat.le_refl _
  have C0 : CHr Z own_EL s.vm h0 s.vm h0 := CHr.refl hH
  show own_EndW p e s below Z own_EL s.heap (Q_rmMk Z p1 p2 p3 z0 h0 n0) ({ frames := 4, cells := 6, slots := 14, locals := 67 } : Room).cells ({ frames := 4, cells := 6, slots := 14, locals := 67 } : Room).slots (s₁.setTop (entryFrame m #[(.int p1), (.int p2), (.int p3)] 3))
  rw [hh]
  refine own_stW (U' := (s₁.setTop (mkF m 0 #[.val (.int p1), .val (.int p2), .val (.int p3)] []))) (fun _ k => castTop (ef_rmMk m p1 p2 p3) k) ?_
  refine own_stW (U' := (s₁.setTop (mkF m 1 #[.val (.int p1), .val (.int p2), .val (.int p3)] [(.int p1)]))) (fun _ k => XS.iloadN X0.here hx rfl (hb hby d4_0) rfl k) ?_
  by_cases c0 : p1 = (0 : Int32)
  · skip
    refine own_stW (U' := (s₁.setTop (mkF m 4 #[.val (.int p1), .val (.int p2), .val (.int p3)] []))) (fun _ k => XS.ifNo X0.here hx rfl (hb hby d4_1) rfl ((if0 _ _).trans (teq c0).2) k) ?_
    obtain ⟨T52, h52, X52, e52, E52, A52, D52, -, st52⟩ := newO X0 hx hZ hown (hw _ (List.mem_of_getElem? (i := 16) rfl)) (hw _ (List.mem_of_getElem? (i := 17) rfl)) (hw _ (List.mem_of_getElem? (i := 18) rfl)) e0 (g := (mkF m 4 #[.val (.int p1), .val (.int p2), .val (.int p3)] [])) rfl (hb hby d4_4) (by decide) (by decide)
    obtain ⟨b52, g52⟩ : ∃ z, z = h0.size := ⟨_, rfl⟩
    rw [← g52] at A52 D52 st52
    have g_b52 : n0 ≤ b52 := Nat.le_trans Z0 (Nat.le_of_eq g52.symm)
    have sz_b52 : h0.size ≤ b52 := Nat.le_trans (Keep.refl h0 []).1 (Nat.le_of_eq g52.symm)
    have O := O.ext E52
    have C52 := C0.trans (CHr.ext E52 C0.1)
    have hk := Nat.le_trans hk E52.1
    have Z52 : n0 ≤ h52.size := Nat.le_trans Z0 E52.1
    have K52 := (Keep.refl h0 []).ext E52
    have E_a : Exa Z h52 b52 "java/lang/String" := A52
    have F_value : Fld Z h52 b52 "java/lang/String" "value" "[B" .null := D52 (Or.inr (hw _ (List.mem_of_getElem? (i := 32) rfl))) (ty := (.array .byte)) (by decide)
    have F_coder : Fld Z h52 b52 "java/lang/String" "coder" "B" (.int 0) := D52 (Or.inr (hw _ (List.mem_of_getElem? (i := 33) rfl))) (ty := .byte) (by decide)
    refine own_stW (U' := (T52.setTop (mkF m 7 #[.val (.int p1), .val (.int p2), .val (.int p3)] [(.ref b52)]))) st52 ?_
    refine own_stW (U' := (T52.setTop (mkF m 8 #[.val (.int p1), .val (.int p2), .val (.int p3)] [(.ref b52), (.ref b52)]))) (fun _ k => XS.dup X52.here hx rfl (hb hby d4_7) rfl rfl k) ?_
    refine own_stW (U' := (T52.setTop (mkF m 9 #[.val (.int p1), .val (.int p2), .val (.int p3)] [(.int (0 : Int32)), (.ref b52), (.ref b52)]))) (fun _ k => XS.iconst X52.here hx rfl (hb hby d4_8) k) ?_
    obtain ⟨T53, h53, k53, X53, e53, E53, A53, st53⟩ := newP X52 hx hZ (hw _ (List.mem_of_getElem? (i := 19) rfl)) e52 (g := (mkF m 9 #[.val (.int p1), .val (.int p2), .val (.int p3)] [(.int (0 : Int32)), (.ref b52), (.ref b52)])) rfl (hb hby d4_9) rfl (by decide) (cap := 0) (by decide) (by decide) (by decide) (by decide)
    obtain ⟨b53, g53⟩ : ∃ z, z = h52.size := ⟨_, rfl⟩
    rw [← g53] at A53 st53
    have ne_b52_b53 : b52 ≠ b53 := Nat.ne_of_lt (Nat.lt_of_lt_of_eq E_a.lt g53.symm)
    have g_b53 : n0 ≤ b53 := Nat.le_trans Z52 (Nat.le_of_eq g53.symm)
    have sz_b53 : h0.size ≤ b53 := Nat.le_trans K52.1 (Nat.le_of_eq g53.symm)
    have O := O.ext E53
    have C53 := C52.trans (CHr.ext E53 C52.1)
    have hk := Nat.le_trans hk E53.1
    have E_a := E_a.ext E53
    have F_value := F_value.ext E53
    have F_coder := F_coder.ext E53
    have Z53 : n0 ≤ h53.size := Nat.le_trans Z52 E53.1
    have K53 := K52.ext E53
    have V_b53 : own_A Z h53 b53 .char 0 (fun _ => defaultValue .char) := own_A.new A53 (by decide)
    have Sf_b53 : Safe Z own_EL s.vm h53 b53 := Safe.arr hZ.alike A53 (by decide)
    refine own_stW (U' := (T53.setTop (mkF m 11 #[.val (.int p1), .val (.int p2), .val (.int p3)] [(.ref b53), (.ref b52), (.ref b52)]))) st53 ?_
    have V_b53 : own_A Z h53 b53 .char 0 (own_L []) := V_b53.congr (fun j hj => absurd hj (Nat.not_lt_zero j))
    obtain ⟨_, _, ⟨T54, L54, k54, n54⟩, -, X54, hS54, gr54, ⟨Lc54, hQ54, l54, y54, z54, C54q⟩, st54⟩ := X53.specialBackS hx (y := (⟨"java/lang/String", "<init>", "([C)V"⟩ : MethodName)) rfl hown (mvT hZ (hw _ (List.mem_of_getElem? (i := 20) rfl))) (mvT hZ (hw _ (List.mem_of_getElem? (i := 21) rfl))) (mvT hZ (hw _ (List.mem_of_getElem? (i := 22) rfl))) (by decide) (backOfSH (W := 1) (rmI1_0 l Z a0 hw hEL [] b52 b53  z0 h53 n0 Z53 E_a F_value F_coder g_b52 V_b53  O S0 hz0) hZ (hw _ (List.mem_of_getElem? (i := 22) rfl)) (hw _ (List.mem_of_getElem? (i := 18) rfl)) (by decide) (by decide) hEL C53.1) (g := (mkF m 11 #[.val (.int p1), .val (.int p2), .val (.int p3)] [(.ref b53), (.ref b52), (.ref b52)])) rfl (by rw [hml]; rfl) (Steps.refl _) (a := b52) (argsL := [(.ref b53)]) (rest := [(.ref b52)]) (lenOf (pd_d5) rfl) rfl (by show 2 * 0 + _ ≤ _; exact Nat.le_of_eq rfl) (hb hby d4_11) (fun _ _ => ⟨rfl, e53, (Nat.le_of_ble_eq_true rfl), (Nat.le_of_ble_eq_true rfl)⟩)
    dsimp only [Pt.U, Pt.locs, Pt.cells, Pt.slots] at X54 l54 y54 z54 st54 hQ54 hS54 gr54 C54q
    subst l54 y54 z54
    obtain ⟨X54, hS, hZ, hown⟩ := rebS hS (show _ ≤ T53.heap.size by rw [e53]; exact hk) X54 hS54 gr54 hZ hown
    obtain ⟨rfl, Nq54, Kq54, St⟩ := hQ54
    have C54 := C53.trans C54q
    have N54 := Fr.app N0 Nq54
    have Z54 : n0 ≤ T54.heap.size := Nat.le_trans Z53 Kq54.1
    have K54 := K53.trans Kq54 (fun x hx => Or.inr (by cases List.mem_singleton.mp hx; exact sz_b52))
    have hk : T54.heap.size ≤ T54.heap.size := Nat.le_refl _
    refine own_trW (U' := (T54.setTop (mkF m 14 #[.val (.int p1), .val (.int p2), .val (.int p3)] [(.ref b52)]))) st54 ?_
    have q : own_cs p1 p2 p3 = [] := by simp [own_cs, c0]
    exact own_retAW X54 hx hS (by rw [show T54.heap = T54.heap from rfl]; exact hk) hZ hEL (by rw [show T54.heap = T54.heap from rfl]; exact C54) (t := (.object "java/lang/String")) Bd.returns Bd.notSynchronized rfl rfl (hb hby d4_14) (by decide) (by decide) (⟨b52, rfl, N54, K54, by rw [q]; exact St⟩)
  · skip
    refine own_stW (U' := (s₁.setTop (mkF m 15 #[.val (.int p1), .val (.int p2), .val (.int p3)] []))) (fun _ k => XS.ifYes X0.here hx rfl (pc0 := 1) (pc' := 15) rfl (hb hby d4_1) rfl ((if0 _ _).trans (feq c0).2) (by decide) (by decide) k) ?_
    refine own_stW (U' := (s₁.setTop (mkF m 16 #[.val (.int p1), .val (.int p2), .val (.int p3)] [(.int p1)]))) (fun _ k => XS.iloadN X0.here hx rfl (hb hby d4_15) rfl k) ?_
    refine own_stW (U' := (s₁.setTop (mkF m 17 #[.val (.int p1), .val (.int p2), .val (.int p3)] [(.int (1 : Int32)), (.int p1)]))) (fun _ k => XS.iconst X0.here hx rfl (hb hby d4_16) k) ?_
    by_cases c1 : p1 = (1 : Int32)
    · skip
      refine own_stW (U' := (s₁.setTop (mkF m 20 #[.val (.int p1), .val (.int p2), .val (.int p3)] []))) (fun _ k => XS.icmpNo X0.here hx rfl (hb hby d4_17) rfl (teq c1).2 k) ?_
      obtain ⟨T55, h55, X55, e55, E55, A55, D55, -, st55⟩ := newO X0 hx hZ hown (hw _ (List.mem_of_getElem? (i := 16) rfl)) (hw _ (List.mem_of_getElem? (i := 17) rfl)) (hw _ (List.mem_of_getElem? (i := 18) rfl)) e0 (g := (mkF m 20 #[.val (.int p1), .val (.int p2), .val (.int p3)] [])) rfl (hb hby d4_20) (by decide) (by decide)
      obtain ⟨b55, g55⟩ : ∃ z, z = h0.size := ⟨_, rfl⟩
      rw [← g55] at A55 D55 st55
      have g_b55 : n0 ≤ b55 := Nat.le_trans Z0 (Nat.le_of_eq g55.symm)
      have sz_b55 : h0.size ≤ b55 := Nat.le_trans (Keep.refl h0 []).1 (Nat.le_of_eq g55.symm)
      have O := O.ext E55
      have C55 := C0.trans (CHr.ext E55 C0.1)
      have hk := Nat.le_trans hk E55.1
      have Z55 : n0 ≤ h55.size := Nat.le_trans Z0 E55.1
      have K55 := (Keep.refl h0 []).ext E55
      have E_a : Exa Z h55 b55 "java/lang/String" := A55
      have F_value : Fld Z h55 b55 "java/lang/String" "value" "[B" .null := D55 (Or.inr (hw _ (List.mem_of_getElem? (i := 32) rfl))) (ty := (.array .byte)) (by decide)
      have F_coder : Fld Z h55 b55 "java/lang/String" "coder" "B" (.int 0) := D55 (Or.inr (hw _ (List.mem_of_getElem? (i := 33) rfl))) (ty := .byte) (by decide)
      refine own_stW (U' := (T55.setTop (mkF m 23 #[.val (.int p1), .val (.int p2), .val (.int p3)] [(.ref b55)]))) st55 ?_
      refine own_stW (U' := (T55.setTop (mkF m 24 #[.val (.int p1), .val (.int p2), .val (.int p3)] [(.ref b55), (.ref b55)]))) (fun _ k => XS.dup X55.here hx rfl (hb hby d4_23) rfl rfl k) ?_
      refine own_stW (U' := (T55.setTop (mkF m 25 #[.val (.int p1), .val (.int p2), .val (.int p3)] [(.int (1 : Int32)), (.ref b55), (.ref b55)]))) (fun _ k => XS.iconst X55.here hx rfl (hb hby d4_24) k) ?_
      obtain ⟨T56, h56, k56, X56, e56, E56, A56, st56⟩ := newP X55 hx hZ (hw _ (List.mem_of_getElem? (i := 19) rfl)) e55 (g := (mkF m 25 #[.val (.int p1), .val (.int p2), .val (.int p3)] [(.int (1 : Int32)), (.ref b55), (.ref b55)])) rfl (hb hby d4_25) rfl (by decide) (cap := 1) (by decide) (by decide) (by decide) (by decide)
      obtain ⟨b56, g56⟩ : ∃ z, z = h55.size := ⟨_, rfl⟩
      rw [← g56] at A56 st56
      have ne_b55_b56 : b55 ≠ b56 := Nat.ne_of_lt (Nat.lt_of_lt_of_eq E_a.lt g56.symm)
      have g_b56 : n0 ≤ b56 := Nat.le_trans Z55 (Nat.le_of_eq g56.symm)
      have sz_b56 : h0.size ≤ b56 := Nat.le_trans K55.1 (Nat.le_of_eq g56.symm)
      have O := O.ext E56
      have C56 := C55.trans (CHr.ext E56 C55.1)
      have hk := Nat.le_trans hk E56.1
      have E_a := E_a.ext E56
      have F_value := F_value.ext E56
      have F_coder := F_coder.ext E56
      have Z56 : n0 ≤ h56.size := Nat.le_trans Z55 E56.1
      have K56 := K55.ext E56
      have V_b56 : own_A Z h56 b56 .char 1 (fun _ => defaultValue .char) := own_A.new A56 (by decide)
      have Sf_b56 : Safe Z own_EL s.vm h56 b56 := Safe.arr hZ.alike A56 (by decide)
      refine own_stW (U' := (T56.setTop (mkF m 27 #[.val (.int p1), .val (.int p2), .val (.int p3)] [(.ref b56), (.ref b55), (.ref b55)]))) st56 ?_
      refine own_stW (U' := (T56.setTop (mkF m 28 #[.val (.int p1), .val (.int p2), .val (.int p3)] [(.ref b56), (.ref b56), (.ref b55), (.ref b55)]))) (fun _ k => XS.dup X56.here hx rfl (hb hby d4_27) rfl rfl k) ?_
      refine own_stW (U' := (T56.setTop (mkF m 29 #[.val (.int p1), .val (.int p2), .val (.int p3)] [(.int (0 : Int32)), (.ref b56), (.ref b56), (.ref b55), (.ref b55)]))) (fun _ k => XS.iconst X56.here hx rfl (hb hby d4_28) k) ?_
      refine own_stW (U' := (T56.setTop (mkF m 30 #[.val (.int p1), .val (.int p2), .val (.int p3)] [(.int p2), (.int (0 : Int32)), (.ref b56), (.ref b56), (.ref b55), (.ref b55)]))) (fun _ k => XS.iloadN X56.here hx rfl (hb hby d4_29) rfl k) ?_
      refine own_stW (U' := (T56.setTop (mkF m 31 #[.val (.int p1), .val (.int p2), .val (.int p3)] [(.int (nar .char p2)), (.int (0 : Int32)), (.ref b56), (.ref b56), (.ref b55), (.ref b55)]))) (fun _ k => XS.i2c X56.here hx rfl (hb hby d4_30) rfl k) ?_
      obtain ⟨T57, h57, X57, e57, W57, V57, st57⟩ := own_stC X56 hx hZ e56 V_b56 (j := (0 : Int32)) (i := 0) (by decide) rfl (by decide) (g := (mkF m 31 #[.val (.int p1), .val (.int p2), .val (.int p3)] [(.int (nar .char p2)), (.int (0 : Int32)), (.ref b56), (.ref b56), (.ref b55), (.ref b55)])) rfl rfl (hb hby d4_31)
      have O := O.wr W57 g_b56
      have C57 := C56.trans (CHr.wr W57 Sf_b56 C56.1)
      have Sf_b56 := Safe.wr W57 Sf_b56 C56.1 Sf_b56
      have hk := Nat.le_trans hk (Nat.le_of_eq W57.size.symm)
      have E_a := E_a.wr W57
      have F_value := F_value.other W57 (Or.inl ne_b55_b56)
      have F_coder := F_coder.other W57 (Or.inl ne_b55_b56)
      have V_b56 := V57
      have N57 := Fr.snoc X57 N0 g_b56
      have Z57 : n0 ≤ h57.size := Nat.le_trans Z56 (Nat.le_of_eq W57.size.symm)
      have K57 := K56.wr W57 (Or.inr sz_b56)
      refine own_stW (U' := (T57.setTop (mkF m 32 #[.val (.int p1), .val (.int p2), .val (.int p3)] [(.ref b56), (.ref b55), (.ref b55)]))) st57 ?_
      have V_b56 : own_A Z h57 b56 .char 1 (own_L [p2]) := V_b56.congr (by intro j hj; rcases j with _ | j <;> first | exact congrArg Value.int ((congrArg (nar .char) (own_char h2)).trans (own_char h2)) | omega)
      obtain ⟨_, _, ⟨T58, L58, k58, n58⟩, -, X58, hS58, gr58, ⟨Lc58, hQ58, l58, y58, z58, C58q⟩, st58⟩ := X57.specialBackS hx (y := (⟨"java/lang/String", "<init>", "([C)V"⟩ : MethodName)) rfl hown (mvT hZ (hw _ (List.mem_of_getElem? (i := 20) rfl))) (mvT hZ (hw _ (List.mem_of_getElem? (i := 21) rfl))) (mvT hZ (hw _ (List.mem_of_getElem? (i := 22) rfl))) (by decide) (backOfSH (W := 1) (rmI1_1 l Z a0 hw hEL [] b55 b56 p2 z0 h57 n0 Z57 E_a F_value F_coder g_b55 V_b56 h2 O S0 hz0) hZ (hw _ (List.mem_of_getElem? (i := 22) rfl)) (hw _ (List.mem_of_getElem? (i := 18) rfl)) (by decide) (by decide) hEL C57.1) (g := (mkF m 32 #[.val (.int p1), .val (.int p2), .val (.int p3)] [(.ref b56), (.ref b55), (.ref b55)])) rfl (by rw [hml]; rfl) (Steps.refl _) (a := b55) (argsL := [(.ref b56)]) (rest := [(.ref b55)]) (lenOf (pd_d5) rfl) rfl (by show 2 * 0 + _ ≤ _; exact Nat.le_of_eq rfl) (hb hby d4_32) (fun _ _ => ⟨rfl, e57, (Nat.le_of_ble_eq_true rfl), (Nat.le_of_ble_eq_true rfl)⟩)
      dsimp only [Pt.U, Pt.locs, Pt.cells, Pt.slots] at X58 l58 y58 z58 st58 hQ58 hS58 gr58 C58q
      subst l58 y58 z58
      obtain ⟨X58, hS, hZ, hown⟩ := rebS hS (show _ ≤ T57.heap.size by rw [e57]; exact hk) X58 hS58 gr58 hZ hown
      obtain ⟨rfl, Nq58, Kq58, St⟩ := hQ58
      have C58 := C57.trans C58q
      have N58 := Fr.app N57 Nq58
      have Z58 : n0 ≤ T58.heap.size := Nat.le_trans Z57 Kq58.1
      have K58 := K57.trans Kq58 (fun x hx => Or.inr (by cases List.mem_singleton.mp hx; exact sz_b55))
      have hk : T58.heap.size ≤ T58.heap.size := Nat.le_refl _
      refine own_trW (U' := (T58.setTop (mkF m 35 #[.val (.int p1), .val (.int p2), .val (.int p3)] [(.ref b55)]))) st58 ?_
      have q : own_cs p1 p2 p3 = [p2] := by simp [own_cs, c0, c1]
      exact own_retAW X58 hx hS (by rw [show T58.heap = T58.heap from rfl]; exact hk) hZ hEL (by rw [show T58.heap = T58.heap from rfl]; exact C58) (t := (.object "java/lang/String")) Bd.returns Bd.notSynchronized rfl rfl (hb hby d4_35) (by decide) (by decide) (⟨b55, rfl, N58, K58, by rw [q]; exact St⟩)
    · skip
      refine own_stW (U' := (s₁.setTop (mkF m 36 #[.val (.int p1), .val (.int p2), .val (.int p3)] []))) (fun _ k => XS.icmpYes X0.here hx rfl (pc0 := 17) (pc' := 36) rfl (hb hby d4_17) rfl (feq c1).2 (by decide) (by decide) k) ?_
      obtain ⟨T59, h59, X59, e59, E59, A59, D59, -, st59⟩ := newO X0 hx hZ hown (hw _ (List.mem_of_getElem? (i := 16) rfl)) (hw _ (List.mem_of_getElem? (i := 17) rfl)) (hw _ (List.mem_of_getElem? (i := 18) rfl)) e0 (g := (mkF m 36 #[.val (.int p1), .val (.int p2), .val (.int p3)] [])) rfl (hb hby d4_36) (by decide) (by decide)
      obtain ⟨b59, g59⟩ : ∃ z, z = h0.size := ⟨_, rfl⟩
      rw [← g59] at A59 D59 st59
      have g_b59 : n0 ≤ b59 := Nat.le_trans Z0 (Nat.le_of_eq g59.symm)
      have sz_b59 : h0.size ≤ b59 := Nat.le_trans (Keep.refl h0 []).1 (Nat.le_of_eq g59.symm)
      have O := O.ext E59
      have C59 := C0.trans (CHr.ext E59 C0.1)
      have hk := Nat.le_trans hk E59.1
      have Z59 : n0 ≤ h59.size := Nat.le_trans Z0 E59.1
      have K59 := (Keep.refl h0 []).ext E59
      have E_a : Exa Z h59 b59 "java/lang/String" := A59
      have F_value : Fld Z h59 b59 "java/lang/String" "value" "[B" .null := D59 (Or.inr (hw _ (List.mem_of_getElem? (i := 32) rfl))) (ty := (.array .byte)) (by decide)
      have F_coder : Fld Z h59 b59 "java/lang/String" "coder" "B" (.int 0) := D59 (Or.inr (hw _ (List.mem_of_getElem? (i := 33) rfl))) (ty := .byte) (by decide)
      refine own_stW (U' := (T59.setTop (mkF m 39 #[.val (.int p1), .val (.int p2), .val (.int p3)] [(.ref b59)]))) st59 ?_
      refine own_stW (U' := (T59.setTop (mkF m 40 #[.val (.int p1), .val (.int p2), .val (.int p3)] [(.ref b59), (.ref b59)]))) (fun _ k => XS.dup X59.here hx rfl (hb hby d4_39) rfl rfl k) ?_
      refine own_stW (U' := (T59.setTop (mkF m 41 #[.val (.int p1), .val (.int p2), .val (.int p3)] [(.int (2 : Int32)), (.ref b59), (.ref b59)]))) (fun _ k => XS.iconst X59.here hx rfl (hb hby d4_40) k) ?_
      obtain ⟨T60, h60, k60, X60, e60, E60, A60, st60⟩ := newP X59 hx hZ (hw _ (List.mem_of_getElem? (i := 19) rfl)) e59 (g := (mkF m 41 #[.val (.int p1), .val (.int p2), .val (.int p3)] [(.int (2 : Int32)), (.ref b59), (.ref b59)])) rfl (hb hby d4_41) rfl (by decide) (cap := 2) (by decide) (by decide) (by decide) (by decide)
      obtain ⟨b60, g60⟩ : ∃ z, z = h59.size := ⟨_, rfl⟩
      rw [← g60] at A60 st60
      have ne_b59_b60 : b59 ≠ b60 := Nat.ne_of_lt (Nat.lt_of_lt_of_eq E_a.lt g60.symm)
      have g_b60 : n0 ≤ b60 := Nat.le_trans Z59 (Nat.le_of_eq g60.symm)
      have sz_b60 : h0.size ≤ b60 := Nat.le_trans K59.1 (Nat.le_of_eq g60.symm)
      have O := O.ext E60
      have C60 := C59.trans (CHr.ext E60 C59.1)
      have hk := Nat.le_trans hk E60.1
      have E_a := E_a.ext E60
      have F_value := F_value.ext E60
      have F_coder := F_coder.ext E60
      have Z60 : n0 ≤ h60.size := Nat.le_trans Z59 E60.1
      have K60 := K59.ext E60
      have V_b60 : own_A Z h60 b60 .char 2 (fun _ => defaultValue .char) := own_A.new A60 (by decide)
      have Sf_b60 : Safe Z own_EL s.vm h60 b60 := Safe.arr hZ.alike A60 (by decide)
      refine own_stW (U' := (T60.setTop (mkF m 43 #[.val (.int p1), .val (.int p2), .val (.int p3)] [(.ref b60), (.ref b59), (.ref b59)]))) st60 ?_
      refine own_stW (U' := (T60.setTop (mkF m 44 #[.val (.int p1), .val (.int p2), .val (.int p3)] [(.ref b60), (.ref b60), (.ref b59), (.ref b59)]))) (fun _ k => XS.dup X60.here hx rfl (hb hby d4_43) rfl rfl k) ?_
      refine own_stW (U' := (T60.setTop (mkF m 45 #[.val (.int p1), .val (.int p2), .val (.int p3)] [(.int (0 : Int32)), (.ref b60), (.ref b60), (.ref b59), (.ref b59)]))) (fun _ k => XS.iconst X60.here hx rfl (hb hby d4_44) k) ?_
      refine own_stW (U' := (T60.setTop (mkF m 46 #[.val (.int p1), .val (.int p2), .val (.int p3)] [(.int p2), (.int (0 : Int32)), (.ref b60), (.ref b60), (.ref b59), (.ref b59)]))) (fun _ k => XS.iloadN X60.here hx rfl (hb hby d4_45) rfl k) ?_
      refine own_stW (U' := (T60.setTop (mkF m 47 #[.val (.int p1), .val (.int p2), .val (.int p3)] [(.int (nar .char p2)), (.int (0 : Int32)), (.ref b60), (.ref b60), (.ref b59), (.ref b59)]))) (fun _ k => XS.i2c X60.here hx rfl (hb hby d4_46) rfl k) ?_
      obtain ⟨T61, h61, X61, e61, W61, V61, st61⟩ := own_stC X60 hx hZ e60 V_b60 (j := (0 : Int32)) (i := 0) (by decide) rfl (by decide) (g := (mkF m 47 #[.val (.int p1), .val (.int p2), .val (.int p3)] [(.int (nar .char p2)), (.int (0 : Int32)), (.ref b60), (.ref b60), (.ref b59), (.ref b59)])) rfl rfl (hb hby d4_47)
      have O := O.wr W61 g_b60
      have C61 := C60.trans (CHr.wr W61 Sf_b60 C60.1)
      have Sf_b60 := Safe.wr W61 Sf_b60 C60.1 Sf_b60
      have hk := Nat.le_trans hk (Nat.le_of_eq W61.size.symm)
      have E_a := E_a.wr W61
      have F_value := F_value.other W61 (Or.inl ne_b59_b60)
      have F_coder := F_coder.other W61 (Or.inl ne_b59_b60)
      have V_b60 := V61
      have N61 := Fr.snoc X61 N0 g_b60
      have Z61 : n0 ≤ h61.size := Nat.le_trans Z60 (Nat.le_of_eq W61.size.symm)
      have K61 := K60.wr W61 (Or.inr sz_b60)
      refine own_stW (U' := (T61.setTop (mkF m 48 #[.val (.int p1), .val (.int p2), .val (.int p3)] [(.ref b60), (.ref b59), (.ref b59)]))) st61 ?_
      refine own_stW (U' := (T61.setTop (mkF m 49 #[.val (.int p1), .val (.int p2), .val (.int p3)] [(.ref b60), (.ref b60), (.ref b59), (.ref b59)]))) (fun _ k => XS.dup X61.here hx rfl (hb hby d4_48) rfl rfl k) ?_
      refine own_stW (U' := (T61.setTop (mkF m 50 #[.val (.int p1), .val (.int p2), .val (.int p3)] [(.int (1 : Int32)), (.ref b60), (.ref b60), (.ref b59), (.ref b59)]))) (fun _ k => XS.iconst X61.here hx rfl (hb hby d4_49) k) ?_
      refine own_stW (U' := (T61.setTop (mkF m 51 #[.val (.int p1), .val (.int p2), .val (.int p3)] [(.int p3), (.int (1 : Int32)), (.ref b60), (.ref b60), (.ref b59), (.ref b59)]))) (fun _ k => XS.iloadN X61.here hx rfl (hb hby d4_50) rfl k) ?_
      refine own_stW (U' := (T61.setTop (mkF m 52 #[.val (.int p1), .val (.int p2), .val (.int p3)] [(.int (nar .char p3)), (.int (1 : Int32)), (.ref b60), (.ref b60), (.ref b59), (.ref b59)]))) (fun _ k => XS.i2c X61.here hx rfl (hb hby d4_51) rfl k) ?_
      obtain ⟨T62, h62, X62, e62, W62, V62, st62⟩ := own_stC X61 hx hZ e61 V_b60 (j := (1 : Int32)) (i := 1) (by decide) rfl (by decide) (g := (mkF m 52 #[.val (.int p1), .val (.int p2), .val (.int p3)] [(.int (nar .char p3)), (.int (1 : Int32)), (.ref b60), (.ref b60), (.ref b59), (.ref b59)])) rfl rfl (hb hby d4_52)
      have O := O.wr W62 g_b60
      have C62 := C61.trans (CHr.wr W62 Sf_b60 C61.1)
      have Sf_b60 := Safe.wr W62 Sf_b60 C61.1 Sf_b60
      have hk := Nat.le_trans hk (Nat.le_of_eq W62.size.symm)
      have E_a := E_a.wr W62
      have F_value := F_value.other W62 (Or.inl ne_b59_b60)
      have F_coder := F_coder.other W62 (Or.inl ne_b59_b60)
      have V_b60 := V62
      have N62 := Fr.snoc X62 N61 g_b60
      have Z62 : n0 ≤ h62.size := Nat.le_trans Z61 (Nat.le_of_eq W62.size.symm)
      have K62 := K61.wr W62 (Or.inr sz_b60)
      refine own_stW (U' := (T62.setTop (mkF m 53 #[.val (.int p1), .val (.int p2), .val (.int p3)] [(.ref b60), (.ref b59), (.ref b59)]))) st62 ?_
      have V_b60 : own_A Z h62 b60 .char 2 (own_L [p2, p3]) := V_b60.congr (by intro j hj; rcases j with _ | _ | j <;> first | exact congrArg Value.int ((congrArg (nar .char) (own_char h2)).trans (own_char h2)) | exact congrArg Value.int ((congrArg (nar .char) (own_char h3)).trans (own_char h3)) | omega)
      obtain ⟨_, _, ⟨T63, L63, k63, n63⟩, -, X63, hS63, gr63, ⟨Lc63, hQ63, l63, y63, z63, C63q⟩, st63⟩ := X62.specialBackS hx (y := (⟨"java/lang/String", "<init>", "([C)V"⟩ : MethodName)) rfl hown (mvT hZ (hw _ (List.mem_of_getElem? (i := 20) rfl))) (mvT hZ (hw _ (List.mem_of_getElem? (i := 21) rfl))) (mvT hZ (hw _ (List.mem_of_getElem? (i := 22) rfl))) (by decide) (backOfSH (W := 1) (rmI1_2 l Z a0 hw hEL [] b59 b60 p2 p3 z0 h62 n0 Z62 E_a F_value F_coder g_b59 V_b60 h2 h3 O S0 hz0) hZ (hw _ (List.mem_of_getElem? (i := 22) rfl)) (hw _ (List.mem_of_getElem? (i := 18) rfl)) (by decide) (by decide) hEL C62.1) (g := (mkF m 53 #[.val (.int p1), .val (.int p2), .val (.int p3)] [(.ref b60), (.ref b59), (.ref b59)])) rfl (by rw [hml]; rfl) (Steps.refl _) (a := b59) (argsL := [(.ref b60)]) (rest := [(.ref b59)]) (lenOf (pd_d5) rfl) rfl (by show 2 * 0 + _ ≤ _; exact Nat.le_of_eq rfl) (hb hby d4_53) (fun _ _ => ⟨rfl, e62, (Nat.le_of_ble_eq_true rfl), (Nat.le_of_ble_eq_true rfl)⟩)
      dsimp only [Pt.U, Pt.locs, Pt.cells, Pt.slots] at X63 l63 y63 z63 st63 hQ63 hS63 gr63 C63q
      subst l63 y63 z63
      obtain ⟨X63, hS, hZ, hown⟩ := rebS hS (show _ ≤ T62.heap.size by rw [e62]; exact hk) X63 hS63 gr63 hZ hown
      obtain ⟨rfl, Nq63, Kq63, St⟩ := hQ63
      have C63 := C62.trans C63q
      have N63 := Fr.app N62 Nq63
      have Z63 : n0 ≤ T63.heap.size := Nat.le_trans Z62 Kq63.1
      have K63 := K62.trans Kq63 (fun x hx => Or.inr (by cases List.mem_singleton.mp hx; exact sz_b59))
      have hk : T63.heap.size ≤ T63.heap.size := Nat.le_refl _
      refine own_trW (U' := (T63.setTop (mkF m 56 #[.val (.int p1), .val (.int p2), .val (.int p3)] [(.ref b59)]))) st63 ?_
      have q : own_cs p1 p2 p3 = [p2, p3] := by simp [own_cs, c0, c1]
      exact own_retAW X63 hx hS (by rw [show T63.heap = T63.heap from rfl]; exact hk) hZ hEL (by rw [show T63.heap = T63.heap from rfl]; exact C63) (t := (.object "java/lang/String")) Bd.returns Bd.notSynchronized rfl rfl (hb hby d4_56) (by decide) (by decide) (⟨b59, rfl, N63, K63, by rw [q]; exact St⟩)
theorem d12_0 : decode jdk_31_method_11_code 0 = .ok (.aload_n 0, 1) := by decide +kernel
theorem d12_1 : decode jdk_31_method_11_code 1 = .ok (.ifnonnull 12, 3) := by decide +kernel
theorem d12_4 : decode jdk_31_method_11_code 4 = .ok (.new 84, 3) := by decide +kernel
theorem d12_7 : decode jdk_31_method_11_code 7 = .ok (.dup, 1) := by decide +kernel
theorem d12_8 : decode jdk_31_method_11_code 8 = .ok (.aload_n 1, 1) := by decide +kernel
theorem d12_9 : decode jdk_31_method_11_code 9 = .ok (.invokespecial 87, 3) := by decide +kernel
theorem d12_12 : decode jdk_31_method_11_code 12 = .ok (.athrow, 1) := by decide +kernel
theorem d12_13 : decode jdk_31_method_11_code 13 = .ok (.aload_n 0, 1) := by decide +kernel
theorem d12_14 : decode jdk_31_method_11_code 14 = .ok (.areturn, 1) := by decide +kernel
theorem pn_rmRN : plainName "java/util/Objects" = true := by first | (simp [plainName, overriddenIn]; done) | decide +kernel
theorem pd_d12 : parseMethodDescriptor "(Ljava/lang/Object;Ljava/lang/String;)Ljava/lang/Object;" = some ⟨[(.object "java/lang/Object"), (.object "java/lang/String")], some (.object "java/lang/Object")⟩ := by decide +kernel
theorem ef_rmRN (m : MethodId) (x0 : Addr) (x1 : Addr) : entryFrame m #[(.ref x0), (.ref x1)] 2 = mkF m 0 #[.val (.ref x0), .val (.ref x1)] [] := by first | (simp [entryFrame, mkF, argsToLocals, Value.category, maxLocals]; done) | rfl
def Q_rmRN (Z : State) (a : Addr) (b : Addr) (h0 : Heap) (n0 : Nat) (v : Option Value) (h : Heap) (L : List Loc) : Prop := v = some (.ref a) ∧ Fr n0 L ∧ h = h0
set_option maxRecDepth 65536 in
set_option maxHeartbeats 40000000 in
theorem rmRN (l : Launch) (Z : State) (a0 : Array Value) (hw : ∀ d ∈ tables_1, d.before a0 Z = true) (ws : List Jvm.Cond) (a : Addr) (b : Addr) (h0 : Heap) (n0 : Nat) (Z0 : n0 ≤ h0.size)  :
    MetFree l (⟨"java/util/Objects", "requireNonNull", "(Ljava/lang/Object;Ljava/lang/String;)Ljava/lang/Object;"⟩ : MethodName) (head1 (Jvm.Cond.code (⟨"java/util/Objects", "requireNonNull", "(Ljava/lang/Object;Ljava/lang/String;)Ljava/lang/Object;"⟩ : MethodName) jdk_31_method_11_code 2 (some (.object "java/lang/Object")) :: ws) ({ frames := 0, cells := 0, slots := 0, locals := 0 } : Room)) (fun as1 U => as1 = #[(.ref a), (.ref b)] ∧ Z.Warmed39 U.vm ∧ U.heap = h0) (fun _ _ _ _ _ => True) (fun _ U o U' => ∃ v L, o = .returned v ∧ Q_rmRN Z a b h0 n0 v U'.heap L ∧ FrameEnd U o U' L ({ frames := 0, cells := 0, slots := 0, locals := 0 } : Room).cells ({ frames := 0, cells := 0, slots := 0, locals := 0 } : Room).slots) := by
  refine MetFree.of_bodySF (plainFor_of_name pn_rmRN) hisR ?_
  intro p e s m args below meth c s₁ Bd hml0 hP hK
  obtain ⟨rfl, hZ, hh⟩ := hP
  have hx := Bd.exec
  have hby := Bd.bytes
  have hml : c.maxLocals = 2 := hml0
  have hown : s.vm.findClass "java/util/Objects" = some m.cls := findClass_of_methodNamed Bd.named
  have hnm := (name_of_methodNamed Bd.named Bd.method).1
  have X0 : Stand p l e ({ frames := 0, cells := 0, slots := 0, locals := 0 } : Room) s m #[(.ref a), (.ref b)] below meth c s₁ [] 0 0 := Stand.of_body Bd
  have e0 : s₁.heap = h0 := by rw [← hh, Bd.state]; rfl
  have N0 := Fr.nil n0
  show own_Ends p e s below (Q_rmRN Z a b h0 n0) ({ frames := 0, cells := 0, slots := 0, locals := 0 } : Room).cells ({ frames := 0, cells := 0, slots := 0, locals := 0 } : Room).slots (s₁.setTop (entryFrame m #[(.ref a), (.ref b)] 2))
  refine own_st (U' := (s₁.setTop (mkF m 0 #[.val (.ref a), .val (.ref b)] []))) (fun _ k => castTop (ef_rmRN m a b) k) ?_
  refine own_st (U' := (s₁.setTop (mkF m 1 #[.val (.ref a), .val (.ref b)] [(.ref a)]))) (fun _ k => XS.aloadN X0.here hx rfl (hb hby d12_0) rfl rfl k) ?_
  refine own_st (U' := (s₁.setTop (mkF m 13 #[.val (.ref a), .val (.ref b)] []))) (fun _ k => XS.ifnonnullYes X0.here hx rfl (pc0 := 1) (pc' := 13) rfl (hb hby d12_1) rfl (by decide) (by decide) k) ?_
  refine own_st (U' := (s₁.setTop (mkF m 14 #[.val (.ref a), .val (.ref b)] [(.ref a)]))) (fun _ k => XS.aloadN X0.here hx rfl (hb hby d12_13) rfl rfl k) ?_
  exact own_retA X0 hx (t := (.object "java/lang/Object")) Bd.returns Bd.notSynchronized rfl rfl (hb hby d12_14) (by decide) (by decide) (⟨rfl, N0, e0⟩)
theorem d11_0 : decode prog_119_method_1_code 0 = .ok (.aload_n 0, 1) := by decide +kernel
theorem d11_1 : decode prog_119_method_1_code 1 = .ok (.invokespecial 1, 3) := by decide +kernel
theorem d11_4 : decode prog_119_method_1_code 4 = .ok (.aload_n 0, 1) := by decide +kernel
theorem d11_5 : decode prog_119_method_1_code 5 = .ok (.aload_n 1, 1) := by decide +kernel
theorem d11_6 : decode prog_119_method_1_code 6 = .ok (.ldc 7, 2) := by decide +kernel
theorem d11_8 : decode prog_119_method_1_code 8 = .ok (.invokestatic 9, 3) := by decide +kernel
theorem d11_11 : decode prog_119_method_1_code 11 = .ok (.checkcast 15, 3) := by decide +kernel
theorem d11_14 : decode prog_119_method_1_code 14 = .ok (.putfield 17, 3) := by decide +kernel
theorem d11_17 : decode prog_119_method_1_code 17 = .ok (.aload_n 0, 1) := by decide +kernel
theorem d11_18 : decode prog_119_method_1_code 18 = .ok (.aload_n 2, 1) := by decide +kernel
theorem d11_19 : decode prog_119_method_1_code 19 = .ok (.ldc 22, 2) := by decide +kernel
theorem d11_21 : decode prog_119_method_1_code 21 = .ok (.invokestatic 9, 3) := by decide +kernel
theorem d11_24 : decode prog_119_method_1_code 24 = .ok (.checkcast 15, 3) := by decide +kernel
theorem d11_27 : decode prog_119_method_1_code 27 = .ok (.putfield 24, 3) := by decide +kernel
theorem d11_30 : decode prog_119_method_1_code 30 = .ok (.aload_n 0, 1) := by decide +kernel
theorem d11_31 : decode prog_119_method_1_code 31 = .ok (.aload_n 3, 1) := by decide +kernel
theorem d11_32 : decode prog_119_method_1_code 32 = .ok (.ldc 26, 2) := by decide +kernel
theorem d11_34 : decode prog_119_method_1_code 34 = .ok (.invokestatic 9, 3) := by decide +kernel
theorem d11_37 : decode prog_119_method_1_code 37 = .ok (.checkcast 15, 3) := by decide +kernel
theorem d11_40 : decode prog_119_method_1_code 40 = .ok (.putfield 28, 3) := by decide +kernel
theorem d11_43 : decode prog_119_method_1_code 43 = .ok (.return_, 1) := by decide +kernel
theorem pd_d11 : parseMethodDescriptor "(Ljava/lang/String;Ljava/lang/String;Ljava/lang/String;)V" = some ⟨[(.object "java/lang/String"), (.object "java/lang/String"), (.object "java/lang/String")], none⟩ := by decide +kernel
theorem pn_rmVI : plainName "com/example/quorum/quorum/ValidationFailure" = true := by first | (simp [plainName, overriddenIn]; done) | decide +kernel
theorem ef_rmVI (m : MethodId) (x0 : Addr) (x1 : Addr) (x2 : Addr) (x3 : Addr) : entryFrame m #[(.ref x0), (.ref x1), (.ref x2), (.ref x3)] 4 = mkF m 0 #[.val (.ref x0), .val (.ref x1), .val (.ref x2), .val (.ref x3)] [] := by first | (simp [entryFrame, mkF, argsToLocals, Value.category, maxLocals]; done) | rfl
def Q_rmVI (Z : State) (a : Addr) (x1 : Addr) (x2 : Addr) (x3 : Addr) (h0 : Heap) (n0 : Nat) (v : Option Value) (h : Heap) (L : List Loc) : Prop := v = none ∧ Fr n0 L ∧ Keep h0 h [a] ∧ Exa Z h a "com/example/quorum/quorum/ValidationFailure" ∧ Fld Z h a "com/example/quorum/quorum/ValidationFailure" "instancePointer" "Ljava/lang/String;" (.ref x1) ∧ Fld Z h a "com/example/quorum/quorum/ValidationFailure" "keywordLocation" "Ljava/lang/String;" (.ref x2) ∧ Fld Z h a "com/example/quorum/quorum/ValidationFailure" "message" "Ljava/lang/String;" (.ref x3)
set_option maxRecDepth 65536 in
set_option maxHeartbeats 40000000 in
theorem rmVI (l : Launch) (Z : State) (a0 : Array Value) (hw : ∀ d ∈ tables_1, d.before a0 Z = true) (hEL : EW Z a0 own_EL) (ws : List Jvm.Cond) (a : Addr) (x1 : Addr) (x2 : Addr) (x3 : Addr) (h0 : Heap) (n0 : Nat) (Z0 : n0 ≤ h0.size) (nb : Nat) (s1 s2 s3 : List Int32) (E_a : Exa Z h0 a "com/example/quorum/quorum/ValidationFailure") (F_ip : Fld Z h0 a "com/example/quorum/quorum/ValidationFailure" "instancePointer" "Ljava/lang/String;" .null) (F_kl : Fld Z h0 a "com/example/quorum/quorum/ValidationFailure" "keywordLocation" "Ljava/lang/String;" .null) (F_ms : Fld Z h0 a "com/example/quorum/quorum/ValidationFailure" "message" "Ljava/lang/String;" .null) (g_a : n0 ≤ a) (hb_a : nb ≤ a) (S1 : own_S Z h0 nb x1 s1) (S2 : own_S Z h0 nb x2 s2) (S3 : own_S Z h0 nb x3 s3) :
    MetFree l (⟨"com/example/quorum/quorum/ValidationFailure", "<init>", "(Ljava/lang/String;Ljava/lang/String;Ljava/lang/String;)V"⟩ : MethodName) (head1 (Jvm.Cond.code (⟨"com/example/quorum/quorum/ValidationFailure", "<init>", "(Ljava/lang/String;Ljava/lang/String;Ljava/lang/String;)V"⟩ : MethodName) prog_119_method_1_code 4 none :: ws) ({ frames := 1, cells := 6, slots := 160, locals := 14 } : Room)) (fun as1 U => as1 = #[(.ref a), (.ref x1), (.ref x2), (.ref x3)] ∧ Z.Warmed39 U.vm ∧ U.heap = h0 ∧ CHv Z own_EL U.vm h0) (fun _ _ _ _ _ => True) (fun _ U o U' => ∃ v L, o = .returned v ∧ Q_rmVI Z a x1 x2 x3 h0 n0 v U'.heap L ∧ CHr Z own_EL U.vm U.heap U'.vm U'.heap ∧ ReturnedEndW U o U' L ({ frames := 1, cells := 6, slots := 160, locals := 14 } : Room).cells ({ frames := 1, cells := 6, slots := 160, locals := 14 } : Room).slots) := by
  refine MetFree.of_bodySF (plainFor_of_name pn_rmVI) hisR ?_
  intro p e s m args below meth c s₁ Bd hml0 hP hK
  obtain ⟨rfl, hZ, hh, hH⟩ := hP
  have hx := Bd.exec
  have hby := Bd.bytes
  have hml : c.maxLocals = 4 := hml0
  have hown : (s.setVm s.vm).vm.findClass "com/example/quorum/quorum/ValidationFailure" = some m.cls := findClass_of_methodNamed Bd.named
  have hnm := (name_of_methodNamed Bd.named Bd.method).1
  have X0 : Stand p l e ({ frames := 1, cells := 6, slots := 160, locals := 14 } : Room) (s.setVm s.vm) m #[(.ref a), (.ref x1), (.ref x2), (.ref x3)] below meth c s₁ [] 0 0 := Stand.of_body Bd
  have e0 : s₁.heap = h0 := by rw [← hh, Bd.state]; rfl
  have N0 := Fr.nil n0
  have hZ : Z.Warmed39 (s.setVm s.vm).vm := hZ
  have hS : s.Since s.vm h0.size := (State.WarmedH.refl s).since _
  have hk : h0.size ≤ h0.size := Nat.le_refl _
  have C0 : CHr Z own_EL s.vm h0 s.vm h0 := CHr.refl hH
  show own_EndW p e s below Z own_EL s.heap (Q_rmVI Z a x1 x2 x3 h0 n0) ({ frames := 1, cells := 6, slots := 160, locals := 14 } : Room).cells ({ frames := 1, cells := 6, slots := 160, locals := 14 } : Room).slots (s₁.setTop (entryFrame m #[(.ref a), (.ref x1), (.ref x2), (.ref x3)] 4))
  rw [hh]
  refine own_stW (U' := (s₁.setTop (mkF m 0 #[.val (.ref a), .val (.ref x1), .val (.ref x2), .val (.ref x3)] []))) (fun _ k => castTop (ef_rmVI m a x1 x2 x3) k) ?_
  have Sf_a : Safe Z own_EL s.vm h0 a := Safe.exa hZ.alike E_a (by decide) (by decide)
  refine own_stW (U' := (s₁.setTop (mkF m 1 #[.val (.ref a), .val (.ref x1), .val (.ref x2), .val (.ref x3)] [(.ref a)]))) (fun _ k => XS.aloadN X0.here hx rfl (hb hby d11_0) rfl rfl k) ?_
  obtain ⟨T64, X64, e64, st64⟩ := initO X0 hx hZ hown (hw _ (List.mem_of_getElem? (i := 55) rfl)) (hw _ (List.mem_of_getElem? (i := 28) rfl)) (hw _ (List.mem_of_getElem? (i := 29) rfl)) e0 (g := (mkF m 1 #[.val (.ref a), .val (.ref x1), .val (.ref x2), .val (.ref x3)] [(.ref a)])) rfl (by rw [hml]; rfl) rfl (hb hby d11_1) (by decide) (W := 0) (by show 2 * 0 + _ ≤ _; exact Nat.le_of_eq rfl) (by decide)
  refine own_stW (U' := (T64.setTop (mkF m 4 #[.val (.ref a), .val (.ref x1), .val (.ref x2), .val (.ref x3)] []))) st64 ?_
  refine own_stW (U' := (T64.setTop (mkF m 5 #[.val (.ref a), .val (.ref x1), .val (.ref x2), .val (.ref x3)] [(.ref a)]))) (fun _ k => XS.aloadN X64.here hx rfl (hb hby d11_4) rfl rfl k) ?_
  refine own_stW (U' := (T64.setTop (mkF m 6 #[.val (.ref a), .val (.ref x1), .val (.ref x2), .val (.ref x3)] [(.ref x1), (.ref a)]))) (fun _ k => XS.aloadN X64.here hx rfl (hb hby d11_5) rfl rfl k) ?_
  obtain ⟨a65, T65, h65, k65, X65, e65, E65, hS, hk, hZ, hown, C65q, L65, st65⟩ := ldcOH X64 hx hZ hown (hw _ (List.mem_of_getElem? (i := 56) rfl)) (own_wS hw) e64 hS hk hEL C0.1 (g := (mkF m 6 #[.val (.ref a), .val (.ref x1), .val (.ref x2), .val (.ref x3)] [(.ref x1), (.ref a)])) rfl (hb hby d11_6) (n := 60) (by decide) (by decide) (by decide) (by decide)
  have Sf_a := C65q.safe E_a.lt Sf_a
  have E_a := E_a.ext E65
  have F_ip := F_ip.ext E65
  have F_kl := F_kl.ext E65
  have F_ms := F_ms.ext E65
  have S1 := S1.ext E65
  have S2 := S2.ext E65
  have S3 := S3.ext E65
  have C65 := C0.trans C65q
  have Z65 : n0 ≤ h65.size := Nat.le_trans Z0 E65.1
  have K65 := (Keep.refl h0 [a]).ext E65
  refine own_stW (U' := (T65.setTop (mkF m 8 #[.val (.ref a), .val (.ref x1), .val (.ref x2), .val (.ref x3)] [(.ref a65), (.ref x1), (.ref a)]))) st65 ?_
  obtain ⟨_, _, ⟨T66, L66, k66, n66⟩, -, X66, ⟨Lc66, hQ66, l66, y66, z66⟩, st66⟩ := Jvm.LawKit.callS X65 hx (y := (⟨"java/util/Objects", "requireNonNull", "(Ljava/lang/Object;Ljava/lang/String;)Ljava/lang/Object;"⟩ : MethodName)) hown (mvT hZ (hw _ (List.mem_of_getElem? (i := 57) rfl))) (mvT hZ (hw _ (List.mem_of_getElem? (i := 58) rfl))) (mvT hZ (hw _ (List.mem_of_getElem? (i := 59) rfl))) (mvT hZ (hw _ (List.mem_of_getElem? (i := 60) rfl))) (by decide) (backOf (W := 1) (rmRN l Z a0 hw [] x1 a65 h65 n0 Z65) hZ (hw _ (List.mem_of_getElem? (i := 60) rfl)) (hw _ (List.mem_of_getElem? (i := 59) rfl)) (by decide) (by decide)) (g := (mkF m 8 #[.val (.ref a), .val (.ref x1), .val (.ref x2), .val (.ref x3)] [(.ref a65), (.ref x1), (.ref a)])) rfl (by rw [hml]; rfl) (argsL := [(.ref x1), (.ref a65)]) (rest := [(.ref a)]) (lenOf (pd_d12) rfl) rfl (by show 2 * 0 + _ ≤ _; exact Nat.le_of_eq rfl) (hb hby d11_8) (fun _ _ => ⟨rfl, e65, (Nat.le_of_ble_eq_true rfl), (Nat.le_of_ble_eq_true rfl)⟩)
  dsimp only [Pt.U, Pt.locs, Pt.cells, Pt.slots] at X66 l66 y66 z66 st66 hQ66
  subst l66 y66 z66
  obtain ⟨rfl, Nq66, eq66⟩ := hQ66
  have N66 := Fr.app N0 Nq66
  refine own_stW (U' := (T66.setTop (mkF m 11 #[.val (.ref a), .val (.ref x1), .val (.ref x2), .val (.ref x3)] [(.ref x1), (.ref a)]))) st66 ?_
  obtain ⟨T67, X67, e67, st67⟩ := castY X66 hx hZ hown (hw _ (List.mem_of_getElem? (i := 61) rfl)) eq66 (Ins.self S1.2.2.2.1) (g := (mkF m 11 #[.val (.ref a), .val (.ref x1), .val (.ref x2), .val (.ref x3)] [(.ref x1), (.ref a)])) rfl rfl (hb hby d11_11)
  refine own_stW (U' := (T67.setTop (mkF m 14 #[.val (.ref a), .val (.ref x1), .val (.ref x2), .val (.ref x3)] [(.ref x1), (.ref a)]))) st67 ?_
  obtain ⟨T68, h68, X68, e68, W68, st68⟩ := putF X67 hx hZ hown (host := "") (Or.inl (hw _ (List.mem_of_getElem? (i := 62) rfl))) Via.refl e67 F_ip E_a (Or.inr ⟨(hw _ (List.mem_of_getElem? (i := 63) rfl)), rfl, hnm⟩) (hw _ (List.mem_of_getElem? (i := 50) rfl)) (ty := (.object "java/lang/String")) (by decide) rfl rfl (g := (mkF m 14 #[.val (.ref a), .val (.ref x1), .val (.ref x2), .val (.ref x3)] [(.ref x1), (.ref a)])) rfl rfl (hb hby d11_14)
  have F_ip := F_ip.same W68
  have C68 := C65.trans (CHr.wr W68 Sf_a C65.1)
  have Sf_a := Safe.wr W68 Sf_a C65.1 Sf_a
  have hk := Nat.le_trans hk (Nat.le_of_eq W68.size.symm)
  have S1 := S1.wr W68 hb_a
  have S2 := S2.wr W68 hb_a
  have S3 := S3.wr W68 hb_a
  have E_a := E_a.wr W68
  have F_kl := F_kl.other W68 (Or.inr (slot_ne (Or.inr (hw _ (List.mem_of_getElem? (i := 66) rfl))) (Or.inr (hw _ (List.mem_of_getElem? (i := 63) rfl))) (by decide) (t := (.object "java/lang/String")) (t' := (.object "java/lang/String")) (by decide) (by decide)))
  have F_ms := F_ms.other W68 (Or.inr (slot_ne (Or.inr (hw _ (List.mem_of_getElem? (i := 69) rfl))) (Or.inr (hw _ (List.mem_of_getElem? (i := 63) rfl))) (by decide) (t := (.object "java/lang/String")) (t' := (.object "java/lang/String")) (by decide) (by decide)))
  have N68 := Fr.snoc X68 N66 g_a
  have Z68 : n0 ≤ h68.size := Nat.le_trans Z65 (Nat.le_of_eq W68.size.symm)
  have K68 := K65.wr W68 (Or.inl (List.mem_of_getElem? (i := 0) rfl))
  refine own_stW (U' := (T68.setTop (mkF m 17 #[.val (.ref a), .val (.ref x1), .val (.ref x2), .val (.ref x3)] []))) st68 ?_
  refine own_stW (U' := (T68.setTop (mkF m 18 #[.val (.ref a), .val (.ref x1), .val (.ref x2), .val (.ref x3)] [(.ref a)]))) (fun _ k => XS.aloadN X68.here hx rfl (hb hby d11_17) rfl rfl k) ?_
  refine own_stW (U' := (T68.setTop (mkF m 19 #[.val (.ref a), .val (.ref x1), .val (.ref x2), .val (.ref x3)] [(.ref x2), (.ref a)]))) (fun _ k => XS.aloadN X68.here hx rfl (hb hby d11_18) rfl rfl k) ?_
  obtain ⟨a69, T69, h69, k69, X69, e69, E69, hS, hk, hZ, hown, C69q, L69, st69⟩ := ldcOH X68 hx hZ hown (hw _ (List.mem_of_getElem? (i := 64) rfl)) (own_wS hw) e68 hS hk hEL C68.1 (g := (mkF m 19 #[.val (.ref a), .val (.ref x1), .val (.ref x2), .val (.ref x3)] [(.ref x2), (.ref a)])) rfl (hb hby d11_19) (n := 60) (by decide) (by decide) (by decide) (by decide)
  have Sf_a := C69q.safe E_a.lt Sf_a
  have E_a := E_a.ext E69
  have F_ip := F_ip.ext E69
  have F_kl := F_kl.ext E69
  have F_ms := F_ms.ext E69
  have S1 := S1.ext E69
  have S2 := S2.ext E69
  have S3 := S3.ext E69
  have C69 := C68.trans C69q
  have Z69 : n0 ≤ h69.size := Nat.le_trans Z68 E69.1
  have K69 := K68.ext E69
  refine own_stW (U' := (T69.setTop (mkF m 21 #[.val (.ref a), .val (.ref x1), .val (.ref x2), .val (.ref x3)] [(.ref a69), (.ref x2), (.ref a)]))) st69 ?_
  obtain ⟨_, _, ⟨T70, L70, k70, n70⟩, -, X70, ⟨Lc70, hQ70, l70, y70, z70⟩, st70⟩ := Jvm.LawKit.callS X69 hx (y := (⟨"java/util/Objects", "requireNonNull", "(Ljava/lang/Object;Ljava/lang/String;)Ljava/lang/Object;"⟩ : MethodName)) hown (mvT hZ (hw _ (List.mem_of_getElem? (i := 57) rfl))) (mvT hZ (hw _ (List.mem_of_getElem? (i := 58) rfl))) (mvT hZ (hw _ (List.mem_of_getElem? (i := 59) rfl))) (mvT hZ (hw _ (List.mem_of_getElem? (i := 60) rfl))) (by decide) (backOf (W := 1) (rmRN l Z a0 hw [] x2 a69 h69 n0 Z69) hZ (hw _ (List.mem_of_getElem? (i := 60) rfl)) (hw _ (List.mem_of_getElem? (i := 59) rfl)) (by decide) (by decide)) (g := (mkF m 21 #[.val (.ref a), .val (.ref x1), .val (.ref x2), .val (.ref x3)] [(.ref a69), (.ref x2), (.ref a)])) rfl (by rw [hml]; rfl) (argsL := [(.ref x2), (.ref a69)]) (rest := [(.ref a)]) (lenOf (pd_d12) rfl) rfl (by show 2 * 0 + _ ≤ _; exact Nat.le_of_eq rfl) (hb hby d11_21) (fun _ _ => ⟨rfl, e69, (Nat.le_of_ble_eq_true rfl), (Nat.le_of_ble_eq_true rfl)⟩)
  dsimp only [Pt.U, Pt.locs, Pt.cells, Pt.slots] at X70 l70 y70 z70 st70 hQ70
  subst l70 y70 z70
  obtain ⟨rfl, Nq70, eq70⟩ := hQ70
  have N70 := Fr.app N68 Nq70
  refine own_stW (U' := (T70.setTop (mkF m 24 #[.val (.ref a), .val (.ref x1), .val (.ref x2), .val (.ref x3)] [(.ref x2), (.ref a)]))) st70 ?_
  obtain ⟨T71, X71, e71, st71⟩ := castY X70 hx hZ hown (hw _ (List.mem_of_getElem? (i := 61) rfl)) eq70 (Ins.self S2.2.2.2.1) (g := (mkF m 24 #[.val (.ref a), .val (.ref x1), .val (.ref x2), .val (.ref x3)] [(.ref x2), (.ref a)])) rfl rfl (hb hby d11_24)
  refine own_stW (U' := (T71.setTop (mkF m 27 #[.val (.ref a), .val (.ref x1), .val (.ref x2), .val (.ref x3)] [(.ref x2), (.ref a)]))) st71 ?_
  obtain ⟨T72, h72, X72, e72, W72, st72⟩ := putF X71 hx hZ hown (host := "") (Or.inl (hw _ (List.mem_of_getElem? (i := 65) rfl))) Via.refl e71 F_kl E_a (Or.inr ⟨(hw _ (List.mem_of_getElem? (i := 66) rfl)), rfl, hnm⟩) (hw _ (List.mem_of_getElem? (i := 50) rfl)) (ty := (.object "java/lang/String")) (by decide) rfl rfl (g := (mkF m 27 #[.val (.ref a), .val (.ref x1), .val (.ref x2), .val (.ref x3)] [(.ref x2), (.ref a)])) rfl rfl (hb hby d11_27)
  have F_kl := F_kl.same W72
  have C72 := C69.trans (CHr.wr W72 Sf_a C69.1)
  have Sf_a := Safe.wr W72 Sf_a C69.1 Sf_a
  have hk := Nat.le_trans hk (Nat.le_of_eq W72.size.symm)
  have S1 := S1.wr W72 hb_a
  have S2 := S2.wr W72 hb_a
  have S3 := S3.wr W72 hb_a
  have E_a := E_a.wr W72
  have F_ip := F_ip.other W72 (Or.inr (slot_ne (Or.inr (hw _ (List.mem_of_getElem? (i := 63) rfl))) (Or.inr (hw _ (List.mem_of_getElem? (i := 66) rfl))) (by decide) (t := (.object "java/lang/String")) (t' := (.object "java/lang/String")) (by decide) (by decide)))
  have F_ms := F_ms.other W72 (Or.inr (slot_ne (Or.inr (hw _ (List.mem_of_getElem? (i := 69) rfl))) (Or.inr (hw _ (List.mem_of_getElem? (i := 66) rfl))) (by decide) (t := (.object "java/lang/String")) (t' := (.object "java/lang/String")) (by decide) (by decide)))
  have N72 := Fr.snoc X72 N70 g_a
  have Z72 : n0 ≤ h72.size := Nat.le_trans Z69 (Nat.le_of_eq W72.size.symm)
  have K72 := K69.wr W72 (Or.inl (List.mem_of_getElem? (i := 0) rfl))
  refine own_stW (U' := (T72.setTop (mkF m 30 #[.val (.ref a), .val (.ref x1), .val (.ref x2), .val (.ref x3)] []))) st72 ?_
  refine own_stW (U' := (T72.setTop (mkF m 31 #[.val (.ref a), .val (.ref x1), .val (.ref x2), .val (.ref x3)] [(.ref a)]))) (fun _ k => XS.aloadN X72.here hx rfl (hb hby d11_30) rfl rfl k) ?_
  refine own_stW (U' := (T72.setTop (mkF m 32 #[.val (.ref a), .val (.ref x1), .val (.ref x2), .val (.ref x3)] [(.ref x3), (.ref a)]))) (fun _ k => XS.aloadN X72.here hx rfl (hb hby d11_31) rfl rfl k) ?_
  obtain ⟨a73, T73, h73, k73, X73, e73, E73, hS, hk, hZ, hown, C73q, L73, st73⟩ := ldcOH X72 hx hZ hown (hw _ (List.mem_of_getElem? (i := 67) rfl)) (own_wS hw) e72 hS hk hEL C72.1 (g := (mkF m 32 #[.val (.ref a), .val (.ref x1), .val (.ref x2), .val (.ref x3)] [(.ref x3), (.ref a)])) rfl (hb hby d11_32) (n := 28) (by decide) (by decide) (by decide) (by decide)
  have Sf_a := C73q.safe E_a.lt Sf_a
  have E_a := E_a.ext E73
  have F_ip := F_ip.ext E73
  have F_kl := F_kl.ext E73
  have F_ms := F_ms.ext E73
  have S1 := S1.ext E73
  have S2 := S2.ext E73
  have S3 := S3.ext E73
  have C73 := C72.trans C73q
  have Z73 : n0 ≤ h73.size := Nat.le_trans Z72 E73.1
  have K73 := K72.ext E73
  refine own_stW (U' := (T73.setTop (mkF m 34 #[.val (.ref a), .val (.ref x1), .val (.ref x2), .val (.ref x3)] [(.ref a73), (.ref x3), (.ref a)]))) st73 ?_
  obtain ⟨_, _, ⟨T74, L74, k74, n74⟩, -, X74, ⟨Lc74, hQ74, l74, y74, z74⟩, st74⟩ := Jvm.LawKit.callS X73 hx (y := (⟨"java/util/Objects", "requireNonNull", "(Ljava/lang/Object;Ljava/lang/String;)Ljava/lang/Object;"⟩ : MethodName)) hown (mvT hZ (hw _ (List.mem_of_getElem? (i := 57) rfl))) (mvT hZ (hw _ (List.mem_of_getElem? (i := 58) rfl))) (mvT hZ (hw _ (List.mem_of_getElem? (i := 59) rfl))) (mvT hZ (hw _ (List.mem_of_getElem? (i := 60) rfl))) (by decide) (backOf (W := 1) (rmRN l Z a0 hw [] x3 a73 h73 n0 Z73) hZ (hw _ (List.mem_of_getElem? (i := 60) rfl)) (hw _ (List.mem_of_getElem? (i := 59) rfl)) (by decide) (by decide)) (g := (mkF m 34 #[.val (.ref a), .val (.ref x1), .val (.ref x2), .val (.ref x3)] [(.ref a73), (.ref x3), (.ref a)])) rfl (by rw [hml]; rfl) (argsL := [(.ref x3), (.ref a73)]) (rest := [(.ref a)]) (lenOf (pd_d12) rfl) rfl (by show 2 * 0 + _ ≤ _; exact Nat.le_of_eq rfl) (hb hby d11_34) (fun _ _ => ⟨rfl, e73, (Nat.le_of_ble_eq_true rfl), (Nat.le_of_ble_eq_true rfl)⟩)
  dsimp only [Pt.U, Pt.locs, Pt.cells, Pt.slots] at X74 l74 y74 z74 st74 hQ74
  subst l74 y74 z74
  obtain ⟨rfl, Nq74, eq74⟩ := hQ74
  have N74 := Fr.app N72 Nq74
  refine own_stW (U' := (T74.setTop (mkF m 37 #[.val (.ref a), .val (.ref x1), .val (.ref x2), .val (.ref x3)] [(.ref x3), (.ref a)]))) st74 ?_
  obtain ⟨T75, X75, e75, st75⟩ := castY X74 hx hZ hown (hw _ (List.mem_of_getElem? (i := 61) rfl)) eq74 (Ins.self S3.2.2.2.1) (g := (mkF m 37 #[.val (.ref a), .val (.ref x1), .val (.ref x2), .val (.ref x3)] [(.ref x3), (.ref a)])) rfl rfl (hb hby d11_37)
  refine own_stW (U' := (T75.setTop (mkF m 40 #[.val (.ref a), .val (.ref x1), .val (.ref x2), .val (.ref x3)] [(.ref x3), (.ref a)]))) st75 ?_
  obtain ⟨T76, h76, X76, e76, W76, st76⟩ := putF X75 hx hZ hown (host := "") (Or.inl (hw _ (List.mem_of_getElem? (i := 68) rfl))) Via.refl e75 F_ms E_a (Or.inr ⟨(hw _ (List.mem_of_getElem? (i := 69) rfl)), rfl, hnm⟩) (hw _ (List.mem_of_getElem? (i := 50) rfl)) (ty := (.object "java/lang/String")) (by decide) rfl rfl (g := (mkF m 40 #[.val (.ref a), .val (.ref x1), .val (.ref x2), .val (.ref x3)] [(.ref x3), (.ref a)])) rfl rfl (hb hby d11_40)
  have F_ms := F_ms.same W76
  have C76 := C73.trans (CHr.wr W76 Sf_a C73.1)
  have Sf_a := Safe.wr W76 Sf_a C73.1 Sf_a
  have hk := Nat.le_trans hk (Nat.le_of_eq W76.size.symm)
  have S1 := S1.wr W76 hb_a
  have S2 := S2.wr W76 hb_a
  have S3 := S3.wr W76 hb_a
  have E_a := E_a.wr W76
  have F_ip := F_ip.other W76 (Or.inr (slot_ne (Or.inr (hw _ (List.mem_of_getElem? (i := 63) rfl))) (Or.inr (hw _ (List.mem_of_getElem? (i := 69) rfl))) (by decide) (t := (.object "java/lang/String")) (t' := (.object "java/lang/String")) (by decide) (by decide)))
  have F_kl := F_kl.other W76 (Or.inr (slot_ne (Or.inr (hw _ (List.mem_of_getElem? (i := 66) rfl))) (Or.inr (hw _ (List.mem_of_getElem? (i := 69) rfl))) (by decide) (t := (.object "java/lang/String")) (t' := (.object "java/lang/String")) (by decide) (by decide)))
  have N76 := Fr.snoc X76 N74 g_a
  have Z76 : n0 ≤ h76.size := Nat.le_trans Z73 (Nat.le_of_eq W76.size.symm)
  have K76 := K73.wr W76 (Or.inl (List.mem_of_getElem? (i := 0) rfl))
  refine own_stW (U' := (T76.setTop (mkF m 43 #[.val (.ref a), .val (.ref x1), .val (.ref x2), .val (.ref x3)] []))) st76 ?_
  exact own_retVW X76 hx hS (by rw [e76]; exact hk) hZ hEL (by rw [e76]; exact C76) Bd.returns Bd.notSynchronized (hb hby d11_43) (by decide) (by decide) (⟨rfl, N76, by rw [e76]; exact K76, by rw [e76]; exact E_a, by rw [e76]; exact F_ip, by rw [e76]; exact F_kl, by rw [e76]; exact F_ms⟩)
theorem d16_0 : decode jdk_43_method_13_code 0 = .ok (.aload_n 0, 1) := by decide +kernel
theorem d16_1 : decode jdk_43_method_13_code 1 = .ok (.arraylength, 1) := by decide +kernel
theorem d16_2 : decode jdk_43_method_13_code 2 = .ok (.aload_n 1, 1) := by decide +kernel
theorem d16_3 : decode jdk_43_method_13_code 3 = .ok (.arraylength, 1) := by decide +kernel
theorem d16_4 : decode jdk_43_method_13_code 4 = .ok (.if_icmp .ne 30, 3) := by decide +kernel
theorem d16_7 : decode jdk_43_method_13_code 7 = .ok (.iconst 0, 1) := by decide +kernel
theorem d16_8 : decode jdk_43_method_13_code 8 = .ok (.istore_n 2, 1) := by decide +kernel
theorem d16_9 : decode jdk_43_method_13_code 9 = .ok (.iload_n 2, 1) := by decide +kernel
theorem d16_10 : decode jdk_43_method_13_code 10 = .ok (.aload_n 0, 1) := by decide +kernel
theorem d16_11 : decode jdk_43_method_13_code 11 = .ok (.arraylength, 1) := by decide +kernel
theorem d16_12 : decode jdk_43_method_13_code 12 = .ok (.if_icmp .ge 20, 3) := by decide +kernel
theorem d16_15 : decode jdk_43_method_13_code 15 = .ok (.aload_n 0, 1) := by decide +kernel
theorem d16_16 : decode jdk_43_method_13_code 16 = .ok (.iload_n 2, 1) := by decide +kernel
theorem d16_17 : decode jdk_43_method_13_code 17 = .ok (.baload, 1) := by decide +kernel
theorem d16_18 : decode jdk_43_method_13_code 18 = .ok (.aload_n 1, 1) := by decide +kernel
theorem d16_19 : decode jdk_43_method_13_code 19 = .ok (.iload_n 2, 1) := by decide +kernel
theorem d16_20 : decode jdk_43_method_13_code 20 = .ok (.baload, 1) := by decide +kernel
theorem d16_21 : decode jdk_43_method_13_code 21 = .ok (.if_icmp .eq 5, 3) := by decide +kernel
theorem d16_24 : decode jdk_43_method_13_code 24 = .ok (.iconst 0, 1) := by decide +kernel
theorem d16_25 : decode jdk_43_method_13_code 25 = .ok (.ireturn, 1) := by decide +kernel
theorem d16_26 : decode jdk_43_method_13_code 26 = .ok (.iinc 2 1, 3) := by decide +kernel
theorem d16_29 : decode jdk_43_method_13_code 29 = .ok (.goto (-20), 3) := by decide +kernel
theorem d16_32 : decode jdk_43_method_13_code 32 = .ok (.iconst 1, 1) := by decide +kernel
theorem d16_33 : decode jdk_43_method_13_code 33 = .ok (.ireturn, 1) := by decide +kernel
theorem d16_34 : decode jdk_43_method_13_code 34 = .ok (.iconst 0, 1) := by decide +kernel
theorem d16_35 : decode jdk_43_method_13_code 35 = .ok (.ireturn, 1) := by decide +kernel
theorem pn_rmLE : plainName "java/lang/StringLatin1" = true := by first | (simp [plainName, overriddenIn]; done) | decide +kernel
theorem pd_d16 : parseMethodDescriptor "([B[B)Z" = some ⟨[(.array .byte), (.array .byte)], some .boolean⟩ := by decide +kernel
theorem ef_rmLE (m : MethodId) (x0 : Addr) (x1 : Addr) : entryFrame m #[(.ref x0), (.ref x1)] 3 = mkF m 0 #[.val (.ref x0), .val (.ref x1), .unset] [] := by first | (simp [entryFrame, mkF, argsToLocals, Value.category, maxLocals]; done) | rfl
def Q_rmLE (Z : State) (t1 : Addr) (t2 : Addr) (s1 : List Int32) (s2 : List Int32) (h0 : Heap) (n0 : Nat) (v : Option Value) (h : Heap) (L : List Loc) : Prop := v = some (.int (own_b (decide (s1 = s2)))) ∧ Fr n0 L ∧ h = h0
set_option maxRecDepth 65536 in
set_option maxHeartbeats 40000000 in
theorem rmLE (l : Launch) (Z : State) (a0 : Array Value) (hw : ∀ d ∈ tables_1, d.before a0 Z = true) (ws : List Jvm.Cond) (t1 : Addr) (t2 : Addr) (s1 : List Int32) (s2 : List Int32) (h0 : Heap) (n0 : Nat) (Z0 : n0 ≤ h0.size) (V1 : own_A Z h0 t1 .byte s1.length (fun j => .int (own_byte (s1.getD j 0)))) (V2 : own_A Z h0 t2 .byte s2.length (fun j => .int (own_byte (s2.getD j 0)))) (k1 : own_ok s1) (k2 : own_ok s2) (l1 : s1.length ≤ 2) (l2 : s2.length ≤ 2) :
    MetFree l (⟨"java/lang/StringLatin1", "equals", "([B[B)Z"⟩ : MethodName) (head1 (Jvm.Cond.code (⟨"java/lang/StringLatin1", "equals", "([B[B)Z"⟩ : MethodName) jdk_43_method_13_code 3 (some .boolean) :: ws) ({ frames := 0, cells := 0, slots := 0, locals := 0 } : Room)) (fun as1 U => as1 = #[(.ref t1), (.ref t2)] ∧ Z.Warmed39 U.vm ∧ U.heap = h0) (fun _ _ _ _ _ => True) (fun _ U o U' => ∃ v L, o = .returned v ∧ Q_rmLE Z t1 t2 s1 s2 h0 n0 v U'.heap L ∧ FrameEnd U o U' L ({ frames := 0, cells := 0, slots := 0, locals := 0 } : Room).cells ({ frames := 0, cells := 0, slots := 0, locals := 0 } : Room).slots) := by
  refine MetFree.of_bodySF (plainFor_of_name pn_rmLE) hisR ?_
  intro p e s m args below meth c s₁ Bd hml0 hP hK
  obtain ⟨rfl, hZ, hh⟩ := hP
  have hx := Bd.exec
  have hby := Bd.bytes
  have hml : c.maxLocals = 3 := hml0
  have hown : s.vm.findClass "java/lang/StringLatin1" = some m.cls := findClass_of_methodNamed Bd.named
  have hnm := (name_of_methodNamed Bd.named Bd.method).1
  have X0 : Stand p l e ({ frames := 0, cells := 0, slots := 0, locals := 0 } : Room) s m #[(.ref t1), (.ref t2)] below meth c s₁ [] 0 0 := Stand.of_body Bd
  have e0 : s₁.heap = h0 := by rw [← hh, Bd.state]; rfl
  have N0 := Fr.nil n0
  show own_Ends p e s below (Q_rmLE Z t1 t2 s1 s2 h0 n0) ({ frames := 0, cells := 0, slots := 0, locals := 0 } : Room).cells ({ frames := 0, cells := 0, slots := 0, locals := 0 } : Room).slots (s₁.setTop (entryFrame m #[(.ref t1), (.ref t2)] 3))
  refine own_st (U' := (s₁.setTop (mkF m 0 #[.val (.ref t1), .val (.ref t2), .unset] []))) (fun _ k => castTop (ef_rmLE m t1 t2) k) ?_
  refine own_st (U' := (s₁.setTop (mkF m 1 #[.val (.ref t1), .val (.ref t2), .unset] [(.ref t1)]))) (fun _ k => XS.aloadN X0.here hx rfl (hb hby d16_0) rfl rfl k) ?_
  refine own_st (U' := (s₁.setTop (mkF m 2 #[.val (.ref t1), .val (.ref t2), .unset] [(.int (Int32.ofNat s1.length))]))) (own_len X0 hx hZ e0 V1 (z := (Int32.ofNat s1.length)) rfl (g := (mkF m 1 #[.val (.ref t1), .val (.ref t2), .unset] [(.ref t1)])) rfl rfl (hb hby d16_1)) ?_
  refine own_st (U' := (s₁.setTop (mkF m 3 #[.val (.ref t1), .val (.ref t2), .unset] [(.ref t2), (.int (Int32.ofNat s1.length))]))) (fun _ k => XS.aloadN X0.here hx rfl (hb hby d16_2) rfl rfl k) ?_
  refine own_st (U' := (s₁.setTop (mkF m 4 #[.val (.ref t1), .val (.ref t2), .unset] [(.int (Int32.ofNat s2.length)), (.int (Int32.ofNat s1.length))]))) (own_len X0 hx hZ e0 V2 (z := (Int32.ofNat s2.length)) rfl (g := (mkF m 3 #[.val (.ref t1), .val (.ref t2), .unset] [(.ref t2), (.int (Int32.ofNat s1.length))])) rfl rfl (hb hby d16_3)) ?_
  by_cases c0 : s1.length = s2.length
  · skip
    refine own_st (U' := (s₁.setTop (mkF m 7 #[.val (.ref t1), .val (.ref t2), .unset] []))) (fun _ k => XS.icmpNo X0.here hx rfl (hb hby d16_4) rfl (teq (congrArg Int32.ofNat c0)).2 k) ?_
    have loop : ∀ (k i : Nat), i + k = s1.length → (∀ j, j < i → own_byte (s1.getD j 0) = own_byte (s2.getD j 0)) → own_Ends p e s below (fun v h L => v = some (.int (own_b (decide (s1 = s2)))) ∧ Fr n0 L ∧ h = h0) 0 0 (s₁.setTop (mkF m 9 #[.val (.ref t1), .val (.ref t2), .val (.int (Int32.ofNat i))] [])) := by
      intro k
      induction k with
      | zero =>
        intro i hi hj
        refine own_st (U' := (s₁.setTop (mkF m 10 #[.val (.ref t1), .val (.ref t2), .val (.int (Int32.ofNat i))] [(.int (Int32.ofNat i))]))) (fun _ k => XS.iloadN X0.here hx rfl (hb hby d16_9) rfl k) ?_
        refine own_st (U' := (s₁.setTop (mkF m 11 #[.val (.ref t1), .val (.ref t2), .val (.int (Int32.ofNat i))] [(.ref t1), (.int (Int32.ofNat i))]))) (fun _ k => XS.aloadN X0.here hx rfl (hb hby d16_10) rfl rfl k) ?_
        refine own_st (U' := (s₁.setTop (mkF m 12 #[.val (.ref t1), .val (.ref t2), .val (.int (Int32.ofNat i))] [(.int (Int32.ofNat s1.length)), (.int (Int32.ofNat i))]))) (own_len X0 hx hZ e0 V1 (z := (Int32.ofNat s1.length)) rfl (g := (mkF m 11 #[.val (.ref t1), .val (.ref t2), .val (.int (Int32.ofNat i))] [(.ref t1), (.int (Int32.ofNat i))])) rfl rfl (hb hby d16_11)) ?_
        refine own_st (U' := (s₁.setTop (mkF m 32 #[.val (.ref t1), .val (.ref t2), .val (.int (Int32.ofNat i))] []))) (fun _ k => XS.icmpYes X0.here hx rfl (pc0 := 12) (pc' := 32) rfl (hb hby d16_12) rfl (flt (by rw [show i = s1.length by omega]; exact Int32.lt_irrefl)).2.1 (by decide) (by decide) k) ?_
        have q : own_b (decide (s1 = s2)) = 1 := by rw [own_lists k1 k2 c0 (fun j h => hj j (by omega))]; simp [own_b]
        refine own_st (U' := (s₁.setTop (mkF m 33 #[.val (.ref t1), .val (.ref t2), .val (.int (Int32.ofNat i))] [(.int (1 : Int32))]))) (fun _ k => XS.iconst X0.here hx rfl (hb hby d16_32) k) ?_
        exact own_retN X0 hx (t := .boolean) Bd.returns Bd.notSynchronized (by simp) rfl (hb hby d16_33) (by decide) (by decide) (⟨by rw [q], N0, e0⟩)
      | succ k ih =>
        intro i hi hj
        refine own_st (U' := (s₁.setTop (mkF m 10 #[.val (.ref t1), .val (.ref t2), .val (.int (Int32.ofNat i))] [(.int (Int32.ofNat i))]))) (fun _ k => XS.iloadN X0.here hx rfl (hb hby d16_9) rfl k) ?_
        refine own_st (U' := (s₁.setTop (mkF m 11 #[.val (.ref t1), .val (.ref t2), .val (.int (Int32.ofNat i))] [(.ref t1), (.int (Int32.ofNat i))]))) (fun _ k => XS.aloadN X0.here hx rfl (hb hby d16_10) rfl rfl k) ?_
        refine own_st (U' := (s₁.setTop (mkF m 12 #[.val (.ref t1), .val (.ref t2), .val (.int (Int32.ofNat i))] [(.int (Int32.ofNat s1.length)), (.int (Int32.ofNat i))]))) (own_len X0 hx hZ e0 V1 (z := (Int32.ofNat s1.length)) rfl (g := (mkF m 11 #[.val (.ref t1), .val (.ref t2), .val (.int (Int32.ofNat i))] [(.ref t1), (.int (Int32.ofNat i))])) rfl rfl (hb hby d16_11)) ?_
        obtain ⟨j1, j2⟩ := own_ofN (show i < 48 by omega)
        refine own_st (U' := (s₁.setTop (mkF m 15 #[.val (.ref t1), .val (.ref t2), .val (.int (Int32.ofNat i))] []))) (fun _ k => XS.icmpNo X0.here hx rfl (hb hby d16_12) rfl (tlt (own_lt (by omega) (by omega))).2.1 k) ?_
        refine own_st (U' := (s₁.setTop (mkF m 16 #[.val (.ref t1), .val (.ref t2), .val (.int (Int32.ofNat i))] [(.ref t1)]))) (fun _ k => XS.aloadN X0.here hx rfl (hb hby d16_15) rfl rfl k) ?_
        refine own_st (U' := (s₁.setTop (mkF m 17 #[.val (.ref t1), .val (.ref t2), .val (.int (Int32.ofNat i))] [(.int (Int32.ofNat i)), (.ref t1)]))) (fun _ k => XS.iloadN X0.here hx rfl (hb hby d16_16) rfl k) ?_
        refine own_st (U' := (s₁.setTop (mkF m 18 #[.val (.ref t1), .val (.ref t2), .val (.int (Int32.ofNat i))] [(.int (own_byte (s1.getD i 0)))]))) (own_ldB X0 hx hZ e0 V1 (j := (Int32.ofNat i)) (i := i) j1 j2 (by omega) (v := (.int (own_byte (s1.getD i 0)))) rfl (g := (mkF m 17 #[.val (.ref t1), .val (.ref t2), .val (.int (Int32.ofNat i))] [(.int (Int32.ofNat i)), (.ref t1)])) rfl rfl (hb hby d16_17)) ?_
        refine own_st (U' := (s₁.setTop (mkF m 19 #[.val (.ref t1), .val (.ref t2), .val (.int (Int32.ofNat i))] [(.ref t2), (.int (own_byte (s1.getD i 0)))]))) (fun _ k => XS.aloadN X0.here hx rfl (hb hby d16_18) rfl rfl k) ?_
        refine own_st (U' := (s₁.setTop (mkF m 20 #[.val (.ref t1), .val (.ref t2), .val (.int (Int32.ofNat i))] [(.int (Int32.ofNat i)), (.ref t2), (.int (own_byte (s1.getD i 0)))]))) (fun _ k => XS.iloadN X0.here hx rfl (hb hby d16_19) rfl k) ?_
        refine own_st (U' := (s₁.setTop (mkF m 21 #[.val (.ref t1), .val (.ref t2), .val (.int (Int32.ofNat i))] [(.int (own_byte (s2.getD i 0))), (.int (own_byte (s1.getD i 0)))]))) (own_ldB X0 hx hZ e0 V2 (j := (Int32.ofNat i)) (i := i) j1 j2 (by omega) (v := (.int (own_byte (s2.getD i 0)))) rfl (g := (mkF m 20 #[.val (.ref t1), .val (.ref t2), .val (.int (Int32.ofNat i))] [(.int (Int32.ofNat i)), (.ref t2), (.int (own_byte (s1.getD i 0)))])) rfl rfl (hb hby d16_20)) ?_
        by_cases c1 : (own_byte (s1.getD i 0)) = (own_byte (s2.getD i 0))
        · skip
          refine own_st (U' := (s₁.setTop (mkF m 26 #[.val (.ref t1), .val (.ref t2), .val (.int (Int32.ofNat i))] []))) (fun _ k => XS.icmpYes X0.here hx rfl (pc0 := 21) (pc' := 26) rfl (hb hby d16_21) rfl (teq c1).1 (by decide) (by decide) k) ?_
          refine own_st (U' := (s₁.setTop (mkF m 29 #[.val (.ref t1), .val (.ref t2), .val (.int ((Int32.ofNat i) + (1 : Int32)))] []))) (fun _ k => XS.iinc X0.here hx rfl (hb hby d16_26) rfl (l' := #[.val (.ref t1), .val (.ref t2), .val (.int ((Int32.ofNat i) + (1 : Int32)))]) rfl k) ?_
          rw [show Int32.ofNat i + (1 : Int32) = Int32.ofNat (i + 1) from (Int32.ofNat_add i 1).symm]
          refine own_st (U' := (s₁.setTop (mkF m 9 #[.val (.ref t1), .val (.ref t2), .val (.int (Int32.ofNat (i + 1)))] []))) (fun _ k => XS.goto X0.here hx rfl (pc0 := 29) (pc' := 9) rfl (hb hby d16_29) (by decide) (by decide) k) ?_
          exact ih (i + 1) (by omega) (fun j h => (Nat.lt_succ_iff_lt_or_eq.mp h).elim (fun z => hj j z) (fun z => z ▸ c1))
        · skip
          refine own_st (U' := (s₁.setTop (mkF m 24 #[.val (.ref t1), .val (.ref t2), .val (.int (Int32.ofNat i))] []))) (fun _ k => XS.icmpNo X0.here hx rfl (hb hby d16_21) rfl (feq c1).1 k) ?_
          have q : own_b (decide (s1 = s2)) = 0 := (own_b0 _).mpr (decide_eq_false fun z => c1 (by rw [z]))
          refine own_st (U' := (s₁.setTop (mkF m 25 #[.val (.ref t1), .val (.ref t2), .val (.int (Int32.ofNat i))] [(.int (0 : Int32))]))) (fun _ k => XS.iconst X0.here hx rfl (hb hby d16_24) k) ?_
          exact own_retN X0 hx (t := .boolean) Bd.returns Bd.notSynchronized (by simp) rfl (hb hby d16_25) (by decide) (by decide) (⟨by rw [q], N0, e0⟩)
    refine own_st (U' := (s₁.setTop (mkF m 8 #[.val (.ref t1), .val (.ref t2), .unset] [(.int (0 : Int32))]))) (fun _ k => XS.iconst X0.here hx rfl (hb hby d16_7) k) ?_
    refine own_st (U' := (s₁.setTop (mkF m 9 #[.val (.ref t1), .val (.ref t2), .val (.int (0 : Int32))] []))) (fun _ k => XS.istoreN X0.here hx rfl (hb hby d16_8) rfl (l' := #[.val (.ref t1), .val (.ref t2), .val (.int (0 : Int32))]) rfl k) ?_
    exact loop s1.length 0 (by omega) (fun j h => absurd h (Nat.not_lt_zero j))
  · skip
    refine own_st (U' := (s₁.setTop (mkF m 34 #[.val (.ref t1), .val (.ref t2), .unset] []))) (fun _ k => XS.icmpYes X0.here hx rfl (pc0 := 4) (pc' := 34) rfl (hb hby d16_4) rfl (feq (fun q => c0 (own_ofN_inj (by omega) (by omega) q))).2 (by decide) (by decide) k) ?_
    have q : own_b (decide (s1 = s2)) = 0 := (own_b0 _).mpr (decide_eq_false fun z => c0 (by rw [z]))
    refine own_st (U' := (s₁.setTop (mkF m 35 #[.val (.ref t1), .val (.ref t2), .unset] [(.int (0 : Int32))]))) (fun _ k => XS.iconst X0.here hx rfl (hb hby d16_34) k) ?_
    exact own_retN X0 hx (t := .boolean) Bd.returns Bd.notSynchronized (by simp) rfl (hb hby d16_35) (by decide) (by decide) (⟨by rw [q], N0, e0⟩)
theorem d15_0 : decode jdk_42_method_66_code 0 = .ok (.aload_n 0, 1) := by decide +kernel
theorem d15_1 : decode jdk_42_method_66_code 1 = .ok (.aload_n 1, 1) := by decide +kernel
theorem d15_2 : decode jdk_42_method_66_code 2 = .ok (.if_acmp .ne 5, 3) := by decide +kernel
theorem d15_5 : decode jdk_42_method_66_code 5 = .ok (.iconst 1, 1) := by decide +kernel
theorem d15_6 : decode jdk_42_method_66_code 6 = .ok (.ireturn, 1) := by decide +kernel
theorem d15_7 : decode jdk_42_method_66_code 7 = .ok (.aload_n 1, 1) := by decide +kernel
theorem d15_8 : decode jdk_42_method_66_code 8 = .ok (.instanceof 10, 3) := by decide +kernel
theorem d15_11 : decode jdk_42_method_66_code 11 = .ok (.ifCond .eq 43, 3) := by decide +kernel
theorem d15_14 : decode jdk_42_method_66_code 14 = .ok (.aload_n 1, 1) := by decide +kernel
theorem d15_15 : decode jdk_42_method_66_code 15 = .ok (.checkcast 10, 3) := by decide +kernel
theorem d15_18 : decode jdk_42_method_66_code 18 = .ok (.astore_n 2, 1) := by decide +kernel
theorem d15_19 : decode jdk_42_method_66_code 19 = .ok (.getstatic 38, 3) := by decide +kernel
theorem d15_22 : decode jdk_42_method_66_code 22 = .ok (.ifCond .eq 14, 3) := by decide +kernel
theorem d15_25 : decode jdk_42_method_66_code 25 = .ok (.aload_n 0, 1) := by decide +kernel
theorem d15_26 : decode jdk_42_method_66_code 26 = .ok (.getfield 15, 3) := by decide +kernel
theorem d15_29 : decode jdk_42_method_66_code 29 = .ok (.aload_n 2, 1) := by decide +kernel
theorem d15_30 : decode jdk_42_method_66_code 30 = .ok (.getfield 15, 3) := by decide +kernel
theorem d15_33 : decode jdk_42_method_66_code 33 = .ok (.if_icmp .ne 21, 3) := by decide +kernel
theorem d15_36 : decode jdk_42_method_66_code 36 = .ok (.aload_n 0, 1) := by decide +kernel
theorem d15_37 : decode jdk_42_method_66_code 37 = .ok (.getfield 9, 3) := by decide +kernel
theorem d15_40 : decode jdk_42_method_66_code 40 = .ok (.aload_n 2, 1) := by decide +kernel
theorem d15_41 : decode jdk_42_method_66_code 41 = .ok (.getfield 9, 3) := by decide +kernel
theorem d15_44 : decode jdk_42_method_66_code 44 = .ok (.invokestatic 541, 3) := by decide +kernel
theorem d15_47 : decode jdk_42_method_66_code 47 = .ok (.ifCond .eq 7, 3) := by decide +kernel
theorem d15_50 : decode jdk_42_method_66_code 50 = .ok (.iconst 1, 1) := by decide +kernel
theorem d15_51 : decode jdk_42_method_66_code 51 = .ok (.goto 4, 3) := by decide +kernel
theorem d15_54 : decode jdk_42_method_66_code 54 = .ok (.iconst 0, 1) := by decide +kernel
theorem d15_55 : decode jdk_42_method_66_code 55 = .ok (.ireturn, 1) := by decide +kernel
theorem pn_rmSE : plainName "java/lang/String" = true := by first | (simp [plainName, overriddenIn]; done) | decide +kernel
theorem pd_d15 : parseMethodDescriptor "(Ljava/lang/Object;)Z" = some ⟨[(.object "java/lang/Object")], some .boolean⟩ := by decide +kernel
theorem ef_rmSE (m : MethodId) (x0 : Addr) (x1 : Addr) : entryFrame m #[(.ref x0), (.ref x1)] 3 = mkF m 0 #[.val (.ref x0), .val (.ref x1), .unset] [] := by first | (simp [entryFrame, mkF, argsToLocals, Value.category, maxLocals]; done) | rfl
def Q_rmSE (Z : State) (a : Addr) (b : Addr) (s1 : List Int32) (s2 : List Int32) (nb : Nat) (z0 : Int32) (h0 : Heap) (n0 : Nat) (v : Option Value) (h : Heap) (L : List Loc) : Prop := v = some (.int (own_b (decide (s1 = s2)))) ∧ Fr n0 L ∧ h = h0
set_option maxRecDepth 65536 in
set_option maxHeartbeats 40000000 in
theorem rmSE (l : Launch) (Z : State) (a0 : Array Value) (hw : ∀ d ∈ tables_1, d.before a0 Z = true) (ws : List Jvm.Cond) (a : Addr) (b : Addr) (s1 : List Int32) (s2 : List Int32) (nb : Nat) (z0 : Int32) (h0 : Heap) (n0 : Nat) (Z0 : n0 ≤ h0.size) (S1 : own_S Z h0 nb a s1) (S2 : own_S Z h0 nb b s2) (O : Old Z n0 h0) (S0 : Sta Z Z.heap "java/lang/String" "COMPACT_STRINGS" "Z" (.int z0)) (hz0 : ¬ z0 = 0) :
    MetFree l (⟨"java/lang/String", "equals", "(Ljava/lang/Object;)Z"⟩ : MethodName) (head1 (Jvm.Cond.code (⟨"java/lang/String", "equals", "(Ljava/lang/Object;)Z"⟩ : MethodName) jdk_42_method_66_code 3 (some .boolean) :: ws) ({ frames := 1, cells := 0, slots := 0, locals := 14 } : Room)) (fun as1 U => as1 = #[(.ref a), (.ref b)] ∧ Z.Warmed39 U.vm ∧ U.heap = h0) (fun _ _ _ _ _ => True) (fun _ U o U' => ∃ v L, o = .returned v ∧ Q_rmSE Z a b s1 s2 nb z0 h0 n0 v U'.heap L ∧ FrameEnd U o U' L ({ frames := 1, cells := 0, slots := 0, locals := 14 } : Room).cells ({ frames := 1, cells := 0, slots := 0, locals := 14 } : Room).slots) := by
  refine MetFree.of_bodySF (plainFor_of_name pn_rmSE) hisR ?_
  intro p e s m args below meth c s₁ Bd hml0 hP hK
  obtain ⟨rfl, hZ, hh⟩ := hP
  have hx := Bd.exec
  have hby := Bd.bytes
  have hml : c.maxLocals = 3 := hml0
  have hown : s.vm.findClass "java/lang/String" = some m.cls := findClass_of_methodNamed Bd.named
  have hnm := (name_of_methodNamed Bd.named Bd.method).1
  have X0 : Stand p l e ({ frames := 1, cells := 0, slots := 0, locals := 14 } : Room) s m #[(.ref a), (.ref b)] below meth c s₁ [] 0 0 := Stand.of_body Bd
  have e0 : s₁.heap = h0 := by rw [← hh, Bd.state]; rfl
  have N0 := Fr.nil n0
  show own_Ends p e s below (Q_rmSE Z a b s1 s2 nb z0 h0 n0) ({ frames := 1, cells := 0, slots := 0, locals := 14 } : Room).cells ({ frames := 1, cells := 0, slots := 0, locals := 14 } : Room).slots (s₁.setTop (entryFrame m #[(.ref a), (.ref b)] 3))
  refine own_st (U' := (s₁.setTop (mkF m 0 #[.val (.ref a), .val (.ref b), .unset] []))) (fun _ k => castTop (ef_rmSE m a b) k) ?_
  have S1' := S1
  have S2' := S2
  obtain ⟨k1, l1, -, E1, C1, t1, -, F1, V1⟩ := S1'
  obtain ⟨k2, l2, -, E2, C2, t2, -, F2, V2⟩ := S2'
  refine own_st (U' := (s₁.setTop (mkF m 1 #[.val (.ref a), .val (.ref b), .unset] [(.ref a)]))) (fun _ k => XS.aloadN X0.here hx rfl (hb hby d15_0) rfl rfl k) ?_
  refine own_st (U' := (s₁.setTop (mkF m 2 #[.val (.ref a), .val (.ref b), .unset] [(.ref b), (.ref a)]))) (fun _ k => XS.aloadN X0.here hx rfl (hb hby d15_1) rfl rfl k) ?_
  by_cases c0 : a = b
  · skip
    refine own_st (U' := (s₁.setTop (mkF m 5 #[.val (.ref a), .val (.ref b), .unset] []))) (fun _ k => Jvm.RoadKit.acmp (g := (mkF m 2 #[.val (.ref a), .val (.ref b), .unset] [(.ref b), (.ref a)])) X0 hx rfl rfl rfl (pc0 := 2) (pc' := 5) (same := true) rfl (hb hby d15_2) rfl (decide_eq_true (congrArg Value.ref c0)) (by decide) (by decide) k) ?_
    have q : own_b (decide (s1 = s2)) = 1 := by subst c0; rw [S1.inj S2]; simp [own_b]
    refine own_st (U' := (s₁.setTop (mkF m 6 #[.val (.ref a), .val (.ref b), .unset] [(.int (1 : Int32))]))) (fun _ k => XS.iconst X0.here hx rfl (hb hby d15_5) k) ?_
    exact own_retN X0 hx (t := .boolean) Bd.returns Bd.notSynchronized (by simp) rfl (hb hby d15_6) (by decide) (by decide) (⟨by rw [q], N0, e0⟩)
  · skip
    refine own_st (U' := (s₁.setTop (mkF m 7 #[.val (.ref a), .val (.ref b), .unset] []))) (fun _ k => Jvm.RoadKit.acmp (g := (mkF m 2 #[.val (.ref a), .val (.ref b), .unset] [(.ref b), (.ref a)])) X0 hx rfl rfl rfl (pc0 := 2) (pc' := 7) (same := false) rfl (hb hby d15_2) rfl (decide_eq_false fun q => c0 (Value.ref.inj q)) (by decide) (by decide) k) ?_
    refine own_st (U' := (s₁.setTop (mkF m 8 #[.val (.ref a), .val (.ref b), .unset] [(.ref b)]))) (fun _ k => XS.aloadN X0.here hx rfl (hb hby d15_7) rfl rfl k) ?_
    obtain ⟨T77, X77, e77, st77⟩ := instY X0 hx hZ hown (hw _ (List.mem_of_getElem? (i := 87) rfl)) e0 (Ins.self E2) (g := (mkF m 8 #[.val (.ref a), .val (.ref b), .unset] [(.ref b)])) rfl rfl (hb hby d15_8)
    refine own_st (U' := (T77.setTop (mkF m 11 #[.val (.ref a), .val (.ref b), .unset] [(.int (1 : Int32))]))) st77 ?_
    refine own_st (U' := (T77.setTop (mkF m 14 #[.val (.ref a), .val (.ref b), .unset] []))) (fun _ k => XS.ifNo X77.here hx rfl (hb hby d15_11) rfl ((if0 _ _).trans (feq (by decide)).1) k) ?_
    refine own_st (U' := (T77.setTop (mkF m 15 #[.val (.ref a), .val (.ref b), .unset] [(.ref b)]))) (fun _ k => XS.aloadN X77.here hx rfl (hb hby d15_14) rfl rfl k) ?_
    obtain ⟨T78, X78, e78, st78⟩ := castY X77 hx hZ hown (hw _ (List.mem_of_getElem? (i := 87) rfl)) e77 (Ins.self E2) (g := (mkF m 15 #[.val (.ref a), .val (.ref b), .unset] [(.ref b)])) rfl rfl (hb hby d15_15)
    refine own_st (U' := (T78.setTop (mkF m 18 #[.val (.ref a), .val (.ref b), .unset] [(.ref b)]))) st78 ?_
    refine own_st (U' := (T78.setTop (mkF m 19 #[.val (.ref a), .val (.ref b), .val (.ref b)] []))) (fun _ k => XS.astoreN X78.here hx rfl (hb hby d15_18) rfl rfl (l' := #[.val (.ref a), .val (.ref b), .val (.ref b)]) rfl k) ?_
    obtain ⟨T79, X79, e79, st79⟩ := getS X78 hx hZ hown (host := "") (hw _ (List.mem_of_getElem? (i := 38) rfl)) Via.refl e78 (S0.ext O.2) (g := (mkF m 19 #[.val (.ref a), .val (.ref b), .val (.ref b)] [])) rfl (hb hby d15_19)
    refine own_st (U' := (T79.setTop (mkF m 22 #[.val (.ref a), .val (.ref b), .val (.ref b)] [(.int z0)]))) st79 ?_
    refine own_st (U' := (T79.setTop (mkF m 25 #[.val (.ref a), .val (.ref b), .val (.ref b)] []))) (fun _ k => XS.ifNo X79.here hx rfl (hb hby d15_22) rfl ((if0 _ _).trans (feq hz0).1) k) ?_
    refine own_st (U' := (T79.setTop (mkF m 26 #[.val (.ref a), .val (.ref b), .val (.ref b)] [(.ref a)]))) (fun _ k => XS.aloadN X79.here hx rfl (hb hby d15_25) rfl rfl k) ?_
    obtain ⟨T80, X80, e80, st80⟩ := getF X79 hx hZ hown (host := "") (Or.inl (hw _ (List.mem_of_getElem? (i := 37) rfl))) Via.refl e79 C1 (g := (mkF m 26 #[.val (.ref a), .val (.ref b), .val (.ref b)] [(.ref a)])) rfl rfl (hb hby d15_26)
    refine own_st (U' := (T80.setTop (mkF m 29 #[.val (.ref a), .val (.ref b), .val (.ref b)] [(.int (0 : Int32))]))) st80 ?_
    refine own_st (U' := (T80.setTop (mkF m 30 #[.val (.ref a), .val (.ref b), .val (.ref b)] [(.ref b), (.int (0 : Int32))]))) (fun _ k => XS.aloadN X80.here hx rfl (hb hby d15_29) rfl rfl k) ?_
    obtain ⟨T81, X81, e81, st81⟩ := getF X80 hx hZ hown (host := "") (Or.inl (hw _ (List.mem_of_getElem? (i := 37) rfl))) Via.refl e80 C2 (g := (mkF m 30 #[.val (.ref a), .val (.ref b), .val (.ref b)] [(.ref b), (.int (0 : Int32))])) rfl rfl (hb hby d15_30)
    refine own_st (U' := (T81.setTop (mkF m 33 #[.val (.ref a), .val (.ref b), .val (.ref b)] [(.int (0 : Int32)), (.int (0 : Int32))]))) st81 ?_
    refine own_st (U' := (T81.setTop (mkF m 36 #[.val (.ref a), .val (.ref b), .val (.ref b)] []))) (fun _ k => XS.icmpNo X81.here hx rfl (hb hby d15_33) rfl (teq rfl).2 k) ?_
    refine own_st (U' := (T81.setTop (mkF m 37 #[.val (.ref a), .val (.ref b), .val (.ref b)] [(.ref a)]))) (fun _ k => XS.aloadN X81.here hx rfl (hb hby d15_36) rfl rfl k) ?_
    obtain ⟨T82, X82, e82, st82⟩ := getF X81 hx hZ hown (host := "") (Or.inl (hw _ (List.mem_of_getElem? (i := 36) rfl))) Via.refl e81 F1 (g := (mkF m 37 #[.val (.ref a), .val (.ref b), .val (.ref b)] [(.ref a)])) rfl rfl (hb hby d15_37)
    refine own_st (U' := (T82.setTop (mkF m 40 #[.val (.ref a), .val (.ref b), .val (.ref b)] [(.ref t1)]))) st82 ?_
    refine own_st (U' := (T82.setTop (mkF m 41 #[.val (.ref a), .val (.ref b), .val (.ref b)] [(.ref b), (.ref t1)]))) (fun _ k => XS.aloadN X82.here hx rfl (hb hby d15_40) rfl rfl k) ?_
    obtain ⟨T83, X83, e83, st83⟩ := getF X82 hx hZ hown (host := "") (Or.inl (hw _ (List.mem_of_getElem? (i := 36) rfl))) Via.refl e82 F2 (g := (mkF m 41 #[.val (.ref a), .val (.ref b), .val (.ref b)] [(.ref b), (.ref t1)])) rfl rfl (hb hby d15_41)
    refine own_st (U' := (T83.setTop (mkF m 44 #[.val (.ref a), .val (.ref b), .val (.ref b)] [(.ref t2), (.ref t1)]))) st83 ?_
    obtain ⟨_, _, ⟨T84, L84, k84, n84⟩, -, X84, ⟨Lc84, hQ84, l84, y84, z84⟩, st84⟩ := Jvm.LawKit.callS X83 hx (y := (⟨"java/lang/StringLatin1", "equals", "([B[B)Z"⟩ : MethodName)) hown (mvT hZ (hw _ (List.mem_of_getElem? (i := 88) rfl))) (mvT hZ (hw _ (List.mem_of_getElem? (i := 89) rfl))) (mvT hZ (hw _ (List.mem_of_getElem? (i := 90) rfl))) (mvT hZ (hw _ (List.mem_of_getElem? (i := 91) rfl))) (by decide) (backOf (W := 0) (rmLE l Z a0 hw [] t1 t2 s1 s2 h0 n0 Z0 V1 V2 k1 k2 l1 l2) hZ (hw _ (List.mem_of_getElem? (i := 91) rfl)) (hw _ (List.mem_of_getElem? (i := 90) rfl)) (by decide) (by decide)) (g := (mkF m 44 #[.val (.ref a), .val (.ref b), .val (.ref b)] [(.ref t2), (.ref t1)])) rfl (by rw [hml]; rfl) (argsL := [(.ref t1), (.ref t2)]) (rest := []) (lenOf (pd_d16) rfl) rfl (by show 2 * 0 + _ ≤ _; exact Nat.le_of_eq rfl) (hb hby d15_44) (fun _ _ => ⟨rfl, e83, (Nat.le_of_ble_eq_true rfl), (Nat.le_of_ble_eq_true rfl)⟩)
    dsimp only [Pt.U, Pt.locs, Pt.cells, Pt.slots] at X84 l84 y84 z84 st84 hQ84
    subst l84 y84 z84
    obtain ⟨rfl, Nq84, eq84⟩ := hQ84
    have N84 := Fr.app N0 Nq84
    refine own_st (U' := (T84.setTop (mkF m 47 #[.val (.ref a), .val (.ref b), .val (.ref b)] [(.int (own_b (decide (s1 = s2))))]))) st84 ?_
    by_cases c1 : s1 = s2
    · skip
      have q : own_b (decide (s1 = s2)) = 1 := by simp [own_b, c1]
      refine own_st (U' := (T84.setTop (mkF m 50 #[.val (.ref a), .val (.ref b), .val (.ref b)] []))) (fun _ k => XS.ifNo X84.here hx rfl (hb hby d15_47) rfl ((if0 _ _).trans (feq (by rw [q]; decide)).1) k) ?_
      refine own_st (U' := (T84.setTop (mkF m 51 #[.val (.ref a), .val (.ref b), .val (.ref b)] [(.int (1 : Int32))]))) (fun _ k => XS.iconst X84.here hx rfl (hb hby d15_50) k) ?_
      refine own_st (U' := (T84.setTop (mkF m 55 #[.val (.ref a), .val (.ref b), .val (.ref b)] [(.int (1 : Int32))]))) (fun _ k => XS.goto X84.here hx rfl (pc0 := 51) (pc' := 55) rfl (hb hby d15_51) (by decide) (by decide) k) ?_
      exact own_retN X84 hx (t := .boolean) Bd.returns Bd.notSynchronized (by simp) rfl (hb hby d15_55) (by decide) (by decide) (⟨by rw [q], N84, eq84⟩)
    · skip
      have q : own_b (decide (s1 = s2)) = 0 := by simp [own_b, c1]
      refine own_st (U' := (T84.setTop (mkF m 54 #[.val (.ref a), .val (.ref b), .val (.ref b)] []))) (fun _ k => XS.ifYes X84.here hx rfl (pc0 := 47) (pc' := 54) rfl (hb hby d15_47) rfl ((if0 _ _).trans (teq q).1) (by decide) (by decide) k) ?_
      refine own_st (U' := (T84.setTop (mkF m 55 #[.val (.ref a), .val (.ref b), .val (.ref b)] [(.int (0 : Int32))]))) (fun _ k => XS.iconst X84.here hx rfl (hb hby d15_54) k) ?_
      exact own_retN X84 hx (t := .boolean) Bd.returns Bd.notSynchronized (by simp) rfl (hb hby d15_55) (by decide) (by decide) (⟨by rw [q], N84, eq84⟩)
theorem d13_0 : decode prog_119_method_5_code 0 = .ok (.aload_n 1, 1) := by decide +kernel
theorem d13_1 : decode prog_119_method_5_code 1 = .ok (.instanceof 18, 3) := by decide +kernel
theorem d13_4 : decode prog_119_method_5_code 4 = .ok (.ifCond .eq 54, 3) := by decide +kernel
theorem d13_7 : decode prog_119_method_5_code 7 = .ok (.aload_n 1, 1) := by decide +kernel
theorem d13_8 : decode prog_119_method_5_code 8 = .ok (.checkcast 18, 3) := by decide +kernel
theorem d13_11 : decode prog_119_method_5_code 11 = .ok (.astore_n 2, 1) := by decide +kernel
theorem d13_12 : decode prog_119_method_5_code 12 = .ok (.aload_n 0, 1) := by decide +kernel
theorem d13_13 : decode prog_119_method_5_code 13 = .ok (.getfield 17, 3) := by decide +kernel
theorem d13_16 : decode prog_119_method_5_code 16 = .ok (.aload_n 2, 1) := by decide +kernel
theorem d13_17 : decode prog_119_method_5_code 17 = .ok (.getfield 17, 3) := by decide +kernel
theorem d13_20 : decode prog_119_method_5_code 20 = .ok (.invokevirtual 30, 3) := by decide +kernel
theorem d13_23 : decode prog_119_method_5_code 23 = .ok (.ifCond .eq 35, 3) := by decide +kernel
theorem d13_26 : decode prog_119_method_5_code 26 = .ok (.aload_n 0, 1) := by decide +kernel
theorem d13_27 : decode prog_119_method_5_code 27 = .ok (.getfield 24, 3) := by decide +kernel
theorem d13_30 : decode prog_119_method_5_code 30 = .ok (.aload_n 2, 1) := by decide +kernel
theorem d13_31 : decode prog_119_method_5_code 31 = .ok (.getfield 24, 3) := by decide +kernel
theorem d13_34 : decode prog_119_method_5_code 34 = .ok (.invokevirtual 30, 3) := by decide +kernel
theorem d13_37 : decode prog_119_method_5_code 37 = .ok (.ifCond .eq 21, 3) := by decide +kernel
theorem d13_40 : decode prog_119_method_5_code 40 = .ok (.aload_n 0, 1) := by decide +kernel
theorem d13_41 : decode prog_119_method_5_code 41 = .ok (.getfield 28, 3) := by decide +kernel
theorem d13_44 : decode prog_119_method_5_code 44 = .ok (.aload_n 2, 1) := by decide +kernel
theorem d13_45 : decode prog_119_method_5_code 45 = .ok (.getfield 28, 3) := by decide +kernel
theorem d13_48 : decode prog_119_method_5_code 48 = .ok (.invokevirtual 30, 3) := by decide +kernel
theorem d13_51 : decode prog_119_method_5_code 51 = .ok (.ifCond .eq 7, 3) := by decide +kernel
theorem d13_54 : decode prog_119_method_5_code 54 = .ok (.iconst 1, 1) := by decide +kernel
theorem d13_55 : decode prog_119_method_5_code 55 = .ok (.goto 4, 3) := by decide +kernel
theorem d13_58 : decode prog_119_method_5_code 58 = .ok (.iconst 0, 1) := by decide +kernel
theorem d13_59 : decode prog_119_method_5_code 59 = .ok (.ireturn, 1) := by decide +kernel
theorem pn_rmVE : plainName "com/example/quorum/quorum/ValidationFailure" = true := by first | (simp [plainName, overriddenIn]; done) | decide +kernel
theorem pd_d13 : parseMethodDescriptor "(Ljava/lang/Object;)Z" = some ⟨[(.object "java/lang/Object")], some .boolean⟩ := by decide +kernel
theorem ef_rmVE (m : MethodId) (x0 : Addr) (x1 : Addr) : entryFrame m #[(.ref x0), (.ref x1)] 3 = mkF m 0 #[.val (.ref x0), .val (.ref x1), .unset] [] := by first | (simp [entryFrame, mkF, argsToLocals, Value.category, maxLocals]; done) | rfl
def Q_rmVE (Z : State) (a : Addr) (b : Addr) (x1 : Addr) (x2 : Addr) (x3 : Addr) (y1 : Addr) (y2 : Addr) (y3 : Addr) (s1 : List Int32) (s2 : List Int32) (s3 : List Int32) (u1 : List Int32) (u2 : List Int32) (u3 : List Int32) (nb : Nat) (z0 : Int32) (h0 : Heap) (n0 : Nat) (v : Option Value) (h : Heap) (L : List Loc) : Prop := v = some (.int (own_b (decide (s1 = u1) && (decide (s2 = u2) && decide (s3 = u3))))) ∧ Fr n0 L ∧ h = h0
set_option maxRecDepth 65536 in
set_option maxHeartbeats 40000000 in
theorem rmVE (l : Launch) (Z : State) (a0 : Array Value) (hw : ∀ d ∈ tables_1, d.before a0 Z = true) (ws : List Jvm.Cond) (a : Addr) (b : Addr) (x1 : Addr) (x2 : Addr) (x3 : Addr) (y1 : Addr) (y2 : Addr) (y3 : Addr) (s1 : List Int32) (s2 : List Int32) (s3 : List Int32) (u1 : List Int32) (u2 : List Int32) (u3 : List Int32) (nb : Nat) (z0 : Int32) (h0 : Heap) (n0 : Nat) (Z0 : n0 ≤ h0.size) (E_b : Exa Z h0 b "com/example/quorum/quorum/ValidationFailure") (G1 : Fld Z h0 a "com/example/quorum/quorum/ValidationFailure" "instancePointer" "Ljava/lang/String;" (.ref x1)) (G2 : Fld Z h0 a "com/example/quorum/quorum/ValidationFailure" "keywordLocation" "Ljava/lang/String;" (.ref x2)) (G3 : Fld Z h0 a "com/example/quorum/quorum/ValidationFailure" "message" "Ljava/lang/String;" (.ref x3)) (K1 : Fld Z h0 b "com/example/quorum/quorum/ValidationFailure" "instancePointer" "Ljava/lang/String;" (.ref y1)) (K2 : Fld Z h0 b "com/example/quorum/quorum/ValidationFailure" "keywordLocation" "Ljava/lang/String;" (.ref y2)) (K3 : Fld Z h0 b "com/example/quorum/quorum/ValidationFailure" "message" "Ljava/lang/String;" (.ref y3)) (S1 : own_S Z h0 nb x1 s1) (S2 : own_S Z h0 nb x2 s2) (S3 : own_S Z h0 nb x3 s3) (U1 : own_S Z h0 nb y1 u1) (U2 : own_S Z h0 nb y2 u2) (U3 : own_S Z h0 nb y3 u3) (O : Old Z n0 h0) (S0 : Sta Z Z.heap "java/lang/String" "COMPACT_STRINGS" "Z" (.int z0)) (hz0 : ¬ z0 = 0) :
    MetFree l (⟨"com/example/quorum/quorum/ValidationFailure", "equals", "(Ljava/lang/Object;)Z"⟩ : MethodName) (head1 (Jvm.Cond.code (⟨"com/example/quorum/quorum/ValidationFailure", "equals", "(Ljava/lang/Object;)Z"⟩ : MethodName) prog_119_method_5_code 3 (some .boolean) :: ws) ({ frames := 2, cells := 0, slots := 0, locals := 28 } : Room)) (fun as1 U => as1 = #[(.ref a), (.ref b)] ∧ Z.Warmed39 U.vm ∧ U.heap = h0) (fun _ _ _ _ _ => True) (fun _ U o U' => ∃ v L, o = .returned v ∧ Q_rmVE Z a b x1 x2 x3 y1 y2 y3 s1 s2 s3 u1 u2 u3 nb z0 h0 n0 v U'.heap L ∧ FrameEnd U o U' L ({ frames := 2, cells := 0, slots := 0, locals := 28 } : Room).cells ({ frames := 2, cells := 0, slots := 0, locals := 28 } : Room).slots) := by
  refine MetFree.of_bodySF (plainFor_of_name pn_rmVE) hisR ?_
  intro p e s m args below meth c s₁ Bd hml0 hP hK
  obtain ⟨rfl, hZ, hh⟩ := hP
  have hx := Bd.exec
  have hby := Bd.bytes
  have hml : c.maxLocals = 3 := hml0
  have hown : s.vm.findClass "com/example/quorum/quorum/ValidationFailure" = some m.cls := findClass_of_methodNamed Bd.named
  have hnm := (name_of_methodNamed Bd.named Bd.method).1
  have X0 : Stand p l e ({ frames := 2, cells := 0, slots := 0, locals := 28 } : Room) s m #[(.ref a), (.ref b)] below meth c s₁ [] 0 0 := Stand.of_body Bd
  have e0 : s₁.heap = h0 := by rw [← hh, Bd.state]; rfl
  have N0 := Fr.nil n0
  show own_Ends p e s below (Q_rmVE Z a b x1 x2 x3 y1 y2 y3 s1 s2 s3 u1 u2 u3 nb z0 h0 n0) ({ frames := 2, cells := 0, slots := 0, locals := 28 } : Room).cells ({ frames := 2, cells := 0, slots := 0, locals := 28 } : Room).slots (s₁.setTop (entryFrame m #[(.ref a), (.ref b)] 3))
  refine own_st (U' := (s₁.setTop (mkF m 0 #[.val (.ref a), .val (.ref b), .unset] []))) (fun _ k => castTop (ef_rmVE m a b) k) ?_
  refine own_st (U' := (s₁.setTop (mkF m 1 #[.val (.ref a), .val (.ref b), .unset] [(.ref b)]))) (fun _ k => XS.aloadN X0.here hx rfl (hb hby d13_0) rfl rfl k) ?_
  obtain ⟨T85, X85, e85, st85⟩ := instY X0 hx hZ hown (hw _ (List.mem_of_getElem? (i := 75) rfl)) e0 (Ins.self E_b) (g := (mkF m 1 #[.val (.ref a), .val (.ref b), .unset] [(.ref b)])) rfl rfl (hb hby d13_1)
  refine own_st (U' := (T85.setTop (mkF m 4 #[.val (.ref a), .val (.ref b), .unset] [(.int (1 : Int32))]))) st85 ?_
  refine own_st (U' := (T85.setTop (mkF m 7 #[.val (.ref a), .val (.ref b), .unset] []))) (fun _ k => XS.ifNo X85.here hx rfl (hb hby d13_4) rfl ((if0 _ _).trans (feq (by decide)).1) k) ?_
  refine own_st (U' := (T85.setTop (mkF m 8 #[.val (.ref a), .val (.ref b), .unset] [(.ref b)]))) (fun _ k => XS.aloadN X85.here hx rfl (hb hby d13_7) rfl rfl k) ?_
  obtain ⟨T86, X86, e86, st86⟩ := castY X85 hx hZ hown (hw _ (List.mem_of_getElem? (i := 75) rfl)) e85 (Ins.self E_b) (g := (mkF m 8 #[.val (.ref a), .val (.ref b), .unset] [(.ref b)])) rfl rfl (hb hby d13_8)
  refine own_st (U' := (T86.setTop (mkF m 11 #[.val (.ref a), .val (.ref b), .unset] [(.ref b)]))) st86 ?_
  refine own_st (U' := (T86.setTop (mkF m 12 #[.val (.ref a), .val (.ref b), .val (.ref b)] []))) (fun _ k => XS.astoreN X86.here hx rfl (hb hby d13_11) rfl rfl (l' := #[.val (.ref a), .val (.ref b), .val (.ref b)]) rfl k) ?_
  refine own_st (U' := (T86.setTop (mkF m 13 #[.val (.ref a), .val (.ref b), .val (.ref b)] [(.ref a)]))) (fun _ k => XS.aloadN X86.here hx rfl (hb hby d13_12) rfl rfl k) ?_
  obtain ⟨T87, X87, e87, st87⟩ := getF X86 hx hZ hown (host := "") (Or.inl (hw _ (List.mem_of_getElem? (i := 62) rfl))) Via.refl e86 G1 (g := (mkF m 13 #[.val (.ref a), .val (.ref b), .val (.ref b)] [(.ref a)])) rfl rfl (hb hby d13_13)
  refine own_st (U' := (T87.setTop (mkF m 16 #[.val (.ref a), .val (.ref b), .val (.ref b)] [(.ref x1)]))) st87 ?_
  refine own_st (U' := (T87.setTop (mkF m 17 #[.val (.ref a), .val (.ref b), .val (.ref b)] [(.ref b), (.ref x1)]))) (fun _ k => XS.aloadN X87.here hx rfl (hb hby d13_16) rfl rfl k) ?_
  obtain ⟨T88, X88, e88, st88⟩ := getF X87 hx hZ hown (host := "") (Or.inl (hw _ (List.mem_of_getElem? (i := 62) rfl))) Via.refl e87 K1 (g := (mkF m 17 #[.val (.ref a), .val (.ref b), .val (.ref b)] [(.ref b), (.ref x1)])) rfl rfl (hb hby d13_17)
  refine own_st (U' := (T88.setTop (mkF m 20 #[.val (.ref a), .val (.ref b), .val (.ref b)] [(.ref y1), (.ref x1)]))) st88 ?_
  obtain ⟨cq89, kq89, qa89, qb89, qc89⟩ := isOf hZ e88 S1.2.2.2.1
  obtain ⟨_, _, ⟨T89, L89, k89, n89⟩, -, X89, ⟨Lc89, hQ89, l89, y89, z89⟩, st89⟩ := X88.virtualBack hx (y := (⟨"java/lang/String", "equals", "(Ljava/lang/Object;)Z"⟩ : MethodName)) (z := (⟨"java/lang/String", "equals", "(Ljava/lang/Object;)Z"⟩ : MethodName)) hown (mvT hZ (hw _ (List.mem_of_getElem? (i := 82) rfl))) (mvT hZ (hw _ (List.mem_of_getElem? (i := 83) rfl))) (notFace_of_selects (args := #[]) (mvT hZ (hw _ (List.mem_of_getElem? (i := 85) rfl)))) (mvT hZ (hw _ (List.mem_of_getElem? (i := 85) rfl))) (mvT hZ (hw _ (List.mem_of_getElem? (i := 84) rfl))) (by decide) (backOf (W := 0) (rmSE l Z a0 hw [] x1 y1 s1 u1 nb z0 h0 n0 Z0 S1 U1 O S0 hz0) hZ (hw _ (List.mem_of_getElem? (i := 86) rfl)) (hw _ (List.mem_of_getElem? (i := 18) rfl)) (by decide) (by decide)) qa89 qc89 (g := (mkF m 20 #[.val (.ref a), .val (.ref b), .val (.ref b)] [(.ref y1), (.ref x1)])) rfl (by rw [hml]; rfl) (Steps.refl _) (argsL := [(.ref y1)]) (rest := []) (lenOf (pd_d15) rfl) rfl (by show 2 * 0 + _ ≤ _; exact Nat.le_of_eq rfl) (hb hby d13_20) (fun _ _ => ⟨rfl, e88, (Nat.le_of_ble_eq_true rfl), (Nat.le_of_ble_eq_true rfl)⟩)
  dsimp only [Pt.U, Pt.locs, Pt.cells, Pt.slots] at X89 l89 y89 z89 st89 hQ89
  subst l89 y89 z89
  obtain ⟨rfl, Nq89, eq89⟩ := hQ89
  have N89 := Fr.app N0 Nq89
  refine own_tr (U' := (T89.setTop (mkF m 23 #[.val (.ref a), .val (.ref b), .val (.ref b)] [(.int (own_b (decide (s1 = u1))))]))) st89 ?_
  by_cases c0 : s1 = u1
  · skip
    have p0 : own_b (decide (s1 = u1)) = 1 := by simp [own_b, c0]
    refine own_st (U' := (T89.setTop (mkF m 26 #[.val (.ref a), .val (.ref b), .val (.ref b)] []))) (fun _ k => XS.ifNo X89.here hx rfl (hb hby d13_23) rfl ((if0 _ _).trans (feq (by rw [p0]; decide)).1) k) ?_
    refine own_st (U' := (T89.setTop (mkF m 27 #[.val (.ref a), .val (.ref b), .val (.ref b)] [(.ref a)]))) (fun _ k => XS.aloadN X89.here hx rfl (hb hby d13_26) rfl rfl k) ?_
    obtain ⟨T90, X90, e90, st90⟩ := getF X89 hx hZ hown (host := "") (Or.inl (hw _ (List.mem_of_getElem? (i := 65) rfl))) Via.refl eq89 G2 (g := (mkF m 27 #[.val (.ref a), .val (.ref b), .val (.ref b)] [(.ref a)])) rfl rfl (hb hby d13_27)
    refine own_st (U' := (T90.setTop (mkF m 30 #[.val (.ref a), .val (.ref b), .val (.ref b)] [(.ref x2)]))) st90 ?_
    refine own_st (U' := (T90.setTop (mkF m 31 #[.val (.ref a), .val (.ref b), .val (.ref b)] [(.ref b), (.ref x2)]))) (fun _ k => XS.aloadN X90.here hx rfl (hb hby d13_30) rfl rfl k) ?_
    obtain ⟨T91, X91, e91, st91⟩ := getF X90 hx hZ hown (host := "") (Or.inl (hw _ (List.mem_of_getElem? (i := 65) rfl))) Via.refl e90 K2 (g := (mkF m 31 #[.val (.ref a), .val (.ref b), .val (.ref b)] [(.ref b), (.ref x2)])) rfl rfl (hb hby d13_31)
    refine own_st (U' := (T91.setTop (mkF m 34 #[.val (.ref a), .val (.ref b), .val (.ref b)] [(.ref y2), (.ref x2)]))) st91 ?_
    obtain ⟨cq92, kq92, qa92, qb92, qc92⟩ := isOf hZ e91 S2.2.2.2.1
    obtain ⟨_, _, ⟨T92, L92, k92, n92⟩, -, X92, ⟨Lc92, hQ92, l92, y92, z92⟩, st92⟩ := X91.virtualBack hx (y := (⟨"java/lang/String", "equals", "(Ljava/lang/Object;)Z"⟩ : MethodName)) (z := (⟨"java/lang/String", "equals", "(Ljava/lang/Object;)Z"⟩ : MethodName)) hown (mvT hZ (hw _ (List.mem_of_getElem? (i := 82) rfl))) (mvT hZ (hw _ (List.mem_of_getElem? (i := 83) rfl))) (notFace_of_selects (args := #[]) (mvT hZ (hw _ (List.mem_of_getElem? (i := 85) rfl)))) (mvT hZ (hw _ (List.mem_of_getElem? (i := 85) rfl))) (mvT hZ (hw _ (List.mem_of_getElem? (i := 84) rfl))) (by decide) (backOf (W := 0) (rmSE l Z a0 hw [] x2 y2 s2 u2 nb z0 h0 n0 Z0 S2 U2 O S0 hz0) hZ (hw _ (List.mem_of_getElem? (i := 86) rfl)) (hw _ (List.mem_of_getElem? (i := 18) rfl)) (by decide) (by decide)) qa92 qc92 (g := (mkF m 34 #[.val (.ref a), .val (.ref b), .val (.ref b)] [(.ref y2), (.ref x2)])) rfl (by rw [hml]; rfl) (Steps.refl _) (argsL := [(.ref y2)]) (rest := []) (lenOf (pd_d15) rfl) rfl (by show 2 * 0 + _ ≤ _; exact Nat.le_of_eq rfl) (hb hby d13_34) (fun _ _ => ⟨rfl, e91, (Nat.le_of_ble_eq_true rfl), (Nat.le_of_ble_eq_true rfl)⟩)
    dsimp only [Pt.U, Pt.locs, Pt.cells, Pt.slots] at X92 l92 y92 z92 st92 hQ92
    subst l92 y92 z92
    obtain ⟨rfl, Nq92, eq92⟩ := hQ92
    have N92 := Fr.app N89 Nq92
    refine own_tr (U' := (T92.setTop (mkF m 37 #[.val (.ref a), .val (.ref b), .val (.ref b)] [(.int (own_b (decide (s2 = u2))))]))) st92 ?_
    by_cases c1 : s2 = u2
    · skip
      have p1 : own_b (decide (s2 = u2)) = 1 := by simp [own_b, c1]
      refine own_st (U' := (T92.setTop (mkF m 40 #[.val (.ref a), .val (.ref b), .val (.ref b)] []))) (fun _ k => XS.ifNo X92.here hx rfl (hb hby d13_37) rfl ((if0 _ _).trans (feq (by rw [p1]; decide)).1) k) ?_
      refine own_st (U' := (T92.setTop (mkF m 41 #[.val (.ref a), .val (.ref b), .val (.ref b)] [(.ref a)]))) (fun _ k => XS.aloadN X92.here hx rfl (hb hby d13_40) rfl rfl k) ?_
      obtain ⟨T93, X93, e93, st93⟩ := getF X92 hx hZ hown (host := "") (Or.inl (hw _ (List.mem_of_getElem? (i := 68) rfl))) Via.refl eq92 G3 (g := (mkF m 41 #[.val (.ref a), .val (.ref b), .val (.ref b)] [(.ref a)])) rfl rfl (hb hby d13_41)
      refine own_st (U' := (T93.setTop (mkF m 44 #[.val (.ref a), .val (.ref b), .val (.ref b)] [(.ref x3)]))) st93 ?_
      refine own_st (U' := (T93.setTop (mkF m 45 #[.val (.ref a), .val (.ref b), .val (.ref b)] [(.ref b), (.ref x3)]))) (fun _ k => XS.aloadN X93.here hx rfl (hb hby d13_44) rfl rfl k) ?_
      obtain ⟨T94, X94, e94, st94⟩ := getF X93 hx hZ hown (host := "") (Or.inl (hw _ (List.mem_of_getElem? (i := 68) rfl))) Via.refl e93 K3 (g := (mkF m 45 #[.val (.ref a), .val (.ref b), .val (.ref b)] [(.ref b), (.ref x3)])) rfl rfl (hb hby d13_45)
      refine own_st (U' := (T94.setTop (mkF m 48 #[.val (.ref a), .val (.ref b), .val (.ref b)] [(.ref y3), (.ref x3)]))) st94 ?_
      obtain ⟨cq95, kq95, qa95, qb95, qc95⟩ := isOf hZ e94 S3.2.2.2.1
      obtain ⟨_, _, ⟨T95, L95, k95, n95⟩, -, X95, ⟨Lc95, hQ95, l95, y95, z95⟩, st95⟩ := X94.virtualBack hx (y := (⟨"java/lang/String", "equals", "(Ljava/lang/Object;)Z"⟩ : MethodName)) (z := (⟨"java/lang/String", "equals", "(Ljava/lang/Object;)Z"⟩ : MethodName)) hown (mvT hZ (hw _ (List.mem_of_getElem? (i := 82) rfl))) (mvT hZ (hw _ (List.mem_of_getElem? (i := 83) rfl))) (notFace_of_selects (args := #[]) (mvT hZ (hw _ (List.mem_of_getElem? (i := 85) rfl)))) (mvT hZ (hw _ (List.mem_of_getElem? (i := 85) rfl))) (mvT hZ (hw _ (List.mem_of_getElem? (i := 84) rfl))) (by decide) (backOf (W := 0) (rmSE l Z a0 hw [] x3 y3 s3 u3 nb z0 h0 n0 Z0 S3 U3 O S0 hz0) hZ (hw _ (List.mem_of_getElem? (i := 86) rfl)) (hw _ (List.mem_of_getElem? (i := 18) rfl)) (by decide) (by decide)) qa95 qc95 (g := (mkF m 48 #[.val (.ref a), .val (.ref b), .val (.ref b)] [(.ref y3), (.ref x3)])) rfl (by rw [hml]; rfl) (Steps.refl _) (argsL := [(.ref y3)]) (rest := []) (lenOf (pd_d15) rfl) rfl (by show 2 * 0 + _ ≤ _; exact Nat.le_of_eq rfl) (hb hby d13_48) (fun _ _ => ⟨rfl, e94, (Nat.le_of_ble_eq_true rfl), (Nat.le_of_ble_eq_true rfl)⟩)
      dsimp only [Pt.U, Pt.locs, Pt.cells, Pt.slots] at X95 l95 y95 z95 st95 hQ95
      subst l95 y95 z95
      obtain ⟨rfl, Nq95, eq95⟩ := hQ95
      have N95 := Fr.app N92 Nq95
      refine own_tr (U' := (T95.setTop (mkF m 51 #[.val (.ref a), .val (.ref b), .val (.ref b)] [(.int (own_b (decide (s3 = u3))))]))) st95 ?_
      by_cases c2 : s3 = u3
      · skip
        have p2 : own_b (decide (s3 = u3)) = 1 := by simp [own_b, c2]
        refine own_st (U' := (T95.setTop (mkF m 54 #[.val (.ref a), .val (.ref b), .val (.ref b)] []))) (fun _ k => XS.ifNo X95.here hx rfl (hb hby d13_51) rfl ((if0 _ _).trans (feq (by rw [p2]; decide)).1) k) ?_
        have q : own_b (decide (s1 = u1) && (decide (s2 = u2) && decide (s3 = u3))) = 1 := by simp [own_b, c0, c1, c2]
        refine own_st (U' := (T95.setTop (mkF m 55 #[.val (.ref a), .val (.ref b), .val (.ref b)] [(.int (1 : Int32))]))) (fun _ k => XS.iconst X95.here hx rfl (hb hby d13_54) k) ?_
        refine own_st (U' := (T95.setTop (mkF m 59 #[.val (.ref a), .val (.ref b), .val (.ref b)] [(.int (1 : Int32))]))) (fun _ k => XS.goto X95.here hx rfl (pc0 := 55) (pc' := 59) rfl (hb hby d13_55) (by decide) (by decide) k) ?_
        exact own_retN X95 hx (t := .boolean) Bd.returns Bd.notSynchronized (by simp) rfl (hb hby d13_59) (by decide) (by decide) (⟨by rw [q], N95, eq95⟩)
      · skip
        have p2 : own_b (decide (s3 = u3)) = 0 := by simp [own_b, c2]
        refine own_st (U' := (T95.setTop (mkF m 58 #[.val (.ref a), .val (.ref b), .val (.ref b)] []))) (fun _ k => XS.ifYes X95.here hx rfl (pc0 := 51) (pc' := 58) rfl (hb hby d13_51) rfl ((if0 _ _).trans (teq p2).1) (by decide) (by decide) k) ?_
        have q : own_b (decide (s1 = u1) && (decide (s2 = u2) && decide (s3 = u3))) = 0 := by simp [own_b, c2]
        refine own_st (U' := (T95.setTop (mkF m 59 #[.val (.ref a), .val (.ref b), .val (.ref b)] [(.int (0 : Int32))]))) (fun _ k => XS.iconst X95.here hx rfl (hb hby d13_58) k) ?_
        exact own_retN X95 hx (t := .boolean) Bd.returns Bd.notSynchronized (by simp) rfl (hb hby d13_59) (by decide) (by decide) (⟨by rw [q], N95, eq95⟩)
    · skip
      have p1 : own_b (decide (s2 = u2)) = 0 := by simp [own_b, c1]
      refine own_st (U' := (T92.setTop (mkF m 58 #[.val (.ref a), .val (.ref b), .val (.ref b)] []))) (fun _ k => XS.ifYes X92.here hx rfl (pc0 := 37) (pc' := 58) rfl (hb hby d13_37) rfl ((if0 _ _).trans (teq p1).1) (by decide) (by decide) k) ?_
      have q : own_b (decide (s1 = u1) && (decide (s2 = u2) && decide (s3 = u3))) = 0 := by simp [own_b, c1]
      refine own_st (U' := (T92.setTop (mkF m 59 #[.val (.ref a), .val (.ref b), .val (.ref b)] [(.int (0 : Int32))]))) (fun _ k => XS.iconst X92.here hx rfl (hb hby d13_58) k) ?_
      exact own_retN X92 hx (t := .boolean) Bd.returns Bd.notSynchronized (by simp) rfl (hb hby d13_59) (by decide) (by decide) (⟨by rw [q], N92, eq92⟩)
  · skip
    have p0 : own_b (decide (s1 = u1)) = 0 := by simp [own_b, c0]
    refine own_st (U' := (T89.setTop (mkF m 58 #[.val (.ref a), .val (.ref b), .val (.ref b)] []))) (fun _ k => XS.ifYes X89.here hx rfl (pc0 := 23) (pc' := 58) rfl (hb hby d13_23) rfl ((if0 _ _).trans (teq p0).1) (by decide) (by decide) k) ?_
    have q : own_b (decide (s1 = u1) && (decide (s2 = u2) && decide (s3 = u3))) = 0 := by simp [own_b, c0]
    refine own_st (U' := (T89.setTop (mkF m 59 #[.val (.ref a), .val (.ref b), .val (.ref b)] [(.int (0 : Int32))]))) (fun _ k => XS.iconst X89.here hx rfl (hb hby d13_58) k) ?_
    exact own_retN X89 hx (t := .boolean) Bd.returns Bd.notSynchronized (by simp) rfl (hb hby d13_59) (by decide) (by decide) (⟨by rw [q], N89, eq89⟩)
theorem pn_rmVES : plainName "com/example/quorum/quorum/ValidationFailure" = true := by first | (simp [plainName, overriddenIn]; done) | decide +kernel
theorem ef_rmVES (m : MethodId) (x0 : Addr) (x1 : Addr) : entryFrame m #[(.ref x0), (.ref x1)] 3 = mkF m 0 #[.val (.ref x0), .val (.ref x1), .unset] [] := by first | (simp [entryFrame, mkF, argsToLocals, Value.category, maxLocals]; done) | rfl
def Q_rmVES (Z : State) (a : Addr) (b : Addr) (h0 : Heap) (n0 : Nat) (v : Option Value) (h : Heap) (L : List Loc) : Prop := v = some (.int 0) ∧ Fr n0 L ∧ h = h0
set_option maxRecDepth 65536 in
set_option maxHeartbeats 40000000 in
theorem rmVES (l : Launch) (Z : State) (a0 : Array Value) (hw : ∀ d ∈ tables_1, d.before a0 Z = true) (ws : List Jvm.Cond) (a : Addr) (b : Addr) (h0 : Heap) (n0 : Nat) (Z0 : n0 ≤ h0.size) (E_b : Exa Z h0 b "java/lang/String") :
    MetFree l (⟨"com/example/quorum/quorum/ValidationFailure", "equals", "(Ljava/lang/Object;)Z"⟩ : MethodName) (head1 (Jvm.Cond.code (⟨"com/example/quorum/quorum/ValidationFailure", "equals", "(Ljava/lang/Object;)Z"⟩ : MethodName) prog_119_method_5_code 3 (some .boolean) :: ws) ({ frames := 2, cells := 0, slots := 0, locals := 28 } : Room)) (fun as1 U => as1 = #[(.ref a), (.ref b)] ∧ Z.Warmed39 U.vm ∧ U.heap = h0) (fun _ _ _ _ _ => True) (fun _ U o U' => ∃ v L, o = .returned v ∧ Q_rmVES Z a b h0 n0 v U'.heap L ∧ FrameEnd U o U' L ({ frames := 2, cells := 0, slots := 0, locals := 28 } : Room).cells ({ frames := 2, cells := 0, slots := 0, locals := 28 } : Room).slots) := by
  refine MetFree.of_bodySF (plainFor_of_name pn_rmVES) hisR ?_
  intro p e s m args below meth c s₁ Bd hml0 hP hK
  obtain ⟨rfl, hZ, hh⟩ := hP
  have hx := Bd.exec
  have hby := Bd.bytes
  have hml : c.maxLocals = 3 := hml0
  have hown : s.vm.findClass "com/example/quorum/quorum/ValidationFailure" = some m.cls := findClass_of_methodNamed Bd.named
  have hnm := (name_of_methodNamed Bd.named Bd.method).1
  have X0 : Stand p l e ({ frames := 2, cells := 0, slots := 0, locals := 28 } : Room) s m #[(.ref a), (.ref b)] below meth c s₁ [] 0 0 := Stand.of_body Bd
  have e0 : s₁.heap = h0 := by rw [← hh, Bd.state]; rfl
  have N0 := Fr.nil n0
  show own_Ends p e s below (Q_rmVES Z a b h0 n0) ({ frames := 2, cells := 0, slots := 0, locals := 28 } : Room).cells ({ frames := 2, cells := 0, slots := 0, locals := 28 } : Room).slots (s₁.setTop (entryFrame m #[(.ref a), (.ref b)] 3))
  refine own_st (U' := (s₁.setTop (mkF m 0 #[.val (.ref a), .val (.ref b), .unset] []))) (fun _ k => castTop (ef_rmVES m a b) k) ?_
  refine own_st (U' := (s₁.setTop (mkF m 1 #[.val (.ref a), .val (.ref b), .unset] [(.ref b)]))) (fun _ k => XS.aloadN X0.here hx rfl (hb hby d13_0) rfl rfl k) ?_
  obtain ⟨T96, X96, e96, st96⟩ := instNo X0 hx hZ hown (hw _ (List.mem_of_getElem? (i := 75) rfl)) e0 E_b (own_notVF hw) (g := (mkF m 1 #[.val (.ref a), .val (.ref b), .unset] [(.ref b)])) rfl rfl (hb hby d13_1)
  refine own_st (U' := (T96.setTop (mkF m 4 #[.val (.ref a), .val (.ref b), .unset] [(.int (0 : Int32))]))) st96 ?_
  refine own_st (U' := (T96.setTop (mkF m 58 #[.val (.ref a), .val (.ref b), .unset] []))) (fun _ k => XS.ifYes X96.here hx rfl (pc0 := 4) (pc' := 58) rfl (hb hby d13_4) rfl ((if0 _ _).trans (teq rfl).1) (by decide) (by decide) k) ?_
  refine own_st (U' := (T96.setTop (mkF m 59 #[.val (.ref a), .val (.ref b), .unset] [(.int (0 : Int32))]))) (fun _ k => XS.iconst X96.here hx rfl (hb hby d13_58) k) ?_
  exact own_retN X96 hx (t := .boolean) Bd.returns Bd.notSynchronized (by simp) rfl (hb hby d13_59) (by decide) (by decide) (⟨rfl, N0, e96⟩)
theorem pn_rmVEN : plainName "com/example/quorum/quorum/ValidationFailure" = true := by first | (simp [plainName, overriddenIn]; done) | decide +kernel
theorem ef_rmVEN (m : MethodId) (x0 : Addr) : entryFrame m #[(.ref x0), .null] 3 = mkF m 0 #[.val (.ref x0), .val .null, .unset] [] := by first | (simp [entryFrame, mkF, argsToLocals, Value.category, maxLocals]; done) | rfl
def Q_rmVEN (Z : State) (a : Addr) (h0 : Heap) (n0 : Nat) (v : Option Value) (h : Heap) (L : List Loc) : Prop := v = some (.int 0) ∧ Fr n0 L ∧ h = h0
set_option maxRecDepth 65536 in
set_option maxHeartbeats 40000000 in
theorem rmVEN (l : Launch) (Z : State) (a0 : Array Value) (hw : ∀ d ∈ tables_1, d.before a0 Z = true) (ws : List Jvm.Cond) (a : Addr) (h0 : Heap) (n0 : Nat) (Z0 : n0 ≤ h0.size)  :
    MetFree l (⟨"com/example/quorum/quorum/ValidationFailure", "equals", "(Ljava/lang/Object;)Z"⟩ : MethodName) (head1 (Jvm.Cond.code (⟨"com/example/quorum/quorum/ValidationFailure", "equals", "(Ljava/lang/Object;)Z"⟩ : MethodName) prog_119_method_5_code 3 (some .boolean) :: ws) ({ frames := 2, cells := 0, slots := 0, locals := 28 } : Room)) (fun as1 U => as1 = #[(.ref a), .null] ∧ Z.Warmed39 U.vm ∧ U.heap = h0) (fun _ _ _ _ _ => True) (fun _ U o U' => ∃ v L, o = .returned v ∧ Q_rmVEN Z a h0 n0 v U'.heap L ∧ FrameEnd U o U' L ({ frames := 2, cells := 0, slots := 0, locals := 28 } : Room).cells ({ frames := 2, cells := 0, slots := 0, locals := 28 } : Room).slots) := by
  refine MetFree.of_bodySF (plainFor_of_name pn_rmVEN) hisR ?_
  intro p e s m args below meth c s₁ Bd hml0 hP hK
  obtain ⟨rfl, hZ, hh⟩ := hP
  have hx := Bd.exec
  have hby := Bd.bytes
  have hml : c.maxLocals = 3 := hml0
  have hown : s.vm.findClass "com/example/quorum/quorum/ValidationFailure" = some m.cls := findClass_of_methodNamed Bd.named
  have hnm := (name_of_methodNamed Bd.named Bd.method).1
  have X0 : Stand p l e ({ frames := 2, cells := 0, slots := 0, locals := 28 } : Room) s m #[(.ref a), .null] below meth c s₁ [] 0 0 := Stand.of_body Bd
  have e0 : s₁.heap = h0 := by rw [← hh, Bd.state]; rfl
  have N0 := Fr.nil n0
  show own_Ends p e s below (Q_rmVEN Z a h0 n0) ({ frames := 2, cells := 0, slots := 0, locals := 28 } : Room).cells ({ frames := 2, cells := 0, slots := 0, locals := 28 } : Room).slots (s₁.setTop (entryFrame m #[(.ref a), .null] 3))
  refine own_st (U' := (s₁.setTop (mkF m 0 #[.val (.ref a), .val .null, .unset] []))) (fun _ k => castTop (ef_rmVEN m a) k) ?_
  refine own_st (U' := (s₁.setTop (mkF m 1 #[.val (.ref a), .val .null, .unset] [.null]))) (fun _ k => XS.aloadN X0.here hx rfl (hb hby d13_0) rfl rfl k) ?_
  refine own_st (U' := (s₁.setTop (mkF m 4 #[.val (.ref a), .val .null, .unset] [(.int (0 : Int32))]))) (Jvm.Stand.instanceofNull X0 hx (g := (mkF m 1 #[.val (.ref a), .val .null, .unset] [.null])) rfl rfl (hb hby d13_1)) ?_
  refine own_st (U' := (s₁.setTop (mkF m 58 #[.val (.ref a), .val .null, .unset] []))) (fun _ k => XS.ifYes X0.here hx rfl (pc0 := 4) (pc' := 58) rfl (hb hby d13_4) rfl ((if0 _ _).trans (teq rfl).1) (by decide) (by decide) k) ?_
  refine own_st (U' := (s₁.setTop (mkF m 59 #[.val (.ref a), .val .null, .unset] [(.int (0 : Int32))]))) (fun _ k => XS.iconst X0.here hx rfl (hb hby d13_58) k) ?_
  exact own_retN X0 hx (t := .boolean) Bd.returns Bd.notSynchronized (by simp) rfl (hb hby d13_59) (by decide) (by decide) (⟨rfl, N0, e0⟩)
theorem pn_rm0 : plainName "com/example/quorum/quorum/ValidationFailureEqualsPinLaw" = true := by first | (simp [plainName, overriddenIn]; done) | decide +kernel
theorem ef_rm0 (m : MethodId) (x0 : Int64) (x1 : Int64) (x2 : Int64) (x3 : Int32) : entryFrame m #[(.long x0), (.long x1), (.long x2), (.int x3)] maxLocals = mkF m 0 #[.val (.long x0), .second, .val (.long x1), .second, .val (.long x2), .second, .val (.int x3), .unset, .unset, .unset, .unset, .unset, .unset, .unset, .unset, .unset, .unset, .unset, .unset, .unset, .unset] [] := by first | (simp [entryFrame, mkF, argsToLocals, Value.category, maxLocals]; done) | rfl
def Q_rm0 (Z : State) (i0 : Int64) (i1 : Int64) (i2 : Int64) (i3 : Int32) (z0 : Int32) (h0 : Heap) (n0 : Nat) (v : Option Value) (h : Heap) (L : List Loc) : Prop := v = some (.int 1) ∧ Fr n0 L
set_option maxRecDepth 65536 in
set_option maxHeartbeats 40000000 in
theorem rm0 (l : Launch) (Z : State) (a0 : Array Value) (hw : ∀ d ∈ tables_1, d.before a0 Z = true) (hEL : EW Z a0 own_EL) (ws : List Jvm.Cond) (i0 : Int64) (i1 : Int64) (i2 : Int64) (i3 : Int32) (z0 : Int32) (h0 : Heap) (n0 : Nat) (Z0 : n0 ≤ h0.size) (O : Old Z n0 h0) (S0 : Sta Z Z.heap "java/lang/String" "COMPACT_STRINGS" "Z" (.int z0)) (hz0 : ¬ z0 = 0) :
    MetFree l x (head1 (Jvm.Cond.code x code maxLocals ret :: ws) room_1) (fun as1 U => as1 = #[(.long i0), (.long i1), (.long i2), (.int i3)] ∧ Z.Warmed39 U.vm ∧ U.heap = h0 ∧ CHv Z own_EL U.vm h0) (fun _ _ _ _ _ => True) (fun _ U o U' => ∃ v L, o = .returned v ∧ Q_rm0 Z i0 i1 i2 i3 z0 h0 n0 v U'.heap L ∧ CHr Z own_EL U.vm U.heap U'.vm U'.heap ∧ ReturnedEndW U o U' L 72 4352) := by
  refine MetFree.of_bodySF (plainFor_of_name pn_rm0) hisR ?_
  intro p e s m args below meth c s₁ Bd hml0 hP hK
  obtain ⟨rfl, hZ, hh, hH⟩ := hP
  have hx := Bd.exec
  have hby := Bd.bytes
  have hml : c.maxLocals = 21 := hml0
  have hown : (s.setVm s.vm).vm.findClass "com/example/quorum/quorum/ValidationFailureEqualsPinLaw" = some m.cls := findClass_of_methodNamed Bd.named
  have hnm := (name_of_methodNamed Bd.named Bd.method).1
  have X0 : Stand p l e room_1 (s.setVm s.vm) m #[(.long i0), (.long i1), (.long i2), (.int i3)] below meth c s₁ [] 0 0 := Stand.of_body Bd
  have e0 : s₁.heap = h0 := by rw [← hh, Bd.state]; rfl
  have N0 := Fr.nil n0
  have hZ : Z.Warmed39 (s.setVm s.vm).vm := hZ
  have hS : s.Since s.vm h0.size := (State.WarmedH.refl s).since _
  have hk : h0.size ≤ h0.size := Nat.le_refl _
  have C0 : CHr Z own_EL s.vm h0 s.vm h0 := CHr.refl hH
  show own_EndW p e s below Z own_EL s.heap (Q_rm0 Z i0 i1 i2 i3 z0 h0 n0) 72 4352 (s₁.setTop (entryFrame m #[(.long i0), (.long i1), (.long i2), (.int i3)] maxLocals))
  rw [hh]
  refine own_stW (U' := (s₁.setTop (mkF m 0 #[.val (.long i0), .second, .val (.long i1), .second, .val (.long i2), .second, .val (.int i3), .unset, .unset, .unset, .unset, .unset, .unset, .unset, .unset, .unset, .unset, .unset, .unset, .unset, .unset] []))) (fun _ k => castTop (ef_rm0 m i0 i1 i2 i3) k) ?_
  refine own_stW (U' := (s₁.setTop (mkF m 1 #[.val (.long i0), .second, .val (.long i1), .second, .val (.long i2), .second, .val (.int i3), .unset, .unset, .unset, .unset, .unset, .unset, .unset, .unset, .unset, .unset, .unset, .unset, .unset, .unset] [(.long i0)]))) (fun _ k => XS.lloadN X0.here hx rfl (hb hby at_0) rfl k) ?_
  obtain ⟨_, _, ⟨T97, L97, k97, n97⟩, -, X97, ⟨Lc97, hQ97, l97, y97, z97⟩, st97⟩ := Jvm.LawKit.callS X0 hx (y := (⟨"com/example/quorum/quorum/ValidationFailureEqualsPinLaw", "field", "(J)[I"⟩ : MethodName)) hown (mvT hZ (hw _ (List.mem_of_getElem? (i := 0) rfl))) (mvT hZ (hw _ (List.mem_of_getElem? (i := 1) rfl))) (mvT hZ (hw _ (List.mem_of_getElem? (i := 2) rfl))) (mvT hZ (hw _ (List.mem_of_getElem? (i := 3) rfl))) (by decide) (backOf (W := 0) (rmField l Z a0 hw [] i0 h0 n0 Z0) hZ (hw _ (List.mem_of_getElem? (i := 3) rfl)) (hw _ (List.mem_of_getElem? (i := 2) rfl)) (by decide) (by decide)) (g := (mkF m 1 #[.val (.long i0), .second, .val (.long i1), .second, .val (.long i2), .second, .val (.int i3), .unset, .unset, .unset, .unset, .unset, .unset, .unset, .unset, .unset, .unset, .unset, .unset, .unset, .unset] [(.long i0)])) rfl (by rw [hml]; rfl) (argsL := [(.long i0)]) (rest := []) (lenOf (pd_d1) rfl) rfl (by show 2 * 0 + _ ≤ _; exact Nat.le_of_eq rfl) (hb hby at_1) (fun _ _ => ⟨rfl, e0, (Nat.le_of_ble_eq_true rfl), (Nat.le_of_ble_eq_true rfl)⟩)
  dsimp only [Pt.U, Pt.locs, Pt.cells, Pt.slots] at X97 l97 y97 z97 st97 hQ97
  subst l97 y97 z97
  obtain ⟨r0, l0, c0, d0, m0, f0, g0, rfl, Nq97, Kq97, sz97, hF0, V_r0⟩ := hQ97
  have O := O.keep Kq97 all0
  have C98k := C0.trans (CHr.keep Kq97 all0 C0.1)
  have hk := Nat.le_trans hk Kq97.1
  have N97 := Fr.app N0 Nq97
  have Z97 : n0 ≤ T97.heap.size := Nat.le_trans Z0 Kq97.1
  refine own_stW (U' := (T97.setTop (mkF m 4 #[.val (.long i0), .second, .val (.long i1), .second, .val (.long i2), .second, .val (.int i3), .unset, .unset, .unset, .unset, .unset, .unset, .unset, .unset, .unset, .unset, .unset, .unset, .unset, .unset] [(.ref r0)]))) st97 ?_
  refine own_stW (U' := (T97.setTop (mkF m 6 #[.val (.long i0), .second, .val (.long i1), .second, .val (.long i2), .second, .val (.int i3), .val (.ref r0), .unset, .unset, .unset, .unset, .unset, .unset, .unset, .unset, .unset, .unset, .unset, .unset, .unset] []))) (fun _ k => XS.astore X97.here hx rfl (hb hby at_4) rfl rfl (l' := #[.val (.long i0), .second, .val (.long i1), .second, .val (.long i2), .second, .val (.int i3), .val (.ref r0), .unset, .unset, .unset, .unset, .unset, .unset, .unset, .unset, .unset, .unset, .unset, .unset, .unset]) rfl k) ?_
  refine own_stW (U' := (T97.setTop (mkF m 7 #[.val (.long i0), .second, .val (.long i1), .second, .val (.long i2), .second, .val (.int i3), .val (.ref r0), .unset, .unset, .unset, .unset, .unset, .unset, .unset, .unset, .unset, .unset, .unset, .unset, .unset] [(.long i1)]))) (fun _ k => XS.lloadN X97.here hx rfl (hb hby at_6) rfl k) ?_
  obtain ⟨_, _, ⟨T99, L99, k99, n99⟩, -, X99, ⟨Lc99, hQ99, l99, y99, z99⟩, st99⟩ := Jvm.LawKit.callS X97 hx (y := (⟨"com/example/quorum/quorum/ValidationFailureEqualsPinLaw", "field", "(J)[I"⟩ : MethodName)) hown (mvT hZ (hw _ (List.mem_of_getElem? (i := 0) rfl))) (mvT hZ (hw _ (List.mem_of_getElem? (i := 1) rfl))) (mvT hZ (hw _ (List.mem_of_getElem? (i := 2) rfl))) (mvT hZ (hw _ (List.mem_of_getElem? (i := 3) rfl))) (by decide) (backOf (W := 0) (rmField l Z a0 hw [] i1 T97.heap n0 Z97) hZ (hw _ (List.mem_of_getElem? (i := 3) rfl)) (hw _ (List.mem_of_getElem? (i := 2) rfl)) (by decide) (by decide)) (g := (mkF m 7 #[.val (.long i0), .second, .val (.long i1), .second, .val (.long i2), .second, .val (.int i3), .val (.ref r0), .unset, .unset, .unset, .unset, .unset, .unset, .unset, .unset, .unset, .unset, .unset, .unset, .unset] [(.long i1)])) rfl (by rw [hml]; rfl) (argsL := [(.long i1)]) (rest := []) (lenOf (pd_d1) rfl) rfl (by show 2 * 0 + _ ≤ _; exact Nat.le_of_eq rfl) (hb hby at_7) (fun _ _ => ⟨rfl, rfl, (Nat.le_of_ble_eq_true rfl), (Nat.le_of_ble_eq_true rfl)⟩)
  dsimp only [Pt.U, Pt.locs, Pt.cells, Pt.slots] at X99 l99 y99 z99 st99 hQ99
  subst l99 y99 z99
  obtain ⟨r1, l1, c1, d1, m1, f1, g1, rfl, Nq99, Kq99, sz99, hF1, V_r1⟩ := hQ99
  have O := O.keep Kq99 all0
  have C100k := C98k.trans (CHr.keep Kq99 all0 C98k.1)
  have hk := Nat.le_trans hk Kq99.1
  have V_r0 := V_r0.keep Kq99 nin0
  have N99 := Fr.app N97 Nq99
  have Z99 : n0 ≤ T99.heap.size := Nat.le_trans Z97 Kq99.1
  refine own_stW (U' := (T99.setTop (mkF m 10 #[.val (.long i0), .second, .val (.long i1), .second, .val (.long i2), .second, .val (.int i3), .val (.ref r0), .unset, .unset, .unset, .unset, .unset, .unset, .unset, .unset, .unset, .unset, .unset, .unset, .unset] [(.ref r1)]))) st99 ?_
  refine own_stW (U' := (T99.setTop (mkF m 12 #[.val (.long i0), .second, .val (.long i1), .second, .val (.long i2), .second, .val (.int i3), .val (.ref r0), .val (.ref r1), .unset, .unset, .unset, .unset, .unset, .unset, .unset, .unset, .unset, .unset, .unset, .unset] []))) (fun _ k => XS.astore X99.here hx rfl (hb hby at_10) rfl rfl (l' := #[.val (.long i0), .second, .val (.long i1), .second, .val (.long i2), .second, .val (.int i3), .val (.ref r0), .val (.ref r1), .unset, .unset, .unset, .unset, .unset, .unset, .unset, .unset, .unset, .unset, .unset, .unset]) rfl k) ?_
  refine own_stW (U' := (T99.setTop (mkF m 14 #[.val (.long i0), .second, .val (.long i1), .second, .val (.long i2), .second, .val (.int i3), .val (.ref r0), .val (.ref r1), .unset, .unset, .unset, .unset, .unset, .unset, .unset, .unset, .unset, .unset, .unset, .unset] [(.long i2)]))) (fun _ k => XS.lload X99.here hx rfl (hb hby at_12) rfl k) ?_
  obtain ⟨_, _, ⟨T101, L101, k101, n101⟩, -, X101, ⟨Lc101, hQ101, l101, y101, z101⟩, st101⟩ := Jvm.LawKit.callS X99 hx (y := (⟨"com/example/quorum/quorum/ValidationFailureEqualsPinLaw", "field", "(J)[I"⟩ : MethodName)) hown (mvT hZ (hw _ (List.mem_of_getElem? (i := 0) rfl))) (mvT hZ (hw _ (List.mem_of_getElem? (i := 1) rfl))) (mvT hZ (hw _ (List.mem_of_getElem? (i := 2) rfl))) (mvT hZ (hw _ (List.mem_of_getElem? (i := 3) rfl))) (by decide) (backOf (W := 0) (rmField l Z a0 hw [] i2 T99.heap n0 Z99) hZ (hw _ (List.mem_of_getElem? (i := 3) rfl)) (hw _ (List.mem_of_getElem? (i := 2) rfl)) (by decide) (by decide)) (g := (mkF m 14 #[.val (.long i0), .second, .val (.long i1), .second, .val (.long i2), .second, .val (.int i3), .val (.ref r0), .val (.ref r1), .unset, .unset, .unset, .unset, .unset, .unset, .unset, .unset, .unset, .unset, .unset, .unset] [(.long i2)])) rfl (by rw [hml]; rfl) (argsL := [(.long i2)]) (rest := []) (lenOf (pd_d1) rfl) rfl (by show 2 * 0 + _ ≤ _; exact Nat.le_of_eq rfl) (hb hby at_14) (fun _ _ => ⟨rfl, rfl, (Nat.le_of_ble_eq_true rfl), (Nat.le_of_ble_eq_true rfl)⟩)
  dsimp only [Pt.U, Pt.locs, Pt.cells, Pt.slots] at X101 l101 y101 z101 st101 hQ101
  subst l101 y101 z101
  obtain ⟨r2, l2, c2, d2, m2, f2, g2, rfl, Nq101, Kq101, sz101, hF2, V_r2⟩ := hQ101
  have O := O.keep Kq101 all0
  have C102k := C100k.trans (CHr.keep Kq101 all0 C100k.1)
  have hk := Nat.le_trans hk Kq101.1
  have V_r0 := V_r0.keep Kq101 nin0
  have V_r1 := V_r1.keep Kq101 nin0
  have N101 := Fr.app N99 Nq101
  have Z101 : n0 ≤ T101.heap.size := Nat.le_trans Z99 Kq101.1
  refine own_stW (U' := (T101.setTop (mkF m 17 #[.val (.long i0), .second, .val (.long i1), .second, .val (.long i2), .second, .val (.int i3), .val (.ref r0), .val (.ref r1), .unset, .unset, .unset, .unset, .unset, .unset, .unset, .unset, .unset, .unset, .unset, .unset] [(.ref r2)]))) st101 ?_
  refine own_stW (U' := (T101.setTop (mkF m 19 #[.val (.long i0), .second, .val (.long i1), .second, .val (.long i2), .second, .val (.int i3), .val (.ref r0), .val (.ref r1), .val (.ref r2), .unset, .unset, .unset, .unset, .unset, .unset, .unset, .unset, .unset, .unset, .unset] []))) (fun _ k => XS.astore X101.here hx rfl (hb hby at_17) rfl rfl (l' := #[.val (.long i0), .second, .val (.long i1), .second, .val (.long i2), .second, .val (.int i3), .val (.ref r0), .val (.ref r1), .val (.ref r2), .unset, .unset, .unset, .unset, .unset, .unset, .unset, .unset, .unset, .unset, .unset]) rfl k) ?_
  refine own_stW (U' := (T101.setTop (mkF m 21 #[.val (.long i0), .second, .val (.long i1), .second, .val (.long i2), .second, .val (.int i3), .val (.ref r0), .val (.ref r1), .val (.ref r2), .unset, .unset, .unset, .unset, .unset, .unset, .unset, .unset, .unset, .unset, .unset] [(.ref r0)]))) (fun _ k => XS.aload X101.here hx rfl (hb hby at_19) rfl rfl k) ?_
  refine own_stW (U' := (T101.setTop (mkF m 22 #[.val (.long i0), .second, .val (.long i1), .second, .val (.long i2), .second, .val (.int i3), .val (.ref r0), .val (.ref r1), .val (.ref r2), .unset, .unset, .unset, .unset, .unset, .unset, .unset, .unset, .unset, .unset, .unset] [(.int (0 : Int32)), (.ref r0)]))) (fun _ k => XS.iconst X101.here hx rfl (hb hby at_21) k) ?_
  refine own_stW (U' := (T101.setTop (mkF m 23 #[.val (.long i0), .second, .val (.long i1), .second, .val (.long i2), .second, .val (.int i3), .val (.ref r0), .val (.ref r1), .val (.ref r2), .unset, .unset, .unset, .unset, .unset, .unset, .unset, .unset, .unset, .unset, .unset] [(.int l0)]))) (own_ldI X101 hx hZ rfl V_r0 (j := (0 : Int32)) (i := 0) (by decide) rfl (by decide) (v := (.int l0)) rfl (g := (mkF m 22 #[.val (.long i0), .second, .val (.long i1), .second, .val (.long i2), .second, .val (.int i3), .val (.ref r0), .val (.ref r1), .val (.ref r2), .unset, .unset, .unset, .unset, .unset, .unset, .unset, .unset, .unset, .unset, .unset] [(.int (0 : Int32)), (.ref r0)])) rfl rfl (hb hby at_22)) ?_
  refine own_stW (U' := (T101.setTop (mkF m 25 #[.val (.long i0), .second, .val (.long i1), .second, .val (.long i2), .second, .val (.int i3), .val (.ref r0), .val (.ref r1), .val (.ref r2), .unset, .unset, .unset, .unset, .unset, .unset, .unset, .unset, .unset, .unset, .unset] [(.ref r0), (.int l0)]))) (fun _ k => XS.aload X101.here hx rfl (hb hby at_23) rfl rfl k) ?_
  refine own_stW (U' := (T101.setTop (mkF m 26 #[.val (.long i0), .second, .val (.long i1), .second, .val (.long i2), .second, .val (.int i3), .val (.ref r0), .val (.ref r1), .val (.ref r2), .unset, .unset, .unset, .unset, .unset, .unset, .unset, .unset, .unset, .unset, .unset] [(.int (1 : Int32)), (.ref r0), (.int l0)]))) (fun _ k => XS.iconst X101.here hx rfl (hb hby at_25) k) ?_
  refine own_stW (U' := (T101.setTop (mkF m 27 #[.val (.long i0), .second, .val (.long i1), .second, .val (.long i2), .second, .val (.int i3), .val (.ref r0), .val (.ref r1), .val (.ref r2), .unset, .unset, .unset, .unset, .unset, .unset, .unset, .unset, .unset, .unset, .unset] [(.int c0), (.int l0)]))) (own_ldI X101 hx hZ rfl V_r0 (j := (1 : Int32)) (i := 1) (by decide) rfl (by decide) (v := (.int c0)) rfl (g := (mkF m 26 #[.val (.long i0), .second, .val (.long i1), .second, .val (.long i2), .second, .val (.int i3), .val (.ref r0), .val (.ref r1), .val (.ref r2), .unset, .unset, .unset, .unset, .unset, .unset, .unset, .unset, .unset, .unset, .unset] [(.int (1 : Int32)), (.ref r0), (.int l0)])) rfl rfl (hb hby at_26)) ?_
  refine own_stW (U' := (T101.setTop (mkF m 29 #[.val (.long i0), .second, .val (.long i1), .second, .val (.long i2), .second, .val (.int i3), .val (.ref r0), .val (.ref r1), .val (.ref r2), .unset, .unset, .unset, .unset, .unset, .unset, .unset, .unset, .unset, .unset, .unset] [(.ref r0), (.int c0), (.int l0)]))) (fun _ k => XS.aload X101.here hx rfl (hb hby at_27) rfl rfl k) ?_
  refine own_stW (U' := (T101.setTop (mkF m 30 #[.val (.long i0), .second, .val (.long i1), .second, .val (.long i2), .second, .val (.int i3), .val (.ref r0), .val (.ref r1), .val (.ref r2), .unset, .unset, .unset, .unset, .unset, .unset, .unset, .unset, .unset, .unset, .unset] [(.int (2 : Int32)), (.ref r0), (.int c0), (.int l0)]))) (fun _ k => XS.iconst X101.here hx rfl (hb hby at_29) k) ?_
  refine own_stW (U' := (T101.setTop (mkF m 31 #[.val (.long i0), .second, .val (.long i1), .second, .val (.long i2), .second, .val (.int i3), .val (.ref r0), .val (.ref r1), .val (.ref r2), .unset, .unset, .unset, .unset, .unset, .unset, .unset, .unset, .unset, .unset, .unset] [(.int d0), (.int c0), (.int l0)]))) (own_ldI X101 hx hZ rfl V_r0 (j := (2 : Int32)) (i := 2) (by decide) rfl (by decide) (v := (.int d0)) rfl (g := (mkF m 30 #[.val (.long i0), .second, .val (.long i1), .second, .val (.long i2), .second, .val (.int i3), .val (.ref r0), .val (.ref r1), .val (.ref r2), .unset, .unset, .unset, .unset, .unset, .unset, .unset, .unset, .unset, .unset, .unset] [(.int (2 : Int32)), (.ref r0), (.int c0), (.int l0)])) rfl rfl (hb hby at_30)) ?_
  obtain ⟨_, _, ⟨T103, L103, k103, n103⟩, -, X103, hS103, gr103, ⟨Lc103, hQ103, l103, y103, z103, C103q⟩, st103⟩ := callSS X101 hx (y := (⟨"com/example/quorum/quorum/ValidationFailureEqualsPinLaw", "mk", "(III)Ljava/lang/String;"⟩ : MethodName)) hown (mvT hZ (hw _ (List.mem_of_getElem? (i := 13) rfl))) (mvT hZ (hw _ (List.mem_of_getElem? (i := 14) rfl))) (mvT hZ (hw _ (List.mem_of_getElem? (i := 2) rfl))) (mvT hZ (hw _ (List.mem_of_getElem? (i := 15) rfl))) (by decide) (backOfSH (W := 0) (rmMk l Z a0 hw hEL [] l0 c0 d0 z0 T101.heap n0 Z101 hF0.2.2.1 hF0.2.2.2.1 O S0 hz0) hZ (hw _ (List.mem_of_getElem? (i := 15) rfl)) (hw _ (List.mem_of_getElem? (i := 2) rfl)) (by decide) (by decide) hEL C102k.1) (g := (mkF m 31 #[.val (.long i0), .second, .val (.long i1), .second, .val (.long i2), .second, .val (.int i3), .val (.ref r0), .val (.ref r1), .val (.ref r2), .unset, .unset, .unset, .unset, .unset, .unset, .unset, .unset, .unset, .unset, .unset] [(.int d0), (.int c0), (.int l0)])) rfl (by rw [hml]; rfl) (argsL := [(.int l0), (.int c0), (.int d0)]) (rest := []) (lenOf (pd_d4) rfl) rfl (by show 2 * 0 + _ ≤ _; exact Nat.le_of_eq rfl) (hb hby at_31) (fun _ _ => ⟨rfl, rfl, (Nat.le_of_ble_eq_true rfl), (Nat.le_of_ble_eq_true rfl)⟩)
  dsimp only [Pt.U, Pt.locs, Pt.cells, Pt.slots] at X103 l103 y103 z103 st103 hQ103 hS103 gr103 C103q
  subst l103 y103 z103
  obtain ⟨X103, hS, hZ, hown⟩ := rebS hS (show _ ≤ T101.heap.size by rw [show T101.heap = T101.heap from rfl]; exact hk) X103 hS103 gr103 hZ hown
  obtain ⟨x0, rfl, Nq103, Kq103, St0⟩ := hQ103
  have C103 := C102k.trans C103q
  have V_r0 := V_r0.keep Kq103 nin0
  have V_r1 := V_r1.keep Kq103 nin0
  have O := O.keep Kq103 all0
  have V_r2 := V_r2.keep Kq103 nin0
  have N103 := Fr.app N101 Nq103
  have Z103 : n0 ≤ T103.heap.size := Nat.le_trans Z101 Kq103.1
  have hk : T103.heap.size ≤ T103.heap.size := Nat.le_refl _
  refine own_trW (U' := (T103.setTop (mkF m 34 #[.val (.long i0), .second, .val (.long i1), .second, .val (.long i2), .second, .val (.int i3), .val (.ref r0), .val (.ref r1), .val (.ref r2), .unset, .unset, .unset, .unset, .unset, .unset, .unset, .unset, .unset, .unset, .unset] [(.ref x0)]))) st103 ?_
  refine own_stW (U' := (T103.setTop (mkF m 36 #[.val (.long i0), .second, .val (.long i1), .second, .val (.long i2), .second, .val (.int i3), .val (.ref r0), .val (.ref r1), .val (.ref r2), .val (.ref x0), .unset, .unset, .unset, .unset, .unset, .unset, .unset, .unset, .unset, .unset] []))) (fun _ k => XS.astore X103.here hx rfl (hb hby at_34) rfl rfl (l' := #[.val (.long i0), .second, .val (.long i1), .second, .val (.long i2), .second, .val (.int i3), .val (.ref r0), .val (.ref r1), .val (.ref r2), .val (.ref x0), .unset, .unset, .unset, .unset, .unset, .unset, .unset, .unset, .unset, .unset]) rfl k) ?_
  refine own_stW (U' := (T103.setTop (mkF m 38 #[.val (.long i0), .second, .val (.long i1), .second, .val (.long i2), .second, .val (.int i3), .val (.ref r0), .val (.ref r1), .val (.ref r2), .val (.ref x0), .unset, .unset, .unset, .unset, .unset, .unset, .unset, .unset, .unset, .unset] [(.ref r1)]))) (fun _ k => XS.aload X103.here hx rfl (hb hby at_36) rfl rfl k) ?_
  refine own_stW (U' := (T103.setTop (mkF m 39 #[.val (.long i0), .second, .val (.long i1), .second, .val (.long i2), .second, .val (.int i3), .val (.ref r0), .val (.ref r1), .val (.ref r2), .val (.ref x0), .unset, .unset, .unset, .unset, .unset, .unset, .unset, .unset, .unset, .unset] [(.int (0 : Int32)), (.ref r1)]))) (fun _ k => XS.iconst X103.here hx rfl (hb hby at_38) k) ?_
  refine own_stW (U' := (T103.setTop (mkF m 40 #[.val (.long i0), .second, .val (.long i1), .second, .val (.long i2), .second, .val (.int i3), .val (.ref r0), .val (.ref r1), .val (.ref r2), .val (.ref x0), .unset, .unset, .unset, .unset, .unset, .unset, .unset, .unset, .unset, .unset] [(.int l1)]))) (own_ldI X103 hx hZ rfl V_r1 (j := (0 : Int32)) (i := 0) (by decide) rfl (by decide) (v := (.int l1)) rfl (g := (mkF m 39 #[.val (.long i0), .second, .val (.long i1), .second, .val (.long i2), .second, .val (.int i3), .val (.ref r0), .val (.ref r1), .val (.ref r2), .val (.ref x0), .unset, .unset, .unset, .unset, .unset, .unset, .unset, .unset, .unset, .unset] [(.int (0 : Int32)), (.ref r1)])) rfl rfl (hb hby at_39)) ?_
  refine own_stW (U' := (T103.setTop (mkF m 42 #[.val (.long i0), .second, .val (.long i1), .second, .val (.long i2), .second, .val (.int i3), .val (.ref r0), .val (.ref r1), .val (.ref r2), .val (.ref x0), .unset, .unset, .unset, .unset, .unset, .unset, .unset, .unset, .unset, .unset] [(.ref r1), (.int l1)]))) (fun _ k => XS.aload X103.here hx rfl (hb hby at_40) rfl rfl k) ?_
  refine own_stW (U' := (T103.setTop (mkF m 43 #[.val (.long i0), .second, .val (.long i1), .second, .val (.long i2), .second, .val (.int i3), .val (.ref r0), .val (.ref r1), .val (.ref r2), .val (.ref x0), .unset, .unset, .unset, .unset, .unset, .unset, .unset, .unset, .unset, .unset] [(.int (1 : Int32)), (.ref r1), (.int l1)]))) (fun _ k => XS.iconst X103.here hx rfl (hb hby at_42) k) ?_
  refine own_stW (U' := (T103.setTop (mkF m 44 #[.val (.long i0), .second, .val (.long i1), .second, .val (.long i2), .second, .val (.int i3), .val (.ref r0), .val (.ref r1), .val (.ref r2), .val (.ref x0), .unset, .unset, .unset, .unset, .unset, .unset, .unset, .unset, .unset, .unset] [(.int c1), (.int l1)]))) (own_ldI X103 hx hZ rfl V_r1 (j := (1 : Int32)) (i := 1) (by decide) rfl (by decide) (v := (.int c1)) rfl (g := (mkF m 43 #[.val (.long i0), .second, .val (.long i1), .second, .val (.long i2), .second, .val (.int i3), .val (.ref r0), .val (.ref r1), .val (.ref r2), .val (.ref x0), .unset, .unset, .unset, .unset, .unset, .unset, .unset, .unset, .unset, .unset] [(.int (1 : Int32)), (.ref r1), (.int l1)])) rfl rfl (hb hby at_43)) ?_
  refine own_stW (U' := (T103.setTop (mkF m 46 #[.val (.long i0), .second, .val (.long i1), .second, .val (.long i2), .second, .val (.int i3), .val (.ref r0), .val (.ref r1), .val (.ref r2), .val (.ref x0), .unset, .unset, .unset, .unset, .unset, .unset, .unset, .unset, .unset, .unset] [(.ref r1), (.int c1), (.int l1)]))) (fun _ k => XS.aload X103.here hx rfl (hb hby at_44) rfl rfl k) ?_
  refine own_stW (U' := (T103.setTop (mkF m 47 #[.val (.long i0), .second, .val (.long i1), .second, .val (.long i2), .second, .val (.int i3), .val (.ref r0), .val (.ref r1), .val (.ref r2), .val (.ref x0), .unset, .unset, .unset, .unset, .unset, .unset, .unset, .unset, .unset, .unset] [(.int (2 : Int32)), (.ref r1), (.int c1), (.int l1)]))) (fun _ k => XS.iconst X103.here hx rfl (hb hby at_46) k) ?_
  refine own_stW (U' := (T103.setTop (mkF m 48 #[.val (.long i0), .second, .val (.long i1), .second, .val (.long i2), .second, .val (.int i3), .val (.ref r0), .val (.ref r1), .val (.ref r2), .val (.ref x0), .unset, .unset, .unset, .unset, .unset, .unset, .unset, .unset, .unset, .unset] [(.int d1), (.int c1), (.int l1)]))) (own_ldI X103 hx hZ rfl V_r1 (j := (2 : Int32)) (i := 2) (by decide) rfl (by decide) (v := (.int d1)) rfl (g := (mkF m 47 #[.val (.long i0), .second, .val (.long i1), .second, .val (.long i2), .second, .val (.int i3), .val (.ref r0), .val (.ref r1), .val (.ref r2), .val (.ref x0), .unset, .unset, .unset, .unset, .unset, .unset, .unset, .unset, .unset, .unset] [(.int (2 : Int32)), (.ref r1), (.int c1), (.int l1)])) rfl rfl (hb hby at_47)) ?_
  obtain ⟨_, _, ⟨T104, L104, k104, n104⟩, -, X104, hS104, gr104, ⟨Lc104, hQ104, l104, y104, z104, C104q⟩, st104⟩ := callSS X103 hx (y := (⟨"com/example/quorum/quorum/ValidationFailureEqualsPinLaw", "mk", "(III)Ljava/lang/String;"⟩ : MethodName)) hown (mvT hZ (hw _ (List.mem_of_getElem? (i := 13) rfl))) (mvT hZ (hw _ (List.mem_of_getElem? (i := 14) rfl))) (mvT hZ (hw _ (List.mem_of_getElem? (i := 2) rfl))) (mvT hZ (hw _ (List.mem_of_getElem? (i := 15) rfl))) (by decide) (backOfSH (W := 0) (rmMk l Z a0 hw hEL [] l1 c1 d1 z0 T103.heap n0 Z103 hF1.2.2.1 hF1.2.2.2.1 O S0 hz0) hZ (hw _ (List.mem_of_getElem? (i := 15) rfl)) (hw _ (List.mem_of_getElem? (i := 2) rfl)) (by decide) (by decide) hEL C103.1) (g := (mkF m 48 #[.val (.long i0), .second, .val (.long i1), .second, .val (.long i2), .second, .val (.int i3), .val (.ref r0), .val (.ref r1), .val (.ref r2), .val (.ref x0), .unset, .unset, .unset, .unset, .unset, .unset, .unset, .unset, .unset, .unset] [(.int d1), (.int c1), (.int l1)])) rfl (by rw [hml]; rfl) (argsL := [(.int l1), (.int c1), (.int d1)]) (rest := []) (lenOf (pd_d4) rfl) rfl (by show 2 * 0 + _ ≤ _; exact Nat.le_of_eq rfl) (hb hby at_48) (fun _ _ => ⟨rfl, rfl, (Nat.le_of_ble_eq_true rfl), (Nat.le_of_ble_eq_true rfl)⟩)
  dsimp only [Pt.U, Pt.locs, Pt.cells, Pt.slots] at X104 l104 y104 z104 st104 hQ104 hS104 gr104 C104q
  subst l104 y104 z104
  obtain ⟨X104, hS, hZ, hown⟩ := rebS hS (show _ ≤ T103.heap.size by rw [show T103.heap = T103.heap from rfl]; exact hk) X104 hS104 gr104 hZ hown
  obtain ⟨x1, rfl, Nq104, Kq104, St1⟩ := hQ104
  have C104 := C103.trans C104q
  have V_r0 := V_r0.keep Kq104 nin0
  have V_r1 := V_r1.keep Kq104 nin0
  have O := O.keep Kq104 all0
  have V_r2 := V_r2.keep Kq104 nin0
  have St0 := St0.keep Kq104 all0
  have N104 := Fr.app N103 Nq104
  have Z104 : n0 ≤ T104.heap.size := Nat.le_trans Z103 Kq104.1
  have hk : T104.heap.size ≤ T104.heap.size := Nat.le_refl _
  have St0 := St0.mono Kq104.1
  refine own_trW (U' := (T104.setTop (mkF m 51 #[.val (.long i0), .second, .val (.long i1), .second, .val (.long i2), .second, .val (.int i3), .val (.ref r0), .val (.ref r1), .val (.ref r2), .val (.ref x0), .unset, .unset, .unset, .unset, .unset, .unset, .unset, .unset, .unset, .unset] [(.ref x1)]))) st104 ?_
  refine own_stW (U' := (T104.setTop (mkF m 53 #[.val (.long i0), .second, .val (.long i1), .second, .val (.long i2), .second, .val (.int i3), .val (.ref r0), .val (.ref r1), .val (.ref r2), .val (.ref x0), .val (.ref x1), .unset, .unset, .unset, .unset, .unset, .unset, .unset, .unset, .unset] []))) (fun _ k => XS.astore X104.here hx rfl (hb hby at_51) rfl rfl (l' := #[.val (.long i0), .second, .val (.long i1), .second, .val (.long i2), .second, .val (.int i3), .val (.ref r0), .val (.ref r1), .val (.ref r2), .val (.ref x0), .val (.ref x1), .unset, .unset, .unset, .unset, .unset, .unset, .unset, .unset, .unset]) rfl k) ?_
  refine own_stW (U' := (T104.setTop (mkF m 55 #[.val (.long i0), .second, .val (.long i1), .second, .val (.long i2), .second, .val (.int i3), .val (.ref r0), .val (.ref r1), .val (.ref r2), .val (.ref x0), .val (.ref x1), .unset, .unset, .unset, .unset, .unset, .unset, .unset, .unset, .unset] [(.ref r2)]))) (fun _ k => XS.aload X104.here hx rfl (hb hby at_53) rfl rfl k) ?_
  refine own_stW (U' := (T104.setTop (mkF m 56 #[.val (.long i0), .second, .val (.long i1), .second, .val (.long i2), .second, .val (.int i3), .val (.ref r0), .val (.ref r1), .val (.ref r2), .val (.ref x0), .val (.ref x1), .unset, .unset, .unset, .unset, .unset, .unset, .unset, .unset, .unset] [(.int (0 : Int32)), (.ref r2)]))) (fun _ k => XS.iconst X104.here hx rfl (hb hby at_55) k) ?_
  refine own_stW (U' := (T104.setTop (mkF m 57 #[.val (.long i0), .second, .val (.long i1), .second, .val (.long i2), .second, .val (.int i3), .val (.ref r0), .val (.ref r1), .val (.ref r2), .val (.ref x0), .val (.ref x1), .unset, .unset, .unset, .unset, .unset, .unset, .unset, .unset, .unset] [(.int l2)]))) (own_ldI X104 hx hZ rfl V_r2 (j := (0 : Int32)) (i := 0) (by decide) rfl (by decide) (v := (.int l2)) rfl (g := (mkF m 56 #[.val (.long i0), .second, .val (.long i1), .second, .val (.long i2), .second, .val (.int i3), .val (.ref r0), .val (.ref r1), .val (.ref r2), .val (.ref x0), .val (.ref x1), .unset, .unset, .unset, .unset, .unset, .unset, .unset, .unset, .unset] [(.int (0 : Int32)), (.ref r2)])) rfl rfl (hb hby at_56)) ?_
  refine own_stW (U' := (T104.setTop (mkF m 59 #[.val (.long i0), .second, .val (.long i1), .second, .val (.long i2), .second, .val (.int i3), .val (.ref r0), .val (.ref r1), .val (.ref r2), .val (.ref x0), .val (.ref x1), .unset, .unset, .unset, .unset, .unset, .unset, .unset, .unset, .unset] [(.ref r2), (.int l2)]))) (fun _ k => XS.aload X104.here hx rfl (hb hby at_57) rfl rfl k) ?_
  refine own_stW (U' := (T104.setTop (mkF m 60 #[.val (.long i0), .second, .val (.long i1), .second, .val (.long i2), .second, .val (.int i3), .val (.ref r0), .val (.ref r1), .val (.ref r2), .val (.ref x0), .val (.ref x1), .unset, .unset, .unset, .unset, .unset, .unset, .unset, .unset, .unset] [(.int (1 : Int32)), (.ref r2), (.int l2)]))) (fun _ k => XS.iconst X104.here hx rfl (hb hby at_59) k) ?_
  refine own_stW (U' := (T104.setTop (mkF m 61 #[.val (.long i0), .second, .val (.long i1), .second, .val (.long i2), .second, .val (.int i3), .val (.ref r0), .val (.ref r1), .val (.ref r2), .val (.ref x0), .val (.ref x1), .unset, .unset, .unset, .unset, .unset, .unset, .unset, .unset, .unset] [(.int c2), (.int l2)]))) (own_ldI X104 hx hZ rfl V_r2 (j := (1 : Int32)) (i := 1) (by decide) rfl (by decide) (v := (.int c2)) rfl (g := (mkF m 60 #[.val (.long i0), .second, .val (.long i1), .second, .val (.long i2), .second, .val (.int i3), .val (.ref r0), .val (.ref r1), .val (.ref r2), .val (.ref x0), .val (.ref x1), .unset, .unset, .unset, .unset, .unset, .unset, .unset, .unset, .unset] [(.int (1 : Int32)), (.ref r2), (.int l2)])) rfl rfl (hb hby at_60)) ?_
  refine own_stW (U' := (T104.setTop (mkF m 63 #[.val (.long i0), .second, .val (.long i1), .second, .val (.long i2), .second, .val (.int i3), .val (.ref r0), .val (.ref r1), .val (.ref r2), .val (.ref x0), .val (.ref x1), .unset, .unset, .unset, .unset, .unset, .unset, .unset, .unset, .unset] [(.ref r2), (.int c2), (.int l2)]))) (fun _ k => XS.aload X104.here hx rfl (hb hby at_61) rfl rfl k) ?_
  refine own_stW (U' := (T104.setTop (mkF m 64 #[.val (.long i0), .second, .val (.long i1), .second, .val (.long i2), .second, .val (.int i3), .val (.ref r0), .val (.ref r1), .val (.ref r2), .val (.ref x0), .val (.ref x1), .unset, .unset, .unset, .unset, .unset, .unset, .unset, .unset, .unset] [(.int (2 : Int32)), (.ref r2), (.int c2), (.int l2)]))) (fun _ k => XS.iconst X104.here hx rfl (hb hby at_63) k) ?_
  refine own_stW (U' := (T104.setTop (mkF m 65 #[.val (.long i0), .second, .val (.long i1), .second, .val (.long i2), .second, .val (.int i3), .val (.ref r0), .val (.ref r1), .val (.ref r2), .val (.ref x0), .val (.ref x1), .unset, .unset, .unset, .unset, .unset, .unset, .unset, .unset, .unset] [(.int d2), (.int c2), (.int l2)]))) (own_ldI X104 hx hZ rfl V_r2 (j := (2 : Int32)) (i := 2) (by decide) rfl (by decide) (v := (.int d2)) rfl (g := (mkF m 64 #[.val (.long i0), .second, .val (.long i1), .second, .val (.long i2), .second, .val (.int i3), .val (.ref r0), .val (.ref r1), .val (.ref r2), .val (.ref x0), .val (.ref x1), .unset, .unset, .unset, .unset, .unset, .unset, .unset, .unset, .unset] [(.int (2 : Int32)), (.ref r2), (.int c2), (.int l2)])) rfl rfl (hb hby at_64)) ?_
  obtain ⟨_, _, ⟨T105, L105, k105, n105⟩, -, X105, hS105, gr105, ⟨Lc105, hQ105, l105, y105, z105, C105q⟩, st105⟩ := callSS X104 hx (y := (⟨"com/example/quorum/quorum/ValidationFailureEqualsPinLaw", "mk", "(III)Ljava/lang/String;"⟩ : MethodName)) hown (mvT hZ (hw _ (List.mem_of_getElem? (i := 13) rfl))) (mvT hZ (hw _ (List.mem_of_getElem? (i := 14) rfl))) (mvT hZ (hw _ (List.mem_of_getElem? (i := 2) rfl))) (mvT hZ (hw _ (List.mem_of_getElem? (i := 15) rfl))) (by decide) (backOfSH (W := 0) (rmMk l Z a0 hw hEL [] l2 c2 d2 z0 T104.heap n0 Z104 hF2.2.2.1 hF2.2.2.2.1 O S0 hz0) hZ (hw _ (List.mem_of_getElem? (i := 15) rfl)) (hw _ (List.mem_of_getElem? (i := 2) rfl)) (by decide) (by decide) hEL C104.1) (g := (mkF m 65 #[.val (.long i0), .second, .val (.long i1), .second, .val (.long i2), .second, .val (.int i3), .val (.ref r0), .val (.ref r1), .val (.ref r2), .val (.ref x0), .val (.ref x1), .unset, .unset, .unset, .unset, .unset, .unset, .unset, .unset, .unset] [(.int d2), (.int c2), (.int l2)])) rfl (by rw [hml]; rfl) (argsL := [(.int l2), (.int c2), (.int d2)]) (rest := []) (lenOf (pd_d4) rfl) rfl (by show 2 * 0 + _ ≤ _; exact Nat.le_of_eq rfl) (hb hby at_65) (fun _ _ => ⟨rfl, rfl, (Nat.le_of_ble_eq_true rfl), (Nat.le_of_ble_eq_true rfl)⟩)
  dsimp only [Pt.U, Pt.locs, Pt.cells, Pt.slots] at X105 l105 y105 z105 st105 hQ105 hS105 gr105 C105q
  subst l105 y105 z105
  obtain ⟨X105, hS, hZ, hown⟩ := rebS hS (show _ ≤ T104.heap.size by rw [show T104.heap = T104.heap from rfl]; exact hk) X105 hS105 gr105 hZ hown
  obtain ⟨x2, rfl, Nq105, Kq105, St2⟩ := hQ105
  have C105 := C104.trans C105q
  have V_r0 := V_r0.keep Kq105 nin0
  have V_r1 := V_r1.keep Kq105 nin0
  have O := O.keep Kq105 all0
  have V_r2 := V_r2.keep Kq105 nin0
  have St0 := St0.keep Kq105 all0
  have St1 := St1.keep Kq105 all0
  have N105 := Fr.app N104 Nq105
  have Z105 : n0 ≤ T105.heap.size := Nat.le_trans Z104 Kq105.1
  have hk : T105.heap.size ≤ T105.heap.size := Nat.le_refl _
  have St0 := St0.mono Kq105.1
  have St1 := St1.mono Kq105.1
  refine own_trW (U' := (T105.setTop (mkF m 68 #[.val (.long i0), .second, .val (.long i1), .second, .val (.long i2), .second, .val (.int i3), .val (.ref r0), .val (.ref r1), .val (.ref r2), .val (.ref x0), .val (.ref x1), .unset, .unset, .unset, .unset, .unset, .unset, .unset, .unset, .unset] [(.ref x2)]))) st105 ?_
  refine own_stW (U' := (T105.setTop (mkF m 70 #[.val (.long i0), .second, .val (.long i1), .second, .val (.long i2), .second, .val (.int i3), .val (.ref r0), .val (.ref r1), .val (.ref r2), .val (.ref x0), .val (.ref x1), .val (.ref x2), .unset, .unset, .unset, .unset, .unset, .unset, .unset, .unset] []))) (fun _ k => XS.astore X105.here hx rfl (hb hby at_68) rfl rfl (l' := #[.val (.long i0), .second, .val (.long i1), .second, .val (.long i2), .second, .val (.int i3), .val (.ref r0), .val (.ref r1), .val (.ref r2), .val (.ref x0), .val (.ref x1), .val (.ref x2), .unset, .unset, .unset, .unset, .unset, .unset, .unset, .unset]) rfl k) ?_
  refine own_stW (U' := (T105.setTop (mkF m 72 #[.val (.long i0), .second, .val (.long i1), .second, .val (.long i2), .second, .val (.int i3), .val (.ref r0), .val (.ref r1), .val (.ref r2), .val (.ref x0), .val (.ref x1), .val (.ref x2), .unset, .unset, .unset, .unset, .unset, .unset, .unset, .unset] [(.ref r0)]))) (fun _ k => XS.aload X105.here hx rfl (hb hby at_70) rfl rfl k) ?_
  refine own_stW (U' := (T105.setTop (mkF m 73 #[.val (.long i0), .second, .val (.long i1), .second, .val (.long i2), .second, .val (.int i3), .val (.ref r0), .val (.ref r1), .val (.ref r2), .val (.ref x0), .val (.ref x1), .val (.ref x2), .unset, .unset, .unset, .unset, .unset, .unset, .unset, .unset] [(.int (3 : Int32)), (.ref r0)]))) (fun _ k => XS.iconst X105.here hx rfl (hb hby at_72) k) ?_
  refine own_stW (U' := (T105.setTop (mkF m 74 #[.val (.long i0), .second, .val (.long i1), .second, .val (.long i2), .second, .val (.int i3), .val (.ref r0), .val (.ref r1), .val (.ref r2), .val (.ref x0), .val (.ref x1), .val (.ref x2), .unset, .unset, .unset, .unset, .unset, .unset, .unset, .unset] [(.int m0)]))) (own_ldI X105 hx hZ rfl V_r0 (j := (3 : Int32)) (i := 3) (by decide) rfl (by decide) (v := (.int m0)) rfl (g := (mkF m 73 #[.val (.long i0), .second, .val (.long i1), .second, .val (.long i2), .second, .val (.int i3), .val (.ref r0), .val (.ref r1), .val (.ref r2), .val (.ref x0), .val (.ref x1), .val (.ref x2), .unset, .unset, .unset, .unset, .unset, .unset, .unset, .unset] [(.int (3 : Int32)), (.ref r0)])) rfl rfl (hb hby at_73)) ?_
  refine own_stW (U' := (T105.setTop (mkF m 76 #[.val (.long i0), .second, .val (.long i1), .second, .val (.long i2), .second, .val (.int i3), .val (.ref r0), .val (.ref r1), .val (.ref r2), .val (.ref x0), .val (.ref x1), .val (.ref x2), .unset, .unset, .unset, .unset, .unset, .unset, .unset, .unset] [(.ref r0), (.int m0)]))) (fun _ k => XS.aload X105.here hx rfl (hb hby at_74) rfl rfl k) ?_
  refine own_stW (U' := (T105.setTop (mkF m 77 #[.val (.long i0), .second, .val (.long i1), .second, .val (.long i2), .second, .val (.int i3), .val (.ref r0), .val (.ref r1), .val (.ref r2), .val (.ref x0), .val (.ref x1), .val (.ref x2), .unset, .unset, .unset, .unset, .unset, .unset, .unset, .unset] [(.int (4 : Int32)), (.ref r0), (.int m0)]))) (fun _ k => XS.iconst X105.here hx rfl (hb hby at_76) k) ?_
  refine own_stW (U' := (T105.setTop (mkF m 78 #[.val (.long i0), .second, .val (.long i1), .second, .val (.long i2), .second, .val (.int i3), .val (.ref r0), .val (.ref r1), .val (.ref r2), .val (.ref x0), .val (.ref x1), .val (.ref x2), .unset, .unset, .unset, .unset, .unset, .unset, .unset, .unset] [(.int f0), (.int m0)]))) (own_ldI X105 hx hZ rfl V_r0 (j := (4 : Int32)) (i := 4) (by decide) rfl (by decide) (v := (.int f0)) rfl (g := (mkF m 77 #[.val (.long i0), .second, .val (.long i1), .second, .val (.long i2), .second, .val (.int i3), .val (.ref r0), .val (.ref r1), .val (.ref r2), .val (.ref x0), .val (.ref x1), .val (.ref x2), .unset, .unset, .unset, .unset, .unset, .unset, .unset, .unset] [(.int (4 : Int32)), (.ref r0), (.int m0)])) rfl rfl (hb hby at_77)) ?_
  refine own_stW (U' := (T105.setTop (mkF m 80 #[.val (.long i0), .second, .val (.long i1), .second, .val (.long i2), .second, .val (.int i3), .val (.ref r0), .val (.ref r1), .val (.ref r2), .val (.ref x0), .val (.ref x1), .val (.ref x2), .unset, .unset, .unset, .unset, .unset, .unset, .unset, .unset] [(.ref r0), (.int f0), (.int m0)]))) (fun _ k => XS.aload X105.here hx rfl (hb hby at_78) rfl rfl k) ?_
  refine own_stW (U' := (T105.setTop (mkF m 81 #[.val (.long i0), .second, .val (.long i1), .second, .val (.long i2), .second, .val (.int i3), .val (.ref r0), .val (.ref r1), .val (.ref r2), .val (.ref x0), .val (.ref x1), .val (.ref x2), .unset, .unset, .unset, .unset, .unset, .unset, .unset, .unset] [(.int (5 : Int32)), (.ref r0), (.int f0), (.int m0)]))) (fun _ k => XS.iconst X105.here hx rfl (hb hby at_80) k) ?_
  refine own_stW (U' := (T105.setTop (mkF m 82 #[.val (.long i0), .second, .val (.long i1), .second, .val (.long i2), .second, .val (.int i3), .val (.ref r0), .val (.ref r1), .val (.ref r2), .val (.ref x0), .val (.ref x1), .val (.ref x2), .unset, .unset, .unset, .unset, .unset, .unset, .unset, .unset] [(.int g0), (.int f0), (.int m0)]))) (own_ldI X105 hx hZ rfl V_r0 (j := (5 : Int32)) (i := 5) (by decide) rfl (by decide) (v := (.int g0)) rfl (g := (mkF m 81 #[.val (.long i0), .second, .val (.long i1), .second, .val (.long i2), .second, .val (.int i3), .val (.ref r0), .val (.ref r1), .val (.ref r2), .val (.ref x0), .val (.ref x1), .val (.ref x2), .unset, .unset, .unset, .unset, .unset, .unset, .unset, .unset] [(.int (5 : Int32)), (.ref r0), (.int f0), (.int m0)])) rfl rfl (hb hby at_81)) ?_
  obtain ⟨_, _, ⟨T106, L106, k106, n106⟩, -, X106, hS106, gr106, ⟨Lc106, hQ106, l106, y106, z106, C106q⟩, st106⟩ := callSS X105 hx (y := (⟨"com/example/quorum/quorum/ValidationFailureEqualsPinLaw", "mk", "(III)Ljava/lang/String;"⟩ : MethodName)) hown (mvT hZ (hw _ (List.mem_of_getElem? (i := 13) rfl))) (mvT hZ (hw _ (List.mem_of_getElem? (i := 14) rfl))) (mvT hZ (hw _ (List.mem_of_getElem? (i := 2) rfl))) (mvT hZ (hw _ (List.mem_of_getElem? (i := 15) rfl))) (by decide) (backOfSH (W := 0) (rmMk l Z a0 hw hEL [] m0 f0 g0 z0 T105.heap n0 Z105 hF0.2.2.2.2.1 hF0.2.2.2.2.2 O S0 hz0) hZ (hw _ (List.mem_of_getElem? (i := 15) rfl)) (hw _ (List.mem_of_getElem? (i := 2) rfl)) (by decide) (by decide) hEL C105.1) (g := (mkF m 82 #[.val (.long i0), .second, .val (.long i1), .second, .val (.long i2), .second, .val (.int i3), .val (.ref r0), .val (.ref r1), .val (.ref r2), .val (.ref x0), .val (.ref x1), .val (.ref x2), .unset, .unset, .unset, .unset, .unset, .unset, .unset, .unset] [(.int g0), (.int f0), (.int m0)])) rfl (by rw [hml]; rfl) (argsL := [(.int m0), (.int f0), (.int g0)]) (rest := []) (lenOf (pd_d4) rfl) rfl (by show 2 * 0 + _ ≤ _; exact Nat.le_of_eq rfl) (hb hby at_82) (fun _ _ => ⟨rfl, rfl, (Nat.le_of_ble_eq_true rfl), (Nat.le_of_ble_eq_true rfl)⟩)
  dsimp only [Pt.U, Pt.locs, Pt.cells, Pt.slots] at X106 l106 y106 z106 st106 hQ106 hS106 gr106 C106q
  subst l106 y106 z106
  obtain ⟨X106, hS, hZ, hown⟩ := rebS hS (show _ ≤ T105.heap.size by rw [show T105.heap = T105.heap from rfl]; exact hk) X106 hS106 gr106 hZ hown
  obtain ⟨x3, rfl, Nq106, Kq106, St3⟩ := hQ106
  have C106 := C105.trans C106q
  have V_r0 := V_r0.keep Kq106 nin0
  have V_r1 := V_r1.keep Kq106 nin0
  have O := O.keep Kq106 all0
  have V_r2 := V_r2.keep Kq106 nin0
  have St0 := St0.keep Kq106 all0
  have St1 := St1.keep Kq106 all0
  have St2 := St2.keep Kq106 all0
  have N106 := Fr.app N105 Nq106
  have Z106 : n0 ≤ T106.heap.size := Nat.le_trans Z105 Kq106.1
  have hk : T106.heap.size ≤ T106.heap.size := Nat.le_refl _
  have St0 := St0.mono Kq106.1
  have St1 := St1.mono Kq106.1
  have St2 := St2.mono Kq106.1
  refine own_trW (U' := (T106.setTop (mkF m 85 #[.val (.long i0), .second, .val (.long i1), .second, .val (.long i2), .second, .val (.int i3), .val (.ref r0), .val (.ref r1), .val (.ref r2), .val (.ref x0), .val (.ref x1), .val (.ref x2), .unset, .unset, .unset, .unset, .unset, .unset, .unset, .unset] [(.ref x3)]))) st106 ?_
  refine own_stW (U' := (T106.setTop (mkF m 87 #[.val (.long i0), .second, .val (.long i1), .second, .val (.long i2), .second, .val (.int i3), .val (.ref r0), .val (.ref r1), .val (.ref r2), .val (.ref x0), .val (.ref x1), .val (.ref x2), .val (.ref x3), .unset, .unset, .unset, .unset, .unset, .unset, .unset] []))) (fun _ k => XS.astore X106.here hx rfl (hb hby at_85) rfl rfl (l' := #[.val (.long i0), .second, .val (.long i1), .second, .val (.long i2), .second, .val (.int i3), .val (.ref r0), .val (.ref r1), .val (.ref r2), .val (.ref x0), .val (.ref x1), .val (.ref x2), .val (.ref x3), .unset, .unset, .unset, .unset, .unset, .unset, .unset]) rfl k) ?_
  refine own_stW (U' := (T106.setTop (mkF m 89 #[.val (.long i0), .second, .val (.long i1), .second, .val (.long i2), .second, .val (.int i3), .val (.ref r0), .val (.ref r1), .val (.ref r2), .val (.ref x0), .val (.ref x1), .val (.ref x2), .val (.ref x3), .unset, .unset, .unset, .unset, .unset, .unset, .unset] [(.ref r1)]))) (fun _ k => XS.aload X106.here hx rfl (hb hby at_87) rfl rfl k) ?_
  refine own_stW (U' := (T106.setTop (mkF m 90 #[.val (.long i0), .second, .val (.long i1), .second, .val (.long i2), .second, .val (.int i3), .val (.ref r0), .val (.ref r1), .val (.ref r2), .val (.ref x0), .val (.ref x1), .val (.ref x2), .val (.ref x3), .unset, .unset, .unset, .unset, .unset, .unset, .unset] [(.int (3 : Int32)), (.ref r1)]))) (fun _ k => XS.iconst X106.here hx rfl (hb hby at_89) k) ?_
  refine own_stW (U' := (T106.setTop (mkF m 91 #[.val (.long i0), .second, .val (.long i1), .second, .val (.long i2), .second, .val (.int i3), .val (.ref r0), .val (.ref r1), .val (.ref r2), .val (.ref x0), .val (.ref x1), .val (.ref x2), .val (.ref x3), .unset, .unset, .unset, .unset, .unset, .unset, .unset] [(.int m1)]))) (own_ldI X106 hx hZ rfl V_r1 (j := (3 : Int32)) (i := 3) (by decide) rfl (by decide) (v := (.int m1)) rfl (g := (mkF m 90 #[.val (.long i0), .second, .val (.long i1), .second, .val (.long i2), .second, .val (.int i3), .val (.ref r0), .val (.ref r1), .val (.ref r2), .val (.ref x0), .val (.ref x1), .val (.ref x2), .val (.ref x3), .unset, .unset, .unset, .unset, .unset, .unset, .unset] [(.int (3 : Int32)), (.ref r1)])) rfl rfl (hb hby at_90)) ?_
  refine own_stW (U' := (T106.setTop (mkF m 93 #[.val (.long i0), .second, .val (.long i1), .second, .val (.long i2), .second, .val (.int i3), .val (.ref r0), .val (.ref r1), .val (.ref r2), .val (.ref x0), .val (.ref x1), .val (.ref x2), .val (.ref x3), .unset, .unset, .unset, .unset, .unset, .unset, .unset] [(.ref r1), (.int m1)]))) (fun _ k => XS.aload X106.here hx rfl (hb hby at_91) rfl rfl k) ?_
  refine own_stW (U' := (T106.setTop (mkF m 94 #[.val (.long i0), .second, .val (.long i1), .second, .val (.long i2), .second, .val (.int i3), .val (.ref r0), .val (.ref r1), .val (.ref r2), .val (.ref x0), .val (.ref x1), .val (.ref x2), .val (.ref x3), .unset, .unset, .unset, .unset, .unset, .unset, .unset] [(.int (4 : Int32)), (.ref r1), (.int m1)]))) (fun _ k => XS.iconst X106.here hx rfl (hb hby at_93) k) ?_
  refine own_stW (U' := (T106.setTop (mkF m 95 #[.val (.long i0), .second, .val (.long i1), .second, .val (.long i2), .second, .val (.int i3), .val (.ref r0), .val (.ref r1), .val (.ref r2), .val (.ref x0), .val (.ref x1), .val (.ref x2), .val (.ref x3), .unset, .unset, .unset, .unset, .unset, .unset, .unset] [(.int f1), (.int m1)]))) (own_ldI X106 hx hZ rfl V_r1 (j := (4 : Int32)) (i := 4) (by decide) rfl (by decide) (v := (.int f1)) rfl (g := (mkF m 94 #[.val (.long i0), .second, .val (.long i1), .second, .val (.long i2), .second, .val (.int i3), .val (.ref r0), .val (.ref r1), .val (.ref r2), .val (.ref x0), .val (.ref x1), .val (.ref x2), .val (.ref x3), .unset, .unset, .unset, .unset, .unset, .unset, .unset] [(.int (4 : Int32)), (.ref r1), (.int m1)])) rfl rfl (hb hby at_94)) ?_
  refine own_stW (U' := (T106.setTop (mkF m 97 #[.val (.long i0), .second, .val (.long i1), .second, .val (.long i2), .second, .val (.int i3), .val (.ref r0), .val (.ref r1), .val (.ref r2), .val (.ref x0), .val (.ref x1), .val (.ref x2), .val (.ref x3), .unset, .unset, .unset, .unset, .unset, .unset, .unset] [(.ref r1), (.int f1), (.int m1)]))) (fun _ k => XS.aload X106.here hx rfl (hb hby at_95) rfl rfl k) ?_
  refine own_stW (U' := (T106.setTop (mkF m 98 #[.val (.long i0), .second, .val (.long i1), .second, .val (.long i2), .second, .val (.int i3), .val (.ref r0), .val (.ref r1), .val (.ref r2), .val (.ref x0), .val (.ref x1), .val (.ref x2), .val (.ref x3), .unset, .unset, .unset, .unset, .unset, .unset, .unset] [(.int (5 : Int32)), (.ref r1), (.int f1), (.int m1)]))) (fun _ k => XS.iconst X106.here hx rfl (hb hby at_97) k) ?_
  refine own_stW (U' := (T106.setTop (mkF m 99 #[.val (.long i0), .second, .val (.long i1), .second, .val (.long i2), .second, .val (.int i3), .val (.ref r0), .val (.ref r1), .val (.ref r2), .val (.ref x0), .val (.ref x1), .val (.ref x2), .val (.ref x3), .unset, .unset, .unset, .unset, .unset, .unset, .unset] [(.int g1), (.int f1), (.int m1)]))) (own_ldI X106 hx hZ rfl V_r1 (j := (5 : Int32)) (i := 5) (by decide) rfl (by decide) (v := (.int g1)) rfl (g := (mkF m 98 #[.val (.long i0), .second, .val (.long i1), .second, .val (.long i2), .second, .val (.int i3), .val (.ref r0), .val (.ref r1), .val (.ref r2), .val (.ref x0), .val (.ref x1), .val (.ref x2), .val (.ref x3), .unset, .unset, .unset, .unset, .unset, .unset, .unset] [(.int (5 : Int32)), (.ref r1), (.int f1), (.int m1)])) rfl rfl (hb hby at_98)) ?_
  obtain ⟨_, _, ⟨T107, L107, k107, n107⟩, -, X107, hS107, gr107, ⟨Lc107, hQ107, l107, y107, z107, C107q⟩, st107⟩ := callSS X106 hx (y := (⟨"com/example/quorum/quorum/ValidationFailureEqualsPinLaw", "mk", "(III)Ljava/lang/String;"⟩ : MethodName)) hown (mvT hZ (hw _ (List.mem_of_getElem? (i := 13) rfl))) (mvT hZ (hw _ (List.mem_of_getElem? (i := 14) rfl))) (mvT hZ (hw _ (List.mem_of_getElem? (i := 2) rfl))) (mvT hZ (hw _ (List.mem_of_getElem? (i := 15) rfl))) (by decide) (backOfSH (W := 0) (rmMk l Z a0 hw hEL [] m1 f1 g1 z0 T106.heap n0 Z106 hF1.2.2.2.2.1 hF1.2.2.2.2.2 O S0 hz0) hZ (hw _ (List.mem_of_getElem? (i := 15) rfl)) (hw _ (List.mem_of_getElem? (i := 2) rfl)) (by decide) (by decide) hEL C106.1) (g := (mkF m 99 #[.val (.long i0), .second, .val (.long i1), .second, .val (.long i2), .second, .val (.int i3), .val (.ref r0), .val (.ref r1), .val (.ref r2), .val (.ref x0), .val (.ref x1), .val (.ref x2), .val (.ref x3), .unset, .unset, .unset, .unset, .unset, .unset, .unset] [(.int g1), (.int f1), (.int m1)])) rfl (by rw [hml]; rfl) (argsL := [(.int m1), (.int f1), (.int g1)]) (rest := []) (lenOf (pd_d4) rfl) rfl (by show 2 * 0 + _ ≤ _; exact Nat.le_of_eq rfl) (hb hby at_99) (fun _ _ => ⟨rfl, rfl, (Nat.le_of_ble_eq_true rfl), (Nat.le_of_ble_eq_true rfl)⟩)
  dsimp only [Pt.U, Pt.locs, Pt.cells, Pt.slots] at X107 l107 y107 z107 st107 hQ107 hS107 gr107 C107q
  subst l107 y107 z107
  obtain ⟨X107, hS, hZ, hown⟩ := rebS hS (show _ ≤ T106.heap.size by rw [show T106.heap = T106.heap from rfl]; exact hk) X107 hS107 gr107 hZ hown
  obtain ⟨x4, rfl, Nq107, Kq107, St4⟩ := hQ107
  have C107 := C106.trans C107q
  have V_r0 := V_r0.keep Kq107 nin0
  have V_r1 := V_r1.keep Kq107 nin0
  have O := O.keep Kq107 all0
  have V_r2 := V_r2.keep Kq107 nin0
  have St0 := St0.keep Kq107 all0
  have St1 := St1.keep Kq107 all0
  have St2 := St2.keep Kq107 all0
  have St3 := St3.keep Kq107 all0
  have N107 := Fr.app N106 Nq107
  have Z107 : n0 ≤ T107.heap.size := Nat.le_trans Z106 Kq107.1
  have hk : T107.heap.size ≤ T107.heap.size := Nat.le_refl _
  have St0 := St0.mono Kq107.1
  have St1 := St1.mono Kq107.1
  have St2 := St2.mono Kq107.1
  have St3 := St3.mono Kq107.1
  refine own_trW (U' := (T107.setTop (mkF m 102 #[.val (.long i0), .second, .val (.long i1), .second, .val (.long i2), .second, .val (.int i3), .val (.ref r0), .val (.ref r1), .val (.ref r2), .val (.ref x0), .val (.ref x1), .val (.ref x2), .val (.ref x3), .unset, .unset, .unset, .unset, .unset, .unset, .unset] [(.ref x4)]))) st107 ?_
  refine own_stW (U' := (T107.setTop (mkF m 104 #[.val (.long i0), .second, .val (.long i1), .second, .val (.long i2), .second, .val (.int i3), .val (.ref r0), .val (.ref r1), .val (.ref r2), .val (.ref x0), .val (.ref x1), .val (.ref x2), .val (.ref x3), .val (.ref x4), .unset, .unset, .unset, .unset, .unset, .unset] []))) (fun _ k => XS.astore X107.here hx rfl (hb hby at_102) rfl rfl (l' := #[.val (.long i0), .second, .val (.long i1), .second, .val (.long i2), .second, .val (.int i3), .val (.ref r0), .val (.ref r1), .val (.ref r2), .val (.ref x0), .val (.ref x1), .val (.ref x2), .val (.ref x3), .val (.ref x4), .unset, .unset, .unset, .unset, .unset, .unset]) rfl k) ?_
  refine own_stW (U' := (T107.setTop (mkF m 106 #[.val (.long i0), .second, .val (.long i1), .second, .val (.long i2), .second, .val (.int i3), .val (.ref r0), .val (.ref r1), .val (.ref r2), .val (.ref x0), .val (.ref x1), .val (.ref x2), .val (.ref x3), .val (.ref x4), .unset, .unset, .unset, .unset, .unset, .unset] [(.ref r2)]))) (fun _ k => XS.aload X107.here hx rfl (hb hby at_104) rfl rfl k) ?_
  refine own_stW (U' := (T107.setTop (mkF m 107 #[.val (.long i0), .second, .val (.long i1), .second, .val (.long i2), .second, .val (.int i3), .val (.ref r0), .val (.ref r1), .val (.ref r2), .val (.ref x0), .val (.ref x1), .val (.ref x2), .val (.ref x3), .val (.ref x4), .unset, .unset, .unset, .unset, .unset, .unset] [(.int (3 : Int32)), (.ref r2)]))) (fun _ k => XS.iconst X107.here hx rfl (hb hby at_106) k) ?_
  refine own_stW (U' := (T107.setTop (mkF m 108 #[.val (.long i0), .second, .val (.long i1), .second, .val (.long i2), .second, .val (.int i3), .val (.ref r0), .val (.ref r1), .val (.ref r2), .val (.ref x0), .val (.ref x1), .val (.ref x2), .val (.ref x3), .val (.ref x4), .unset, .unset, .unset, .unset, .unset, .unset] [(.int m2)]))) (own_ldI X107 hx hZ rfl V_r2 (j := (3 : Int32)) (i := 3) (by decide) rfl (by decide) (v := (.int m2)) rfl (g := (mkF m 107 #[.val (.long i0), .second, .val (.long i1), .second, .val (.long i2), .second, .val (.int i3), .val (.ref r0), .val (.ref r1), .val (.ref r2), .val (.ref x0), .val (.ref x1), .val (.ref x2), .val (.ref x3), .val (.ref x4), .unset, .unset, .unset, .unset, .unset, .unset] [(.int (3 : Int32)), (.ref r2)])) rfl rfl (hb hby at_107)) ?_
  refine own_stW (U' := (T107.setTop (mkF m 110 #[.val (.long i0), .second, .val (.long i1), .second, .val (.long i2), .second, .val (.int i3), .val (.ref r0), .val (.ref r1), .val (.ref r2), .val (.ref x0), .val (.ref x1), .val (.ref x2), .val (.ref x3), .val (.ref x4), .unset, .unset, .unset, .unset, .unset, .unset] [(.ref r2), (.int m2)]))) (fun _ k => XS.aload X107.here hx rfl (hb hby at_108) rfl rfl k) ?_
  refine own_stW (U' := (T107.setTop (mkF m 111 #[.val (.long i0), .second, .val (.long i1), .second, .val (.long i2), .second, .val (.int i3), .val (.ref r0), .val (.ref r1), .val (.ref r2), .val (.ref x0), .val (.ref x1), .val (.ref x2), .val (.ref x3), .val (.ref x4), .unset, .unset, .unset, .unset, .unset, .unset] [(.int (4 : Int32)), (.ref r2), (.int m2)]))) (fun _ k => XS.iconst X107.here hx rfl (hb hby at_110) k) ?_
  refine own_stW (U' := (T107.setTop (mkF m 112 #[.val (.long i0), .second, .val (.long i1), .second, .val (.long i2), .second, .val (.int i3), .val (.ref r0), .val (.ref r1), .val (.ref r2), .val (.ref x0), .val (.ref x1), .val (.ref x2), .val (.ref x3), .val (.ref x4), .unset, .unset, .unset, .unset, .unset, .unset] [(.int f2), (.int m2)]))) (own_ldI X107 hx hZ rfl V_r2 (j := (4 : Int32)) (i := 4) (by decide) rfl (by decide) (v := (.int f2)) rfl (g := (mkF m 111 #[.val (.long i0), .second, .val (.long i1), .second, .val (.long i2), .second, .val (.int i3), .val (.ref r0), .val (.ref r1), .val (.ref r2), .val (.ref x0), .val (.ref x1), .val (.ref x2), .val (.ref x3), .val (.ref x4), .unset, .unset, .unset, .unset, .unset, .unset] [(.int (4 : Int32)), (.ref r2), (.int m2)])) rfl rfl (hb hby at_111)) ?_
  refine own_stW (U' := (T107.setTop (mkF m 114 #[.val (.long i0), .second, .val (.long i1), .second, .val (.long i2), .second, .val (.int i3), .val (.ref r0), .val (.ref r1), .val (.ref r2), .val (.ref x0), .val (.ref x1), .val (.ref x2), .val (.ref x3), .val (.ref x4), .unset, .unset, .unset, .unset, .unset, .unset] [(.ref r2), (.int f2), (.int m2)]))) (fun _ k => XS.aload X107.here hx rfl (hb hby at_112) rfl rfl k) ?_
  refine own_stW (U' := (T107.setTop (mkF m 115 #[.val (.long i0), .second, .val (.long i1), .second, .val (.long i2), .second, .val (.int i3), .val (.ref r0), .val (.ref r1), .val (.ref r2), .val (.ref x0), .val (.ref x1), .val (.ref x2), .val (.ref x3), .val (.ref x4), .unset, .unset, .unset, .unset, .unset, .unset] [(.int (5 : Int32)), (.ref r2), (.int f2), (.int m2)]))) (fun _ k => XS.iconst X107.here hx rfl (hb hby at_114) k) ?_
  refine own_stW (U' := (T107.setTop (mkF m 116 #[.val (.long i0), .second, .val (.long i1), .second, .val (.long i2), .second, .val (.int i3), .val (.ref r0), .val (.ref r1), .val (.ref r2), .val (.ref x0), .val (.ref x1), .val (.ref x2), .val (.ref x3), .val (.ref x4), .unset, .unset, .unset, .unset, .unset, .unset] [(.int g2), (.int f2), (.int m2)]))) (own_ldI X107 hx hZ rfl V_r2 (j := (5 : Int32)) (i := 5) (by decide) rfl (by decide) (v := (.int g2)) rfl (g := (mkF m 115 #[.val (.long i0), .second, .val (.long i1), .second, .val (.long i2), .second, .val (.int i3), .val (.ref r0), .val (.ref r1), .val (.ref r2), .val (.ref x0), .val (.ref x1), .val (.ref x2), .val (.ref x3), .val (.ref x4), .unset, .unset, .unset, .unset, .unset, .unset] [(.int (5 : Int32)), (.ref r2), (.int f2), (.int m2)])) rfl rfl (hb hby at_115)) ?_
  obtain ⟨_, _, ⟨T108, L108, k108, n108⟩, -, X108, hS108, gr108, ⟨Lc108, hQ108, l108, y108, z108, C108q⟩, st108⟩ := callSS X107 hx (y := (⟨"com/example/quorum/quorum/ValidationFailureEqualsPinLaw", "mk", "(III)Ljava/lang/String;"⟩ : MethodName)) hown (mvT hZ (hw _ (List.mem_of_getElem? (i := 13) rfl))) (mvT hZ (hw _ (List.mem_of_getElem? (i := 14) rfl))) (mvT hZ (hw _ (List.mem_of_getElem? (i := 2) rfl))) (mvT hZ (hw _ (List.mem_of_getElem? (i := 15) rfl))) (by decide) (backOfSH (W := 0) (rmMk l Z a0 hw hEL [] m2 f2 g2 z0 T107.heap n0 Z107 hF2.2.2.2.2.1 hF2.2.2.2.2.2 O S0 hz0) hZ (hw _ (List.mem_of_getElem? (i := 15) rfl)) (hw _ (List.mem_of_getElem? (i := 2) rfl)) (by decide) (by decide) hEL C107.1) (g := (mkF m 116 #[.val (.long i0), .second, .val (.long i1), .second, .val (.long i2), .second, .val (.int i3), .val (.ref r0), .val (.ref r1), .val (.ref r2), .val (.ref x0), .val (.ref x1), .val (.ref x2), .val (.ref x3), .val (.ref x4), .unset, .unset, .unset, .unset, .unset, .unset] [(.int g2), (.int f2), (.int m2)])) rfl (by rw [hml]; rfl) (argsL := [(.int m2), (.int f2), (.int g2)]) (rest := []) (lenOf (pd_d4) rfl) rfl (by show 2 * 0 + _ ≤ _; exact Nat.le_of_eq rfl) (hb hby at_116) (fun _ _ => ⟨rfl, rfl, (Nat.le_of_ble_eq_true rfl), (Nat.le_of_ble_eq_true rfl)⟩)
  dsimp only [Pt.U, Pt.locs, Pt.cells, Pt.slots] at X108 l108 y108 z108 st108 hQ108 hS108 gr108 C108q
  subst l108 y108 z108
  obtain ⟨X108, hS, hZ, hown⟩ := rebS hS (show _ ≤ T107.heap.size by rw [show T107.heap = T107.heap from rfl]; exact hk) X108 hS108 gr108 hZ hown
  obtain ⟨x5, rfl, Nq108, Kq108, St5⟩ := hQ108
  have C108 := C107.trans C108q
  have V_r0 := V_r0.keep Kq108 nin0
  have V_r1 := V_r1.keep Kq108 nin0
  have O := O.keep Kq108 all0
  have V_r2 := V_r2.keep Kq108 nin0
  have St0 := St0.keep Kq108 all0
  have St1 := St1.keep Kq108 all0
  have St2 := St2.keep Kq108 all0
  have St3 := St3.keep Kq108 all0
  have St4 := St4.keep Kq108 all0
  have N108 := Fr.app N107 Nq108
  have Z108 : n0 ≤ T108.heap.size := Nat.le_trans Z107 Kq108.1
  have hk : T108.heap.size ≤ T108.heap.size := Nat.le_refl _
  have St0 := St0.mono Kq108.1
  have St1 := St1.mono Kq108.1
  have St2 := St2.mono Kq108.1
  have St3 := St3.mono Kq108.1
  have St4 := St4.mono Kq108.1
  refine own_trW (U' := (T108.setTop (mkF m 119 #[.val (.long i0), .second, .val (.long i1), .second, .val (.long i2), .second, .val (.int i3), .val (.ref r0), .val (.ref r1), .val (.ref r2), .val (.ref x0), .val (.ref x1), .val (.ref x2), .val (.ref x3), .val (.ref x4), .unset, .unset, .unset, .unset, .unset, .unset] [(.ref x5)]))) st108 ?_
  refine own_stW (U' := (T108.setTop (mkF m 121 #[.val (.long i0), .second, .val (.long i1), .second, .val (.long i2), .second, .val (.int i3), .val (.ref r0), .val (.ref r1), .val (.ref r2), .val (.ref x0), .val (.ref x1), .val (.ref x2), .val (.ref x3), .val (.ref x4), .val (.ref x5), .unset, .unset, .unset, .unset, .unset] []))) (fun _ k => XS.astore X108.here hx rfl (hb hby at_119) rfl rfl (l' := #[.val (.long i0), .second, .val (.long i1), .second, .val (.long i2), .second, .val (.int i3), .val (.ref r0), .val (.ref r1), .val (.ref r2), .val (.ref x0), .val (.ref x1), .val (.ref x2), .val (.ref x3), .val (.ref x4), .val (.ref x5), .unset, .unset, .unset, .unset, .unset]) rfl k) ?_
  refine own_stW (U' := (T108.setTop (mkF m 123 #[.val (.long i0), .second, .val (.long i1), .second, .val (.long i2), .second, .val (.int i3), .val (.ref r0), .val (.ref r1), .val (.ref r2), .val (.ref x0), .val (.ref x1), .val (.ref x2), .val (.ref x3), .val (.ref x4), .val (.ref x5), .unset, .unset, .unset, .unset, .unset] [(.ref r0)]))) (fun _ k => XS.aload X108.here hx rfl (hb hby at_121) rfl rfl k) ?_
  refine own_stW (U' := (T108.setTop (mkF m 124 #[.val (.long i0), .second, .val (.long i1), .second, .val (.long i2), .second, .val (.int i3), .val (.ref r0), .val (.ref r1), .val (.ref r2), .val (.ref x0), .val (.ref x1), .val (.ref x2), .val (.ref x3), .val (.ref x4), .val (.ref x5), .unset, .unset, .unset, .unset, .unset] [(.int (0 : Int32)), (.ref r0)]))) (fun _ k => XS.iconst X108.here hx rfl (hb hby at_123) k) ?_
  refine own_stW (U' := (T108.setTop (mkF m 125 #[.val (.long i0), .second, .val (.long i1), .second, .val (.long i2), .second, .val (.int i3), .val (.ref r0), .val (.ref r1), .val (.ref r2), .val (.ref x0), .val (.ref x1), .val (.ref x2), .val (.ref x3), .val (.ref x4), .val (.ref x5), .unset, .unset, .unset, .unset, .unset] [(.int l0)]))) (own_ldI X108 hx hZ rfl V_r0 (j := (0 : Int32)) (i := 0) (by decide) rfl (by decide) (v := (.int l0)) rfl (g := (mkF m 124 #[.val (.long i0), .second, .val (.long i1), .second, .val (.long i2), .second, .val (.int i3), .val (.ref r0), .val (.ref r1), .val (.ref r2), .val (.ref x0), .val (.ref x1), .val (.ref x2), .val (.ref x3), .val (.ref x4), .val (.ref x5), .unset, .unset, .unset, .unset, .unset] [(.int (0 : Int32)), (.ref r0)])) rfl rfl (hb hby at_124)) ?_
  refine own_stW (U' := (T108.setTop (mkF m 127 #[.val (.long i0), .second, .val (.long i1), .second, .val (.long i2), .second, .val (.int i3), .val (.ref r0), .val (.ref r1), .val (.ref r2), .val (.ref x0), .val (.ref x1), .val (.ref x2), .val (.ref x3), .val (.ref x4), .val (.ref x5), .unset, .unset, .unset, .unset, .unset] [(.ref r0), (.int l0)]))) (fun _ k => XS.aload X108.here hx rfl (hb hby at_125) rfl rfl k) ?_
  refine own_stW (U' := (T108.setTop (mkF m 128 #[.val (.long i0), .second, .val (.long i1), .second, .val (.long i2), .second, .val (.int i3), .val (.ref r0), .val (.ref r1), .val (.ref r2), .val (.ref x0), .val (.ref x1), .val (.ref x2), .val (.ref x3), .val (.ref x4), .val (.ref x5), .unset, .unset, .unset, .unset, .unset] [(.int (1 : Int32)), (.ref r0), (.int l0)]))) (fun _ k => XS.iconst X108.here hx rfl (hb hby at_127) k) ?_
  refine own_stW (U' := (T108.setTop (mkF m 129 #[.val (.long i0), .second, .val (.long i1), .second, .val (.long i2), .second, .val (.int i3), .val (.ref r0), .val (.ref r1), .val (.ref r2), .val (.ref x0), .val (.ref x1), .val (.ref x2), .val (.ref x3), .val (.ref x4), .val (.ref x5), .unset, .unset, .unset, .unset, .unset] [(.int c0), (.int l0)]))) (own_ldI X108 hx hZ rfl V_r0 (j := (1 : Int32)) (i := 1) (by decide) rfl (by decide) (v := (.int c0)) rfl (g := (mkF m 128 #[.val (.long i0), .second, .val (.long i1), .second, .val (.long i2), .second, .val (.int i3), .val (.ref r0), .val (.ref r1), .val (.ref r2), .val (.ref x0), .val (.ref x1), .val (.ref x2), .val (.ref x3), .val (.ref x4), .val (.ref x5), .unset, .unset, .unset, .unset, .unset] [(.int (1 : Int32)), (.ref r0), (.int l0)])) rfl rfl (hb hby at_128)) ?_
  refine own_stW (U' := (T108.setTop (mkF m 131 #[.val (.long i0), .second, .val (.long i1), .second, .val (.long i2), .second, .val (.int i3), .val (.ref r0), .val (.ref r1), .val (.ref r2), .val (.ref x0), .val (.ref x1), .val (.ref x2), .val (.ref x3), .val (.ref x4), .val (.ref x5), .unset, .unset, .unset, .unset, .unset] [(.ref r0), (.int c0), (.int l0)]))) (fun _ k => XS.aload X108.here hx rfl (hb hby at_129) rfl rfl k) ?_
  refine own_stW (U' := (T108.setTop (mkF m 132 #[.val (.long i0), .second, .val (.long i1), .second, .val (.long i2), .second, .val (.int i3), .val (.ref r0), .val (.ref r1), .val (.ref r2), .val (.ref x0), .val (.ref x1), .val (.ref x2), .val (.ref x3), .val (.ref x4), .val (.ref x5), .unset, .unset, .unset, .unset, .unset] [(.int (2 : Int32)), (.ref r0), (.int c0), (.int l0)]))) (fun _ k => XS.iconst X108.here hx rfl (hb hby at_131) k) ?_
  refine own_stW (U' := (T108.setTop (mkF m 133 #[.val (.long i0), .second, .val (.long i1), .second, .val (.long i2), .second, .val (.int i3), .val (.ref r0), .val (.ref r1), .val (.ref r2), .val (.ref x0), .val (.ref x1), .val (.ref x2), .val (.ref x3), .val (.ref x4), .val (.ref x5), .unset, .unset, .unset, .unset, .unset] [(.int d0), (.int c0), (.int l0)]))) (own_ldI X108 hx hZ rfl V_r0 (j := (2 : Int32)) (i := 2) (by decide) rfl (by decide) (v := (.int d0)) rfl (g := (mkF m 132 #[.val (.long i0), .second, .val (.long i1), .second, .val (.long i2), .second, .val (.int i3), .val (.ref r0), .val (.ref r1), .val (.ref r2), .val (.ref x0), .val (.ref x1), .val (.ref x2), .val (.ref x3), .val (.ref x4), .val (.ref x5), .unset, .unset, .unset, .unset, .unset] [(.int (2 : Int32)), (.ref r0), (.int c0), (.int l0)])) rfl rfl (hb hby at_132)) ?_
  obtain ⟨_, _, ⟨T109, L109, k109, n109⟩, -, X109, hS109, gr109, ⟨Lc109, hQ109, l109, y109, z109, C109q⟩, st109⟩ := callSS X108 hx (y := (⟨"com/example/quorum/quorum/ValidationFailureEqualsPinLaw", "mk", "(III)Ljava/lang/String;"⟩ : MethodName)) hown (mvT hZ (hw _ (List.mem_of_getElem? (i := 13) rfl))) (mvT hZ (hw _ (List.mem_of_getElem? (i := 14) rfl))) (mvT hZ (hw _ (List.mem_of_getElem? (i := 2) rfl))) (mvT hZ (hw _ (List.mem_of_getElem? (i := 15) rfl))) (by decide) (backOfSH (W := 0) (rmMk l Z a0 hw hEL [] l0 c0 d0 z0 T108.heap n0 Z108 hF0.2.2.1 hF0.2.2.2.1 O S0 hz0) hZ (hw _ (List.mem_of_getElem? (i := 15) rfl)) (hw _ (List.mem_of_getElem? (i := 2) rfl)) (by decide) (by decide) hEL C108.1) (g := (mkF m 133 #[.val (.long i0), .second, .val (.long i1), .second, .val (.long i2), .second, .val (.int i3), .val (.ref r0), .val (.ref r1), .val (.ref r2), .val (.ref x0), .val (.ref x1), .val (.ref x2), .val (.ref x3), .val (.ref x4), .val (.ref x5), .unset, .unset, .unset, .unset, .unset] [(.int d0), (.int c0), (.int l0)])) rfl (by rw [hml]; rfl) (argsL := [(.int l0), (.int c0), (.int d0)]) (rest := []) (lenOf (pd_d4) rfl) rfl (by show 2 * 0 + _ ≤ _; exact Nat.le_of_eq rfl) (hb hby at_133) (fun _ _ => ⟨rfl, rfl, (Nat.le_of_ble_eq_true rfl), (Nat.le_of_ble_eq_true rfl)⟩)
  dsimp only [Pt.U, Pt.locs, Pt.cells, Pt.slots] at X109 l109 y109 z109 st109 hQ109 hS109 gr109 C109q
  subst l109 y109 z109
  obtain ⟨X109, hS, hZ, hown⟩ := rebS hS (show _ ≤ T108.heap.size by rw [show T108.heap = T108.heap from rfl]; exact hk) X109 hS109 gr109 hZ hown
  obtain ⟨x6, rfl, Nq109, Kq109, St6⟩ := hQ109
  have C109 := C108.trans C109q
  have V_r0 := V_r0.keep Kq109 nin0
  have V_r1 := V_r1.keep Kq109 nin0
  have O := O.keep Kq109 all0
  have V_r2 := V_r2.keep Kq109 nin0
  have St0 := St0.keep Kq109 all0
  have St1 := St1.keep Kq109 all0
  have St2 := St2.keep Kq109 all0
  have St3 := St3.keep Kq109 all0
  have St4 := St4.keep Kq109 all0
  have St5 := St5.keep Kq109 all0
  have N109 := Fr.app N108 Nq109
  have Z109 : n0 ≤ T109.heap.size := Nat.le_trans Z108 Kq109.1
  have hk : T109.heap.size ≤ T109.heap.size := Nat.le_refl _
  have St0 := St0.mono Kq109.1
  have St1 := St1.mono Kq109.1
  have St2 := St2.mono Kq109.1
  have St3 := St3.mono Kq109.1
  have St4 := St4.mono Kq109.1
  have St5 := St5.mono Kq109.1
  refine own_trW (U' := (T109.setTop (mkF m 136 #[.val (.long i0), .second, .val (.long i1), .second, .val (.long i2), .second, .val (.int i3), .val (.ref r0), .val (.ref r1), .val (.ref r2), .val (.ref x0), .val (.ref x1), .val (.ref x2), .val (.ref x3), .val (.ref x4), .val (.ref x5), .unset, .unset, .unset, .unset, .unset] [(.ref x6)]))) st109 ?_
  refine own_stW (U' := (T109.setTop (mkF m 138 #[.val (.long i0), .second, .val (.long i1), .second, .val (.long i2), .second, .val (.int i3), .val (.ref r0), .val (.ref r1), .val (.ref r2), .val (.ref x0), .val (.ref x1), .val (.ref x2), .val (.ref x3), .val (.ref x4), .val (.ref x5), .val (.ref x6), .unset, .unset, .unset, .unset] []))) (fun _ k => XS.astore X109.here hx rfl (hb hby at_136) rfl rfl (l' := #[.val (.long i0), .second, .val (.long i1), .second, .val (.long i2), .second, .val (.int i3), .val (.ref r0), .val (.ref r1), .val (.ref r2), .val (.ref x0), .val (.ref x1), .val (.ref x2), .val (.ref x3), .val (.ref x4), .val (.ref x5), .val (.ref x6), .unset, .unset, .unset, .unset]) rfl k) ?_
  obtain ⟨T110, h110, X110, e110, E110, A110, D110, -, st110⟩ := newO X109 hx hZ hown (hw _ (List.mem_of_getElem? (i := 49) rfl)) (hw _ (List.mem_of_getElem? (i := 50) rfl)) (hw _ (List.mem_of_getElem? (i := 51) rfl)) rfl (g := (mkF m 138 #[.val (.long i0), .second, .val (.long i1), .second, .val (.long i2), .second, .val (.int i3), .val (.ref r0), .val (.ref r1), .val (.ref r2), .val (.ref x0), .val (.ref x1), .val (.ref x2), .val (.ref x3), .val (.ref x4), .val (.ref x5), .val (.ref x6), .unset, .unset, .unset, .unset] [])) rfl (hb hby at_138) (by decide) (by decide)
  obtain ⟨b110, g110⟩ : ∃ z, z = T109.heap.size := ⟨_, rfl⟩
  rw [← g110] at A110 D110 st110
  have ne_r0_b110 : r0 ≠ b110 := Nat.ne_of_lt (Nat.lt_of_lt_of_eq V_r0.lt g110.symm)
  have ne_r1_b110 : r1 ≠ b110 := Nat.ne_of_lt (Nat.lt_of_lt_of_eq V_r1.lt g110.symm)
  have ne_r2_b110 : r2 ≠ b110 := Nat.ne_of_lt (Nat.lt_of_lt_of_eq V_r2.lt g110.symm)
  have g_b110 : n0 ≤ b110 := Nat.le_trans Z109 (Nat.le_of_eq g110.symm)
  have O := O.ext E110
  have C110 := C109.trans (CHr.ext E110 C109.1)
  have hk := Nat.le_trans hk E110.1
  have St0 := St0.ext E110
  have St1 := St1.ext E110
  have St2 := St2.ext E110
  have St3 := St3.ext E110
  have St4 := St4.ext E110
  have St5 := St5.ext E110
  have St6 := St6.ext E110
  have V_r0 := V_r0.ext E110
  have V_r1 := V_r1.ext E110
  have V_r2 := V_r2.ext E110
  have Z110 : n0 ≤ h110.size := Nat.le_trans Z109 E110.1
  have hb_b110 : T109.heap.size ≤ b110 := Nat.le_of_eq g110.symm
  have F_ip_b110 : Fld Z h110 b110 "com/example/quorum/quorum/ValidationFailure" "instancePointer" "Ljava/lang/String;" .null := D110 (Or.inr (hw _ (List.mem_of_getElem? (i := 63) rfl))) (ty := (.object "java/lang/String")) (by decide)
  have F_kl_b110 : Fld Z h110 b110 "com/example/quorum/quorum/ValidationFailure" "keywordLocation" "Ljava/lang/String;" .null := D110 (Or.inr (hw _ (List.mem_of_getElem? (i := 66) rfl))) (ty := (.object "java/lang/String")) (by decide)
  have F_ms_b110 : Fld Z h110 b110 "com/example/quorum/quorum/ValidationFailure" "message" "Ljava/lang/String;" .null := D110 (Or.inr (hw _ (List.mem_of_getElem? (i := 69) rfl))) (ty := (.object "java/lang/String")) (by decide)
  refine own_stW (U' := (T110.setTop (mkF m 141 #[.val (.long i0), .second, .val (.long i1), .second, .val (.long i2), .second, .val (.int i3), .val (.ref r0), .val (.ref r1), .val (.ref r2), .val (.ref x0), .val (.ref x1), .val (.ref x2), .val (.ref x3), .val (.ref x4), .val (.ref x5), .val (.ref x6), .unset, .unset, .unset, .unset] [(.ref b110)]))) st110 ?_
  refine own_stW (U' := (T110.setTop (mkF m 142 #[.val (.long i0), .second, .val (.long i1), .second, .val (.long i2), .second, .val (.int i3), .val (.ref r0), .val (.ref r1), .val (.ref r2), .val (.ref x0), .val (.ref x1), .val (.ref x2), .val (.ref x3), .val (.ref x4), .val (.ref x5), .val (.ref x6), .unset, .unset, .unset, .unset] [(.ref b110), (.ref b110)]))) (fun _ k => XS.dup X110.here hx rfl (hb hby at_141) rfl rfl k) ?_
  refine own_stW (U' := (T110.setTop (mkF m 144 #[.val (.long i0), .second, .val (.long i1), .second, .val (.long i2), .second, .val (.int i3), .val (.ref r0), .val (.ref r1), .val (.ref r2), .val (.ref x0), .val (.ref x1), .val (.ref x2), .val (.ref x3), .val (.ref x4), .val (.ref x5), .val (.ref x6), .unset, .unset, .unset, .unset] [(.ref x0), (.ref b110), (.ref b110)]))) (fun _ k => XS.aload X110.here hx rfl (hb hby at_142) rfl rfl k) ?_
  refine own_stW (U' := (T110.setTop (mkF m 146 #[.val (.long i0), .second, .val (.long i1), .second, .val (.long i2), .second, .val (.int i3), .val (.ref r0), .val (.ref r1), .val (.ref r2), .val (.ref x0), .val (.ref x1), .val (.ref x2), .val (.ref x3), .val (.ref x4), .val (.ref x5), .val (.ref x6), .unset, .unset, .unset, .unset] [(.ref x1), (.ref x0), (.ref b110), (.ref b110)]))) (fun _ k => XS.aload X110.here hx rfl (hb hby at_144) rfl rfl k) ?_
  refine own_stW (U' := (T110.setTop (mkF m 148 #[.val (.long i0), .second, .val (.long i1), .second, .val (.long i2), .second, .val (.int i3), .val (.ref r0), .val (.ref r1), .val (.ref r2), .val (.ref x0), .val (.ref x1), .val (.ref x2), .val (.ref x3), .val (.ref x4), .val (.ref x5), .val (.ref x6), .unset, .unset, .unset, .unset] [(.ref x2), (.ref x1), (.ref x0), (.ref b110), (.ref b110)]))) (fun _ k => XS.aload X110.here hx rfl (hb hby at_146) rfl rfl k) ?_
  obtain ⟨_, _, ⟨T111, L111, k111, n111⟩, -, X111, hS111, gr111, ⟨Lc111, hQ111, l111, y111, z111, C111q⟩, st111⟩ := X110.specialBackS hx (y := (⟨"com/example/quorum/quorum/ValidationFailure", "<init>", "(Ljava/lang/String;Ljava/lang/String;Ljava/lang/String;)V"⟩ : MethodName)) rfl hown (mvT hZ (hw _ (List.mem_of_getElem? (i := 52) rfl))) (mvT hZ (hw _ (List.mem_of_getElem? (i := 53) rfl))) (mvT hZ (hw _ (List.mem_of_getElem? (i := 54) rfl))) (by decide) (backOfSH (W := 1) (rmVI l Z a0 hw hEL [] b110 x0 x1 x2 h110 n0 Z110 T109.heap.size (own_cs l0 c0 d0) (own_cs l1 c1 d1) (own_cs l2 c2 d2) A110 F_ip_b110 F_kl_b110 F_ms_b110 g_b110 hb_b110 St0 St1 St2) hZ (hw _ (List.mem_of_getElem? (i := 54) rfl)) (hw _ (List.mem_of_getElem? (i := 51) rfl)) (by decide) (by decide) hEL C110.1) (g := (mkF m 148 #[.val (.long i0), .second, .val (.long i1), .second, .val (.long i2), .second, .val (.int i3), .val (.ref r0), .val (.ref r1), .val (.ref r2), .val (.ref x0), .val (.ref x1), .val (.ref x2), .val (.ref x3), .val (.ref x4), .val (.ref x5), .val (.ref x6), .unset, .unset, .unset, .unset] [(.ref x2), (.ref x1), (.ref x0), (.ref b110), (.ref b110)])) rfl (by rw [hml]; rfl) (Steps.refl _) (a := b110) (argsL := [(.ref x0), (.ref x1), (.ref x2)]) (rest := [(.ref b110)]) (lenOf (pd_d11) rfl) rfl (by show 2 * 0 + _ ≤ _; exact Nat.le_of_eq rfl) (hb hby at_148) (fun _ _ => ⟨rfl, e110, (Nat.le_of_ble_eq_true rfl), (Nat.le_of_ble_eq_true rfl)⟩)
  dsimp only [Pt.U, Pt.locs, Pt.cells, Pt.slots] at X111 l111 y111 z111 st111 hQ111 hS111 gr111 C111q
  subst l111 y111 z111
  obtain ⟨X111, hS, hZ, hown⟩ := rebS hS (show _ ≤ T110.heap.size by rw [e110]; exact hk) X111 hS111 gr111 hZ hown
  obtain ⟨rfl, Nq111, Kq111, E_b110, F_ip_b110, F_kl_b110, F_ms_b110⟩ := hQ111
  have C111 := C110.trans C111q
  have V_r0 := V_r0.keep Kq111 (ninS ne_r0_b110 nin0)
  have V_r1 := V_r1.keep Kq111 (ninS ne_r1_b110 nin0)
  have V_r2 := V_r2.keep Kq111 (ninS ne_r2_b110 nin0)
  have St0 := St0.keep Kq111 (allS hb_b110 all0)
  have St1 := St1.keep Kq111 (allS hb_b110 all0)
  have St2 := St2.keep Kq111 (allS hb_b110 all0)
  have St3 := St3.keep Kq111 (allS hb_b110 all0)
  have St4 := St4.keep Kq111 (allS hb_b110 all0)
  have St5 := St5.keep Kq111 (allS hb_b110 all0)
  have St6 := St6.keep Kq111 (allS hb_b110 all0)
  have O := O.keep Kq111 (allS g_b110 all0)
  have N111 := Fr.app N109 Nq111
  have Z111 : n0 ≤ T111.heap.size := Nat.le_trans Z110 Kq111.1
  have hk : T111.heap.size ≤ T111.heap.size := Nat.le_refl _
  have hN2 : T109.heap.size ≤ T111.heap.size := Nat.le_trans E110.1 Kq111.1
  refine own_trW (U' := (T111.setTop (mkF m 151 #[.val (.long i0), .second, .val (.long i1), .second, .val (.long i2), .second, .val (.int i3), .val (.ref r0), .val (.ref r1), .val (.ref r2), .val (.ref x0), .val (.ref x1), .val (.ref x2), .val (.ref x3), .val (.ref x4), .val (.ref x5), .val (.ref x6), .unset, .unset, .unset, .unset] [(.ref b110)]))) st111 ?_
  refine own_stW (U' := (T111.setTop (mkF m 153 #[.val (.long i0), .second, .val (.long i1), .second, .val (.long i2), .second, .val (.int i3), .val (.ref r0), .val (.ref r1), .val (.ref r2), .val (.ref x0), .val (.ref x1), .val (.ref x2), .val (.ref x3), .val (.ref x4), .val (.ref x5), .val (.ref x6), .val (.ref b110), .unset, .unset, .unset] []))) (fun _ k => XS.astore X111.here hx rfl (hb hby at_151) rfl rfl (l' := #[.val (.long i0), .second, .val (.long i1), .second, .val (.long i2), .second, .val (.int i3), .val (.ref r0), .val (.ref r1), .val (.ref r2), .val (.ref x0), .val (.ref x1), .val (.ref x2), .val (.ref x3), .val (.ref x4), .val (.ref x5), .val (.ref x6), .val (.ref b110), .unset, .unset, .unset]) rfl k) ?_
  obtain ⟨T112, h112, X112, e112, E112, A112, D112, -, st112⟩ := newO X111 hx hZ hown (hw _ (List.mem_of_getElem? (i := 49) rfl)) (hw _ (List.mem_of_getElem? (i := 50) rfl)) (hw _ (List.mem_of_getElem? (i := 51) rfl)) rfl (g := (mkF m 153 #[.val (.long i0), .second, .val (.long i1), .second, .val (.long i2), .second, .val (.int i3), .val (.ref r0), .val (.ref r1), .val (.ref r2), .val (.ref x0), .val (.ref x1), .val (.ref x2), .val (.ref x3), .val (.ref x4), .val (.ref x5), .val (.ref x6), .val (.ref b110), .unset, .unset, .unset] [])) rfl (hb hby at_153) (by decide) (by decide)
  obtain ⟨b112, g112⟩ : ∃ z, z = T111.heap.size := ⟨_, rfl⟩
  rw [← g112] at A112 D112 st112
  have ne_r0_b112 : r0 ≠ b112 := Nat.ne_of_lt (Nat.lt_of_lt_of_eq V_r0.lt g112.symm)
  have ne_r1_b112 : r1 ≠ b112 := Nat.ne_of_lt (Nat.lt_of_lt_of_eq V_r1.lt g112.symm)
  have ne_r2_b112 : r2 ≠ b112 := Nat.ne_of_lt (Nat.lt_of_lt_of_eq V_r2.lt g112.symm)
  have ne_b110_b112 : b110 ≠ b112 := Nat.ne_of_lt (Nat.lt_of_lt_of_eq E_b110.lt g112.symm)
  have g_b112 : n0 ≤ b112 := Nat.le_trans Z111 (Nat.le_of_eq g112.symm)
  have O := O.ext E112
  have C112 := C111.trans (CHr.ext E112 C111.1)
  have hk := Nat.le_trans hk E112.1
  have St0 := St0.ext E112
  have St1 := St1.ext E112
  have St2 := St2.ext E112
  have St3 := St3.ext E112
  have St4 := St4.ext E112
  have St5 := St5.ext E112
  have St6 := St6.ext E112
  have V_r0 := V_r0.ext E112
  have V_r1 := V_r1.ext E112
  have V_r2 := V_r2.ext E112
  have E_b110 := E_b110.ext E112
  have F_ip_b110 := F_ip_b110.ext E112
  have F_kl_b110 := F_kl_b110.ext E112
  have F_ms_b110 := F_ms_b110.ext E112
  have Z112 : n0 ≤ h112.size := Nat.le_trans Z111 E112.1
  have hb_b112 : T109.heap.size ≤ b112 := Nat.le_trans hN2 (Nat.le_of_eq g112.symm)
  have F_ip_b112 : Fld Z h112 b112 "com/example/quorum/quorum/ValidationFailure" "instancePointer" "Ljava/lang/String;" .null := D112 (Or.inr (hw _ (List.mem_of_getElem? (i := 63) rfl))) (ty := (.object "java/lang/String")) (by decide)
  have F_kl_b112 : Fld Z h112 b112 "com/example/quorum/quorum/ValidationFailure" "keywordLocation" "Ljava/lang/String;" .null := D112 (Or.inr (hw _ (List.mem_of_getElem? (i := 66) rfl))) (ty := (.object "java/lang/String")) (by decide)
  have F_ms_b112 : Fld Z h112 b112 "com/example/quorum/quorum/ValidationFailure" "message" "Ljava/lang/String;" .null := D112 (Or.inr (hw _ (List.mem_of_getElem? (i := 69) rfl))) (ty := (.object "java/lang/String")) (by decide)
  refine own_stW (U' := (T112.setTop (mkF m 156 #[.val (.long i0), .second, .val (.long i1), .second, .val (.long i2), .second, .val (.int i3), .val (.ref r0), .val (.ref r1), .val (.ref r2), .val (.ref x0), .val (.ref x1), .val (.ref x2), .val (.ref x3), .val (.ref x4), .val (.ref x5), .val (.ref x6), .val (.ref b110), .unset, .unset, .unset] [(.ref b112)]))) st112 ?_
  refine own_stW (U' := (T112.setTop (mkF m 157 #[.val (.long i0), .second, .val (.long i1), .second, .val (.long i2), .second, .val (.int i3), .val (.ref r0), .val (.ref r1), .val (.ref r2), .val (.ref x0), .val (.ref x1), .val (.ref x2), .val (.ref x3), .val (.ref x4), .val (.ref x5), .val (.ref x6), .val (.ref b110), .unset, .unset, .unset] [(.ref b112), (.ref b112)]))) (fun _ k => XS.dup X112.here hx rfl (hb hby at_156) rfl rfl k) ?_
  refine own_stW (U' := (T112.setTop (mkF m 159 #[.val (.long i0), .second, .val (.long i1), .second, .val (.long i2), .second, .val (.int i3), .val (.ref r0), .val (.ref r1), .val (.ref r2), .val (.ref x0), .val (.ref x1), .val (.ref x2), .val (.ref x3), .val (.ref x4), .val (.ref x5), .val (.ref x6), .val (.ref b110), .unset, .unset, .unset] [(.ref x3), (.ref b112), (.ref b112)]))) (fun _ k => XS.aload X112.here hx rfl (hb hby at_157) rfl rfl k) ?_
  refine own_stW (U' := (T112.setTop (mkF m 161 #[.val (.long i0), .second, .val (.long i1), .second, .val (.long i2), .second, .val (.int i3), .val (.ref r0), .val (.ref r1), .val (.ref r2), .val (.ref x0), .val (.ref x1), .val (.ref x2), .val (.ref x3), .val (.ref x4), .val (.ref x5), .val (.ref x6), .val (.ref b110), .unset, .unset, .unset] [(.ref x4), (.ref x3), (.ref b112), (.ref b112)]))) (fun _ k => XS.aload X112.here hx rfl (hb hby at_159) rfl rfl k) ?_
  refine own_stW (U' := (T112.setTop (mkF m 163 #[.val (.long i0), .second, .val (.long i1), .second, .val (.long i2), .second, .val (.int i3), .val (.ref r0), .val (.ref r1), .val (.ref r2), .val (.ref x0), .val (.ref x1), .val (.ref x2), .val (.ref x3), .val (.ref x4), .val (.ref x5), .val (.ref x6), .val (.ref b110), .unset, .unset, .unset] [(.ref x5), (.ref x4), (.ref x3), (.ref b112), (.ref b112)]))) (fun _ k => XS.aload X112.here hx rfl (hb hby at_161) rfl rfl k) ?_
  obtain ⟨_, _, ⟨T113, L113, k113, n113⟩, -, X113, hS113, gr113, ⟨Lc113, hQ113, l113, y113, z113, C113q⟩, st113⟩ := X112.specialBackS hx (y := (⟨"com/example/quorum/quorum/ValidationFailure", "<init>", "(Ljava/lang/String;Ljava/lang/String;Ljava/lang/String;)V"⟩ : MethodName)) rfl hown (mvT hZ (hw _ (List.mem_of_getElem? (i := 52) rfl))) (mvT hZ (hw _ (List.mem_of_getElem? (i := 53) rfl))) (mvT hZ (hw _ (List.mem_of_getElem? (i := 54) rfl))) (by decide) (backOfSH (W := 1) (rmVI l Z a0 hw hEL [] b112 x3 x4 x5 h112 n0 Z112 T109.heap.size (own_cs m0 f0 g0) (own_cs m1 f1 g1) (own_cs m2 f2 g2) A112 F_ip_b112 F_kl_b112 F_ms_b112 g_b112 hb_b112 St3 St4 St5) hZ (hw _ (List.mem_of_getElem? (i := 54) rfl)) (hw _ (List.mem_of_getElem? (i := 51) rfl)) (by decide) (by decide) hEL C112.1) (g := (mkF m 163 #[.val (.long i0), .second, .val (.long i1), .second, .val (.long i2), .second, .val (.int i3), .val (.ref r0), .val (.ref r1), .val (.ref r2), .val (.ref x0), .val (.ref x1), .val (.ref x2), .val (.ref x3), .val (.ref x4), .val (.ref x5), .val (.ref x6), .val (.ref b110), .unset, .unset, .unset] [(.ref x5), (.ref x4), (.ref x3), (.ref b112), (.ref b112)])) rfl (by rw [hml]; rfl) (Steps.refl _) (a := b112) (argsL := [(.ref x3), (.ref x4), (.ref x5)]) (rest := [(.ref b112)]) (lenOf (pd_d11) rfl) rfl (by show 2 * 0 + _ ≤ _; exact Nat.le_of_eq rfl) (hb hby at_163) (fun _ _ => ⟨rfl, e112, (Nat.le_of_ble_eq_true rfl), (Nat.le_of_ble_eq_true rfl)⟩)
  dsimp only [Pt.U, Pt.locs, Pt.cells, Pt.slots] at X113 l113 y113 z113 st113 hQ113 hS113 gr113 C113q
  subst l113 y113 z113
  obtain ⟨X113, hS, hZ, hown⟩ := rebS hS (show _ ≤ T112.heap.size by rw [e112]; exact hk) X113 hS113 gr113 hZ hown
  obtain ⟨rfl, Nq113, Kq113, E_b112, F_ip_b112, F_kl_b112, F_ms_b112⟩ := hQ113
  have C113 := C112.trans C113q
  have V_r0 := V_r0.keep Kq113 (ninS ne_r0_b112 nin0)
  have V_r1 := V_r1.keep Kq113 (ninS ne_r1_b112 nin0)
  have V_r2 := V_r2.keep Kq113 (ninS ne_r2_b112 nin0)
  have E_b110 := E_b110.keep Kq113
  have F_ip_b110 := F_ip_b110.keep Kq113 (ninS ne_b110_b112 nin0)
  have F_kl_b110 := F_kl_b110.keep Kq113 (ninS ne_b110_b112 nin0)
  have F_ms_b110 := F_ms_b110.keep Kq113 (ninS ne_b110_b112 nin0)
  have St0 := St0.keep Kq113 (allS hb_b112 all0)
  have St1 := St1.keep Kq113 (allS hb_b112 all0)
  have St2 := St2.keep Kq113 (allS hb_b112 all0)
  have St3 := St3.keep Kq113 (allS hb_b112 all0)
  have St4 := St4.keep Kq113 (allS hb_b112 all0)
  have St5 := St5.keep Kq113 (allS hb_b112 all0)
  have St6 := St6.keep Kq113 (allS hb_b112 all0)
  have O := O.keep Kq113 (allS g_b112 all0)
  have N113 := Fr.app N111 Nq113
  have Z113 : n0 ≤ T113.heap.size := Nat.le_trans Z112 Kq113.1
  have hk : T113.heap.size ≤ T113.heap.size := Nat.le_refl _
  refine own_trW (U' := (T113.setTop (mkF m 166 #[.val (.long i0), .second, .val (.long i1), .second, .val (.long i2), .second, .val (.int i3), .val (.ref r0), .val (.ref r1), .val (.ref r2), .val (.ref x0), .val (.ref x1), .val (.ref x2), .val (.ref x3), .val (.ref x4), .val (.ref x5), .val (.ref x6), .val (.ref b110), .unset, .unset, .unset] [(.ref b112)]))) st113 ?_
  refine own_stW (U' := (T113.setTop (mkF m 168 #[.val (.long i0), .second, .val (.long i1), .second, .val (.long i2), .second, .val (.int i3), .val (.ref r0), .val (.ref r1), .val (.ref r2), .val (.ref x0), .val (.ref x1), .val (.ref x2), .val (.ref x3), .val (.ref x4), .val (.ref x5), .val (.ref x6), .val (.ref b110), .val (.ref b112), .unset, .unset] []))) (fun _ k => XS.astore X113.here hx rfl (hb hby at_166) rfl rfl (l' := #[.val (.long i0), .second, .val (.long i1), .second, .val (.long i2), .second, .val (.int i3), .val (.ref r0), .val (.ref r1), .val (.ref r2), .val (.ref x0), .val (.ref x1), .val (.ref x2), .val (.ref x3), .val (.ref x4), .val (.ref x5), .val (.ref x6), .val (.ref b110), .val (.ref b112), .unset, .unset]) rfl k) ?_
  refine own_stW (U' := (T113.setTop (mkF m 170 #[.val (.long i0), .second, .val (.long i1), .second, .val (.long i2), .second, .val (.int i3), .val (.ref r0), .val (.ref r1), .val (.ref r2), .val (.ref x0), .val (.ref x1), .val (.ref x2), .val (.ref x3), .val (.ref x4), .val (.ref x5), .val (.ref x6), .val (.ref b110), .val (.ref b112), .unset, .unset] [(.int i3)]))) (fun _ k => XS.iload X113.here hx rfl (hb hby at_168) rfl k) ?_
  refine own_stW (U' := (T113.setTop (mkF m 171 #[.val (.long i0), .second, .val (.long i1), .second, .val (.long i2), .second, .val (.int i3), .val (.ref r0), .val (.ref r1), .val (.ref r2), .val (.ref x0), .val (.ref x1), .val (.ref x2), .val (.ref x3), .val (.ref x4), .val (.ref x5), .val (.ref x6), .val (.ref b110), .val (.ref b112), .unset, .unset] [(.int (3 : Int32)), (.int i3)]))) (fun _ k => XS.iconst X113.here hx rfl (hb hby at_170) k) ?_
  refine own_stW (U' := (T113.setTop (mkF m 172 #[.val (.long i0), .second, .val (.long i1), .second, .val (.long i2), .second, .val (.int i3), .val (.ref r0), .val (.ref r1), .val (.ref r2), .val (.ref x0), .val (.ref x1), .val (.ref x2), .val (.ref x3), .val (.ref x4), .val (.ref x5), .val (.ref x6), .val (.ref b110), .val (.ref b112), .unset, .unset] [(.int (i3 &&& (3 : Int32)))]))) (fun _ k => XS.iand X113.here hx rfl (hb hby at_171) rfl k) ?_
  refine own_stW (U' := (T113.setTop (mkF m 174 #[.val (.long i0), .second, .val (.long i1), .second, .val (.long i2), .second, .val (.int i3), .val (.ref r0), .val (.ref r1), .val (.ref r2), .val (.ref x0), .val (.ref x1), .val (.ref x2), .val (.ref x3), .val (.ref x4), .val (.ref x5), .val (.ref x6), .val (.ref b110), .val (.ref b112), .val (.int (i3 &&& (3 : Int32))), .unset] []))) (fun _ k => XS.istore X113.here hx rfl (hb hby at_172) rfl (l' := #[.val (.long i0), .second, .val (.long i1), .second, .val (.long i2), .second, .val (.int i3), .val (.ref r0), .val (.ref r1), .val (.ref r2), .val (.ref x0), .val (.ref x1), .val (.ref x2), .val (.ref x3), .val (.ref x4), .val (.ref x5), .val (.ref x6), .val (.ref b110), .val (.ref b112), .val (.int (i3 &&& (3 : Int32))), .unset]) rfl k) ?_
  refine own_stW (U' := (T113.setTop (mkF m 176 #[.val (.long i0), .second, .val (.long i1), .second, .val (.long i2), .second, .val (.int i3), .val (.ref r0), .val (.ref r1), .val (.ref r2), .val (.ref x0), .val (.ref x1), .val (.ref x2), .val (.ref x3), .val (.ref x4), .val (.ref x5), .val (.ref x6), .val (.ref b110), .val (.ref b112), .val (.int (i3 &&& (3 : Int32))), .unset] [(.int (i3 &&& (3 : Int32)))]))) (fun _ k => XS.iload X113.here hx rfl (hb hby at_174) rfl k) ?_
  refine own_stW (U' := (T113.setTop (mkF m 177 #[.val (.long i0), .second, .val (.long i1), .second, .val (.long i2), .second, .val (.int i3), .val (.ref r0), .val (.ref r1), .val (.ref r2), .val (.ref x0), .val (.ref x1), .val (.ref x2), .val (.ref x3), .val (.ref x4), .val (.ref x5), .val (.ref x6), .val (.ref b110), .val (.ref b112), .val (.int (i3 &&& (3 : Int32))), .unset] [(.int (1 : Int32)), (.int (i3 &&& (3 : Int32)))]))) (fun _ k => XS.iconst X113.here hx rfl (hb hby at_176) k) ?_
  by_cases k1 : (i3 &&& (3 : Int32)) = (1 : Int32)
  · skip
    refine own_stW (U' := (T113.setTop (mkF m 180 #[.val (.long i0), .second, .val (.long i1), .second, .val (.long i2), .second, .val (.int i3), .val (.ref r0), .val (.ref r1), .val (.ref r2), .val (.ref x0), .val (.ref x1), .val (.ref x2), .val (.ref x3), .val (.ref x4), .val (.ref x5), .val (.ref x6), .val (.ref b110), .val (.ref b112), .val (.int (i3 &&& (3 : Int32))), .unset] []))) (fun _ k => XS.icmpNo X113.here hx rfl (hb hby at_177) rfl (teq k1).2 k) ?_
    refine own_stW (U' := (T113.setTop (mkF m 182 #[.val (.long i0), .second, .val (.long i1), .second, .val (.long i2), .second, .val (.int i3), .val (.ref r0), .val (.ref r1), .val (.ref r2), .val (.ref x0), .val (.ref x1), .val (.ref x2), .val (.ref x3), .val (.ref x4), .val (.ref x5), .val (.ref x6), .val (.ref b110), .val (.ref b112), .val (.int (i3 &&& (3 : Int32))), .unset] [(.ref b110)]))) (fun _ k => XS.aload X113.here hx rfl (hb hby at_180) rfl rfl k) ?_
    refine own_stW (U' := (T113.setTop (mkF m 183 #[.val (.long i0), .second, .val (.long i1), .second, .val (.long i2), .second, .val (.int i3), .val (.ref r0), .val (.ref r1), .val (.ref r2), .val (.ref x0), .val (.ref x1), .val (.ref x2), .val (.ref x3), .val (.ref x4), .val (.ref x5), .val (.ref x6), .val (.ref b110), .val (.ref b112), .val (.int (i3 &&& (3 : Int32))), .unset] [.null, (.ref b110)]))) (fun _ k => XS.aconstNull X113.here hx rfl (hb hby at_182) k) ?_
    obtain ⟨cq114, kq114, qa114, qb114, qc114⟩ := isOf hZ rfl E_b110
    obtain ⟨_, _, ⟨T114, L114, k114, n114⟩, -, X114, ⟨Lc114, hQ114, l114, y114, z114⟩, st114⟩ := X113.virtualBack hx (y := (⟨"com/example/quorum/quorum/ValidationFailure", "equals", "(Ljava/lang/Object;)Z"⟩ : MethodName)) (z := (⟨"com/example/quorum/quorum/ValidationFailure", "equals", "(Ljava/lang/Object;)Z"⟩ : MethodName)) hown (mvT hZ (hw _ (List.mem_of_getElem? (i := 70) rfl))) (mvT hZ (hw _ (List.mem_of_getElem? (i := 71) rfl))) (notFace_of_selects (args := #[]) (mvT hZ (hw _ (List.mem_of_getElem? (i := 73) rfl)))) (mvT hZ (hw _ (List.mem_of_getElem? (i := 73) rfl))) (mvT hZ (hw _ (List.mem_of_getElem? (i := 72) rfl))) (by decide) (backOf (W := 0) (rmVEN l Z a0 hw [] b110 T113.heap n0 Z113) hZ (hw _ (List.mem_of_getElem? (i := 74) rfl)) (hw _ (List.mem_of_getElem? (i := 51) rfl)) (by decide) (by decide)) qa114 qc114 (g := (mkF m 183 #[.val (.long i0), .second, .val (.long i1), .second, .val (.long i2), .second, .val (.int i3), .val (.ref r0), .val (.ref r1), .val (.ref r2), .val (.ref x0), .val (.ref x1), .val (.ref x2), .val (.ref x3), .val (.ref x4), .val (.ref x5), .val (.ref x6), .val (.ref b110), .val (.ref b112), .val (.int (i3 &&& (3 : Int32))), .unset] [.null, (.ref b110)])) rfl (by rw [hml]; rfl) (Steps.refl _) (argsL := [.null]) (rest := []) (lenOf (pd_d13) rfl) rfl (by show 2 * 0 + _ ≤ _; exact Nat.le_of_eq rfl) (hb hby at_183) (fun _ _ => ⟨rfl, rfl, (Nat.le_of_ble_eq_true rfl), (Nat.le_of_ble_eq_true rfl)⟩)
    dsimp only [Pt.U, Pt.locs, Pt.cells, Pt.slots] at X114 l114 y114 z114 st114 hQ114
    subst l114 y114 z114
    obtain ⟨rfl, Nq114, eq114⟩ := hQ114
    have N114 := Fr.app N113 Nq114
    refine own_trW (U' := (T114.setTop (mkF m 186 #[.val (.long i0), .second, .val (.long i1), .second, .val (.long i2), .second, .val (.int i3), .val (.ref r0), .val (.ref r1), .val (.ref r2), .val (.ref x0), .val (.ref x1), .val (.ref x2), .val (.ref x3), .val (.ref x4), .val (.ref x5), .val (.ref x6), .val (.ref b110), .val (.ref b112), .val (.int (i3 &&& (3 : Int32))), .unset] [(.int (0 : Int32))]))) st114 ?_
    refine own_stW (U' := (T114.setTop (mkF m 189 #[.val (.long i0), .second, .val (.long i1), .second, .val (.long i2), .second, .val (.int i3), .val (.ref r0), .val (.ref r1), .val (.ref r2), .val (.ref x0), .val (.ref x1), .val (.ref x2), .val (.ref x3), .val (.ref x4), .val (.ref x5), .val (.ref x6), .val (.ref b110), .val (.ref b112), .val (.int (i3 &&& (3 : Int32))), .unset] []))) (fun _ k => XS.ifNo X114.here hx rfl (hb hby at_186) rfl ((if0 _ _).trans (teq rfl).2) k) ?_
    refine own_stW (U' := (T114.setTop (mkF m 190 #[.val (.long i0), .second, .val (.long i1), .second, .val (.long i2), .second, .val (.int i3), .val (.ref r0), .val (.ref r1), .val (.ref r2), .val (.ref x0), .val (.ref x1), .val (.ref x2), .val (.ref x3), .val (.ref x4), .val (.ref x5), .val (.ref x6), .val (.ref b110), .val (.ref b112), .val (.int (i3 &&& (3 : Int32))), .unset] [(.int (1 : Int32))]))) (fun _ k => XS.iconst X114.here hx rfl (hb hby at_189) k) ?_
    refine own_stW (U' := (T114.setTop (mkF m 194 #[.val (.long i0), .second, .val (.long i1), .second, .val (.long i2), .second, .val (.int i3), .val (.ref r0), .val (.ref r1), .val (.ref r2), .val (.ref x0), .val (.ref x1), .val (.ref x2), .val (.ref x3), .val (.ref x4), .val (.ref x5), .val (.ref x6), .val (.ref b110), .val (.ref b112), .val (.int (i3 &&& (3 : Int32))), .unset] [(.int (1 : Int32))]))) (fun _ k => XS.goto X114.here hx rfl (pc0 := 190) (pc' := 194) rfl (hb hby at_190) (by decide) (by decide) k) ?_
    exact own_retNW X114 hx hS (by rw [eq114]; exact hk) hZ hEL (by rw [eq114]; exact C113) (t := .boolean) Bd.returns Bd.notSynchronized (by simp) rfl (hb hby at_194) (by decide) (by decide) (⟨rfl, N114⟩)
  · skip
    refine own_stW (U' := (T113.setTop (mkF m 195 #[.val (.long i0), .second, .val (.long i1), .second, .val (.long i2), .second, .val (.int i3), .val (.ref r0), .val (.ref r1), .val (.ref r2), .val (.ref x0), .val (.ref x1), .val (.ref x2), .val (.ref x3), .val (.ref x4), .val (.ref x5), .val (.ref x6), .val (.ref b110), .val (.ref b112), .val (.int (i3 &&& (3 : Int32))), .unset] []))) (fun _ k => XS.icmpYes X113.here hx rfl (pc0 := 177) (pc' := 195) rfl (hb hby at_177) rfl (feq k1).2 (by decide) (by decide) k) ?_
    refine own_stW (U' := (T113.setTop (mkF m 197 #[.val (.long i0), .second, .val (.long i1), .second, .val (.long i2), .second, .val (.int i3), .val (.ref r0), .val (.ref r1), .val (.ref r2), .val (.ref x0), .val (.ref x1), .val (.ref x2), .val (.ref x3), .val (.ref x4), .val (.ref x5), .val (.ref x6), .val (.ref b110), .val (.ref b112), .val (.int (i3 &&& (3 : Int32))), .unset] [(.int (i3 &&& (3 : Int32)))]))) (fun _ k => XS.iload X113.here hx rfl (hb hby at_195) rfl k) ?_
    refine own_stW (U' := (T113.setTop (mkF m 198 #[.val (.long i0), .second, .val (.long i1), .second, .val (.long i2), .second, .val (.int i3), .val (.ref r0), .val (.ref r1), .val (.ref r2), .val (.ref x0), .val (.ref x1), .val (.ref x2), .val (.ref x3), .val (.ref x4), .val (.ref x5), .val (.ref x6), .val (.ref b110), .val (.ref b112), .val (.int (i3 &&& (3 : Int32))), .unset] [(.int (2 : Int32)), (.int (i3 &&& (3 : Int32)))]))) (fun _ k => XS.iconst X113.here hx rfl (hb hby at_197) k) ?_
    by_cases k2 : (i3 &&& (3 : Int32)) = (2 : Int32)
    · skip
      refine own_stW (U' := (T113.setTop (mkF m 201 #[.val (.long i0), .second, .val (.long i1), .second, .val (.long i2), .second, .val (.int i3), .val (.ref r0), .val (.ref r1), .val (.ref r2), .val (.ref x0), .val (.ref x1), .val (.ref x2), .val (.ref x3), .val (.ref x4), .val (.ref x5), .val (.ref x6), .val (.ref b110), .val (.ref b112), .val (.int (i3 &&& (3 : Int32))), .unset] []))) (fun _ k => XS.icmpNo X113.here hx rfl (hb hby at_198) rfl (teq k2).2 k) ?_
      refine own_stW (U' := (T113.setTop (mkF m 203 #[.val (.long i0), .second, .val (.long i1), .second, .val (.long i2), .second, .val (.int i3), .val (.ref r0), .val (.ref r1), .val (.ref r2), .val (.ref x0), .val (.ref x1), .val (.ref x2), .val (.ref x3), .val (.ref x4), .val (.ref x5), .val (.ref x6), .val (.ref b110), .val (.ref b112), .val (.int (i3 &&& (3 : Int32))), .unset] [(.ref b110)]))) (fun _ k => XS.aload X113.here hx rfl (hb hby at_201) rfl rfl k) ?_
      refine own_stW (U' := (T113.setTop (mkF m 205 #[.val (.long i0), .second, .val (.long i1), .second, .val (.long i2), .second, .val (.int i3), .val (.ref r0), .val (.ref r1), .val (.ref r2), .val (.ref x0), .val (.ref x1), .val (.ref x2), .val (.ref x3), .val (.ref x4), .val (.ref x5), .val (.ref x6), .val (.ref b110), .val (.ref b112), .val (.int (i3 &&& (3 : Int32))), .unset] [(.ref x6), (.ref b110)]))) (fun _ k => XS.aload X113.here hx rfl (hb hby at_203) rfl rfl k) ?_
      obtain ⟨cq115, kq115, qa115, qb115, qc115⟩ := isOf hZ rfl E_b110
      obtain ⟨_, _, ⟨T115, L115, k115, n115⟩, -, X115, ⟨Lc115, hQ115, l115, y115, z115⟩, st115⟩ := X113.virtualBack hx (y := (⟨"com/example/quorum/quorum/ValidationFailure", "equals", "(Ljava/lang/Object;)Z"⟩ : MethodName)) (z := (⟨"com/example/quorum/quorum/ValidationFailure", "equals", "(Ljava/lang/Object;)Z"⟩ : MethodName)) hown (mvT hZ (hw _ (List.mem_of_getElem? (i := 70) rfl))) (mvT hZ (hw _ (List.mem_of_getElem? (i := 71) rfl))) (notFace_of_selects (args := #[]) (mvT hZ (hw _ (List.mem_of_getElem? (i := 73) rfl)))) (mvT hZ (hw _ (List.mem_of_getElem? (i := 73) rfl))) (mvT hZ (hw _ (List.mem_of_getElem? (i := 72) rfl))) (by decide) (backOf (W := 0) (rmVES l Z a0 hw [] b110 x6 T113.heap n0 Z113 St6.2.2.2.1) hZ (hw _ (List.mem_of_getElem? (i := 74) rfl)) (hw _ (List.mem_of_getElem? (i := 51) rfl)) (by decide) (by decide)) qa115 qc115 (g := (mkF m 205 #[.val (.long i0), .second, .val (.long i1), .second, .val (.long i2), .second, .val (.int i3), .val (.ref r0), .val (.ref r1), .val (.ref r2), .val (.ref x0), .val (.ref x1), .val (.ref x2), .val (.ref x3), .val (.ref x4), .val (.ref x5), .val (.ref x6), .val (.ref b110), .val (.ref b112), .val (.int (i3 &&& (3 : Int32))), .unset] [(.ref x6), (.ref b110)])) rfl (by rw [hml]; rfl) (Steps.refl _) (argsL := [(.ref x6)]) (rest := []) (lenOf (pd_d13) rfl) rfl (by show 2 * 0 + _ ≤ _; exact Nat.le_of_eq rfl) (hb hby at_205) (fun _ _ => ⟨rfl, rfl, (Nat.le_of_ble_eq_true rfl), (Nat.le_of_ble_eq_true rfl)⟩)
      dsimp only [Pt.U, Pt.locs, Pt.cells, Pt.slots] at X115 l115 y115 z115 st115 hQ115
      subst l115 y115 z115
      obtain ⟨rfl, Nq115, eq115⟩ := hQ115
      have N115 := Fr.app N113 Nq115
      refine own_trW (U' := (T115.setTop (mkF m 208 #[.val (.long i0), .second, .val (.long i1), .second, .val (.long i2), .second, .val (.int i3), .val (.ref r0), .val (.ref r1), .val (.ref r2), .val (.ref x0), .val (.ref x1), .val (.ref x2), .val (.ref x3), .val (.ref x4), .val (.ref x5), .val (.ref x6), .val (.ref b110), .val (.ref b112), .val (.int (i3 &&& (3 : Int32))), .unset] [(.int (0 : Int32))]))) st115 ?_
      refine own_stW (U' := (T115.setTop (mkF m 211 #[.val (.long i0), .second, .val (.long i1), .second, .val (.long i2), .second, .val (.int i3), .val (.ref r0), .val (.ref r1), .val (.ref r2), .val (.ref x0), .val (.ref x1), .val (.ref x2), .val (.ref x3), .val (.ref x4), .val (.ref x5), .val (.ref x6), .val (.ref b110), .val (.ref b112), .val (.int (i3 &&& (3 : Int32))), .unset] []))) (fun _ k => XS.ifNo X115.here hx rfl (hb hby at_208) rfl ((if0 _ _).trans (teq rfl).2) k) ?_
      refine own_stW (U' := (T115.setTop (mkF m 212 #[.val (.long i0), .second, .val (.long i1), .second, .val (.long i2), .second, .val (.int i3), .val (.ref r0), .val (.ref r1), .val (.ref r2), .val (.ref x0), .val (.ref x1), .val (.ref x2), .val (.ref x3), .val (.ref x4), .val (.ref x5), .val (.ref x6), .val (.ref b110), .val (.ref b112), .val (.int (i3 &&& (3 : Int32))), .unset] [(.int (1 : Int32))]))) (fun _ k => XS.iconst X115.here hx rfl (hb hby at_211) k) ?_
      refine own_stW (U' := (T115.setTop (mkF m 216 #[.val (.long i0), .second, .val (.long i1), .second, .val (.long i2), .second, .val (.int i3), .val (.ref r0), .val (.ref r1), .val (.ref r2), .val (.ref x0), .val (.ref x1), .val (.ref x2), .val (.ref x3), .val (.ref x4), .val (.ref x5), .val (.ref x6), .val (.ref b110), .val (.ref b112), .val (.int (i3 &&& (3 : Int32))), .unset] [(.int (1 : Int32))]))) (fun _ k => XS.goto X115.here hx rfl (pc0 := 212) (pc' := 216) rfl (hb hby at_212) (by decide) (by decide) k) ?_
      exact own_retNW X115 hx hS (by rw [eq115]; exact hk) hZ hEL (by rw [eq115]; exact C113) (t := .boolean) Bd.returns Bd.notSynchronized (by simp) rfl (hb hby at_216) (by decide) (by decide) (⟨rfl, N115⟩)
    · skip
      refine own_stW (U' := (T113.setTop (mkF m 217 #[.val (.long i0), .second, .val (.long i1), .second, .val (.long i2), .second, .val (.int i3), .val (.ref r0), .val (.ref r1), .val (.ref r2), .val (.ref x0), .val (.ref x1), .val (.ref x2), .val (.ref x3), .val (.ref x4), .val (.ref x5), .val (.ref x6), .val (.ref b110), .val (.ref b112), .val (.int (i3 &&& (3 : Int32))), .unset] []))) (fun _ k => XS.icmpYes X113.here hx rfl (pc0 := 198) (pc' := 217) rfl (hb hby at_198) rfl (feq k2).2 (by decide) (by decide) k) ?_
      refine own_stW (U' := (T113.setTop (mkF m 219 #[.val (.long i0), .second, .val (.long i1), .second, .val (.long i2), .second, .val (.int i3), .val (.ref r0), .val (.ref r1), .val (.ref r2), .val (.ref x0), .val (.ref x1), .val (.ref x2), .val (.ref x3), .val (.ref x4), .val (.ref x5), .val (.ref x6), .val (.ref b110), .val (.ref b112), .val (.int (i3 &&& (3 : Int32))), .unset] [(.int (i3 &&& (3 : Int32)))]))) (fun _ k => XS.iload X113.here hx rfl (hb hby at_217) rfl k) ?_
      refine own_stW (U' := (T113.setTop (mkF m 220 #[.val (.long i0), .second, .val (.long i1), .second, .val (.long i2), .second, .val (.int i3), .val (.ref r0), .val (.ref r1), .val (.ref r2), .val (.ref x0), .val (.ref x1), .val (.ref x2), .val (.ref x3), .val (.ref x4), .val (.ref x5), .val (.ref x6), .val (.ref b110), .val (.ref b112), .val (.int (i3 &&& (3 : Int32))), .unset] [(.int (3 : Int32)), (.int (i3 &&& (3 : Int32)))]))) (fun _ k => XS.iconst X113.here hx rfl (hb hby at_219) k) ?_
      by_cases k3 : (i3 &&& (3 : Int32)) = (3 : Int32)
      · skip
        refine own_stW (U' := (T113.setTop (mkF m 223 #[.val (.long i0), .second, .val (.long i1), .second, .val (.long i2), .second, .val (.int i3), .val (.ref r0), .val (.ref r1), .val (.ref r2), .val (.ref x0), .val (.ref x1), .val (.ref x2), .val (.ref x3), .val (.ref x4), .val (.ref x5), .val (.ref x6), .val (.ref b110), .val (.ref b112), .val (.int (i3 &&& (3 : Int32))), .unset] []))) (fun _ k => XS.icmpNo X113.here hx rfl (hb hby at_220) rfl (teq k3).2 k) ?_
        refine own_stW (U' := (T113.setTop (mkF m 225 #[.val (.long i0), .second, .val (.long i1), .second, .val (.long i2), .second, .val (.int i3), .val (.ref r0), .val (.ref r1), .val (.ref r2), .val (.ref x0), .val (.ref x1), .val (.ref x2), .val (.ref x3), .val (.ref x4), .val (.ref x5), .val (.ref x6), .val (.ref b110), .val (.ref b112), .val (.int (i3 &&& (3 : Int32))), .unset] [(.ref b110)]))) (fun _ k => XS.aload X113.here hx rfl (hb hby at_223) rfl rfl k) ?_
        refine own_stW (U' := (T113.setTop (mkF m 227 #[.val (.long i0), .second, .val (.long i1), .second, .val (.long i2), .second, .val (.int i3), .val (.ref r0), .val (.ref r1), .val (.ref r2), .val (.ref x0), .val (.ref x1), .val (.ref x2), .val (.ref x3), .val (.ref x4), .val (.ref x5), .val (.ref x6), .val (.ref b110), .val (.ref b112), .val (.int (i3 &&& (3 : Int32))), .unset] [(.ref b110), (.ref b110)]))) (fun _ k => XS.aload X113.here hx rfl (hb hby at_225) rfl rfl k) ?_
        obtain ⟨cq116, kq116, qa116, qb116, qc116⟩ := isOf hZ rfl E_b110
        obtain ⟨_, _, ⟨T116, L116, k116, n116⟩, -, X116, ⟨Lc116, hQ116, l116, y116, z116⟩, st116⟩ := X113.virtualBack hx (y := (⟨"com/example/quorum/quorum/ValidationFailure", "equals", "(Ljava/lang/Object;)Z"⟩ : MethodName)) (z := (⟨"com/example/quorum/quorum/ValidationFailure", "equals", "(Ljava/lang/Object;)Z"⟩ : MethodName)) hown (mvT hZ (hw _ (List.mem_of_getElem? (i := 70) rfl))) (mvT hZ (hw _ (List.mem_of_getElem? (i := 71) rfl))) (notFace_of_selects (args := #[]) (mvT hZ (hw _ (List.mem_of_getElem? (i := 73) rfl)))) (mvT hZ (hw _ (List.mem_of_getElem? (i := 73) rfl))) (mvT hZ (hw _ (List.mem_of_getElem? (i := 72) rfl))) (by decide) (backOf (W := 0) (rmVE l Z a0 hw [] b110 b110 x0 x1 x2 x0 x1 x2 (own_cs l0 c0 d0) (own_cs l1 c1 d1) (own_cs l2 c2 d2) (own_cs l0 c0 d0) (own_cs l1 c1 d1) (own_cs l2 c2 d2) T109.heap.size z0 T113.heap n0 Z113 E_b110 F_ip_b110 F_kl_b110 F_ms_b110 F_ip_b110 F_kl_b110 F_ms_b110 St0 St1 St2 St0 St1 St2 O S0 hz0) hZ (hw _ (List.mem_of_getElem? (i := 74) rfl)) (hw _ (List.mem_of_getElem? (i := 51) rfl)) (by decide) (by decide)) qa116 qc116 (g := (mkF m 227 #[.val (.long i0), .second, .val (.long i1), .second, .val (.long i2), .second, .val (.int i3), .val (.ref r0), .val (.ref r1), .val (.ref r2), .val (.ref x0), .val (.ref x1), .val (.ref x2), .val (.ref x3), .val (.ref x4), .val (.ref x5), .val (.ref x6), .val (.ref b110), .val (.ref b112), .val (.int (i3 &&& (3 : Int32))), .unset] [(.ref b110), (.ref b110)])) rfl (by rw [hml]; rfl) (Steps.refl _) (argsL := [(.ref b110)]) (rest := []) (lenOf (pd_d13) rfl) rfl (by show 2 * 0 + _ ≤ _; exact Nat.le_of_eq rfl) (hb hby at_227) (fun _ _ => ⟨rfl, rfl, (Nat.le_of_ble_eq_true rfl), (Nat.le_of_ble_eq_true rfl)⟩)
        dsimp only [Pt.U, Pt.locs, Pt.cells, Pt.slots] at X116 l116 y116 z116 st116 hQ116
        subst l116 y116 z116
        obtain ⟨rfl, Nq116, eq116⟩ := hQ116
        have N116 := Fr.app N113 Nq116
        refine own_trW (U' := (T116.setTop (mkF m 230 #[.val (.long i0), .second, .val (.long i1), .second, .val (.long i2), .second, .val (.int i3), .val (.ref r0), .val (.ref r1), .val (.ref r2), .val (.ref x0), .val (.ref x1), .val (.ref x2), .val (.ref x3), .val (.ref x4), .val (.ref x5), .val (.ref x6), .val (.ref b110), .val (.ref b112), .val (.int (i3 &&& (3 : Int32))), .unset] [(.int (own_b (decide ((own_cs l0 c0 d0) = (own_cs l0 c0 d0)) && (decide ((own_cs l1 c1 d1) = (own_cs l1 c1 d1)) && decide ((own_cs l2 c2 d2) = (own_cs l2 c2 d2))))))]))) st116 ?_
        rw [show (own_b (decide ((own_cs l0 c0 d0) = (own_cs l0 c0 d0)) && (decide ((own_cs l1 c1 d1) = (own_cs l1 c1 d1)) && decide ((own_cs l2 c2 d2) = (own_cs l2 c2 d2))))) = (1 : Int32) by simp [own_b]]
        exact own_retNW X116 hx hS (by rw [eq116]; exact hk) hZ hEL (by rw [eq116]; exact C113) (t := .boolean) Bd.returns Bd.notSynchronized (by simp) rfl (hb hby at_230) (by decide) (by decide) (⟨rfl, N116⟩)
      · skip
        refine own_stW (U' := (T113.setTop (mkF m 231 #[.val (.long i0), .second, .val (.long i1), .second, .val (.long i2), .second, .val (.int i3), .val (.ref r0), .val (.ref r1), .val (.ref r2), .val (.ref x0), .val (.ref x1), .val (.ref x2), .val (.ref x3), .val (.ref x4), .val (.ref x5), .val (.ref x6), .val (.ref b110), .val (.ref b112), .val (.int (i3 &&& (3 : Int32))), .unset] []))) (fun _ k => XS.icmpYes X113.here hx rfl (pc0 := 220) (pc' := 231) rfl (hb hby at_220) rfl (feq k3).2 (by decide) (by decide) k) ?_
        have tail : ∀ (T : State) (locs : List Loc) (r : Int32), r = (own_b ((own_same l0 c0 d0 m0 f0 g0) && ((own_same l1 c1 d1 m1 f1 g1) && (own_same l2 c2 d2 m2 f2 g2)))) → Stand p l e room_1 (s.setVm T113.vm) m #[(.long i0), (.long i1), (.long i2), (.int i3)] below meth c T locs 59 442 → Fr n0 locs → T.heap = T113.heap → own_EndW p e s below Z own_EL h0 (Q_rm0 Z i0 i1 i2 i3 z0 h0 n0) 72 4352 (T.setTop (mkF m 260 #[.val (.long i0), .second, .val (.long i1), .second, .val (.long i2), .second, .val (.int i3), .val (.ref r0), .val (.ref r1), .val (.ref r2), .val (.ref x0), .val (.ref x1), .val (.ref x2), .val (.ref x3), .val (.ref x4), .val (.ref x5), .val (.ref x6), .val (.ref b110), .val (.ref b112), .val (.int (i3 &&& (3 : Int32))), .unset] [(.int r)])) := by
          intro T locs r hr XL NL eL
          have qe : own_b (decide ((own_cs l0 c0 d0) = (own_cs m0 f0 g0)) && (decide ((own_cs l1 c1 d1) = (own_cs m1 f1 g1)) && decide ((own_cs l2 c2 d2) = (own_cs m2 f2 g2)))) = r := by rw [hr, own_same_eq hF0.1 hF0.2.1, own_same_eq hF1.1 hF1.2.1, own_same_eq hF2.1 hF2.2.1]
          have qf : own_b (decide ((own_cs m0 f0 g0) = (own_cs l0 c0 d0)) && (decide ((own_cs m1 f1 g1) = (own_cs l1 c1 d1)) && decide ((own_cs m2 f2 g2) = (own_cs l2 c2 d2)))) = r := by rw [← qe]; simp only [eq_comm]
          refine own_stW (U' := (T.setTop (mkF m 262 #[.val (.long i0), .second, .val (.long i1), .second, .val (.long i2), .second, .val (.int i3), .val (.ref r0), .val (.ref r1), .val (.ref r2), .val (.ref x0), .val (.ref x1), .val (.ref x2), .val (.ref x3), .val (.ref x4), .val (.ref x5), .val (.ref x6), .val (.ref b110), .val (.ref b112), .val (.int (i3 &&& (3 : Int32))), .val (.int r)] []))) (fun _ k => XS.istore XL.here hx rfl (hb hby at_260) rfl (l' := #[.val (.long i0), .second, .val (.long i1), .second, .val (.long i2), .second, .val (.int i3), .val (.ref r0), .val (.ref r1), .val (.ref r2), .val (.ref x0), .val (.ref x1), .val (.ref x2), .val (.ref x3), .val (.ref x4), .val (.ref x5), .val (.ref x6), .val (.ref b110), .val (.ref b112), .val (.int (i3 &&& (3 : Int32))), .val (.int r)]) rfl k) ?_
          refine own_stW (U' := (T.setTop (mkF m 264 #[.val (.long i0), .second, .val (.long i1), .second, .val (.long i2), .second, .val (.int i3), .val (.ref r0), .val (.ref r1), .val (.ref r2), .val (.ref x0), .val (.ref x1), .val (.ref x2), .val (.ref x3), .val (.ref x4), .val (.ref x5), .val (.ref x6), .val (.ref b110), .val (.ref b112), .val (.int (i3 &&& (3 : Int32))), .val (.int r)] [(.ref b110)]))) (fun _ k => XS.aload XL.here hx rfl (hb hby at_262) rfl rfl k) ?_
          refine own_stW (U' := (T.setTop (mkF m 266 #[.val (.long i0), .second, .val (.long i1), .second, .val (.long i2), .second, .val (.int i3), .val (.ref r0), .val (.ref r1), .val (.ref r2), .val (.ref x0), .val (.ref x1), .val (.ref x2), .val (.ref x3), .val (.ref x4), .val (.ref x5), .val (.ref x6), .val (.ref b110), .val (.ref b112), .val (.int (i3 &&& (3 : Int32))), .val (.int r)] [(.ref b112), (.ref b110)]))) (fun _ k => XS.aload XL.here hx rfl (hb hby at_264) rfl rfl k) ?_
          obtain ⟨cq117, kq117, qa117, qb117, qc117⟩ := isOf hZ eL E_b110
          obtain ⟨_, _, ⟨T117, L117, k117, n117⟩, -, X117, ⟨Lc117, hQ117, l117, y117, z117⟩, st117⟩ := XL.virtualBack hx (y := (⟨"com/example/quorum/quorum/ValidationFailure", "equals", "(Ljava/lang/Object;)Z"⟩ : MethodName)) (z := (⟨"com/example/quorum/quorum/ValidationFailure", "equals", "(Ljava/lang/Object;)Z"⟩ : MethodName)) hown (mvT hZ (hw _ (List.mem_of_getElem? (i := 70) rfl))) (mvT hZ (hw _ (List.mem_of_getElem? (i := 71) rfl))) (notFace_of_selects (args := #[]) (mvT hZ (hw _ (List.mem_of_getElem? (i := 73) rfl)))) (mvT hZ (hw _ (List.mem_of_getElem? (i := 73) rfl))) (mvT hZ (hw _ (List.mem_of_getElem? (i := 72) rfl))) (by decide) (backOf (W := 0) (rmVE l Z a0 hw [] b110 b112 x0 x1 x2 x3 x4 x5 (own_cs l0 c0 d0) (own_cs l1 c1 d1) (own_cs l2 c2 d2) (own_cs m0 f0 g0) (own_cs m1 f1 g1) (own_cs m2 f2 g2) T109.heap.size z0 T113.heap n0 Z113 E_b112 F_ip_b110 F_kl_b110 F_ms_b110 F_ip_b112 F_kl_b112 F_ms_b112 St0 St1 St2 St3 St4 St5 O S0 hz0) hZ (hw _ (List.mem_of_getElem? (i := 74) rfl)) (hw _ (List.mem_of_getElem? (i := 51) rfl)) (by decide) (by decide)) qa117 qc117 (g := (mkF m 266 #[.val (.long i0), .second, .val (.long i1), .second, .val (.long i2), .second, .val (.int i3), .val (.ref r0), .val (.ref r1), .val (.ref r2), .val (.ref x0), .val (.ref x1), .val (.ref x2), .val (.ref x3), .val (.ref x4), .val (.ref x5), .val (.ref x6), .val (.ref b110), .val (.ref b112), .val (.int (i3 &&& (3 : Int32))), .val (.int r)] [(.ref b112), (.ref b110)])) rfl (by rw [hml]; rfl) (Steps.refl _) (argsL := [(.ref b112)]) (rest := []) (lenOf (pd_d13) rfl) rfl (by show 2 * 0 + _ ≤ _; exact Nat.le_of_eq rfl) (hb hby at_266) (fun _ _ => ⟨rfl, eL, (Nat.le_of_ble_eq_true rfl), (Nat.le_of_ble_eq_true rfl)⟩)
          dsimp only [Pt.U, Pt.locs, Pt.cells, Pt.slots] at X117 l117 y117 z117 st117 hQ117
          subst l117 y117 z117
          obtain ⟨rfl, Nq117, eq117⟩ := hQ117
          have N117 := Fr.app NL Nq117
          refine own_trW (U' := (T117.setTop (mkF m 269 #[.val (.long i0), .second, .val (.long i1), .second, .val (.long i2), .second, .val (.int i3), .val (.ref r0), .val (.ref r1), .val (.ref r2), .val (.ref x0), .val (.ref x1), .val (.ref x2), .val (.ref x3), .val (.ref x4), .val (.ref x5), .val (.ref x6), .val (.ref b110), .val (.ref b112), .val (.int (i3 &&& (3 : Int32))), .val (.int r)] [(.int (own_b (decide ((own_cs l0 c0 d0) = (own_cs m0 f0 g0)) && (decide ((own_cs l1 c1 d1) = (own_cs m1 f1 g1)) && decide ((own_cs l2 c2 d2) = (own_cs m2 f2 g2))))))]))) st117 ?_
          refine own_stW (U' := (T117.setTop (mkF m 271 #[.val (.long i0), .second, .val (.long i1), .second, .val (.long i2), .second, .val (.int i3), .val (.ref r0), .val (.ref r1), .val (.ref r2), .val (.ref x0), .val (.ref x1), .val (.ref x2), .val (.ref x3), .val (.ref x4), .val (.ref x5), .val (.ref x6), .val (.ref b110), .val (.ref b112), .val (.int (i3 &&& (3 : Int32))), .val (.int r)] [(.int r), (.int (own_b (decide ((own_cs l0 c0 d0) = (own_cs m0 f0 g0)) && (decide ((own_cs l1 c1 d1) = (own_cs m1 f1 g1)) && decide ((own_cs l2 c2 d2) = (own_cs m2 f2 g2))))))]))) (fun _ k => XS.iload X117.here hx rfl (hb hby at_269) rfl k) ?_
          refine own_stW (U' := (T117.setTop (mkF m 274 #[.val (.long i0), .second, .val (.long i1), .second, .val (.long i2), .second, .val (.int i3), .val (.ref r0), .val (.ref r1), .val (.ref r2), .val (.ref x0), .val (.ref x1), .val (.ref x2), .val (.ref x3), .val (.ref x4), .val (.ref x5), .val (.ref x6), .val (.ref b110), .val (.ref b112), .val (.int (i3 &&& (3 : Int32))), .val (.int r)] []))) (fun _ k => XS.icmpNo X117.here hx rfl (hb hby at_271) rfl (teq qe).2 k) ?_
          refine own_stW (U' := (T117.setTop (mkF m 276 #[.val (.long i0), .second, .val (.long i1), .second, .val (.long i2), .second, .val (.int i3), .val (.ref r0), .val (.ref r1), .val (.ref r2), .val (.ref x0), .val (.ref x1), .val (.ref x2), .val (.ref x3), .val (.ref x4), .val (.ref x5), .val (.ref x6), .val (.ref b110), .val (.ref b112), .val (.int (i3 &&& (3 : Int32))), .val (.int r)] [(.ref b112)]))) (fun _ k => XS.aload X117.here hx rfl (hb hby at_274) rfl rfl k) ?_
          refine own_stW (U' := (T117.setTop (mkF m 278 #[.val (.long i0), .second, .val (.long i1), .second, .val (.long i2), .second, .val (.int i3), .val (.ref r0), .val (.ref r1), .val (.ref r2), .val (.ref x0), .val (.ref x1), .val (.ref x2), .val (.ref x3), .val (.ref x4), .val (.ref x5), .val (.ref x6), .val (.ref b110), .val (.ref b112), .val (.int (i3 &&& (3 : Int32))), .val (.int r)] [(.ref b110), (.ref b112)]))) (fun _ k => XS.aload X117.here hx rfl (hb hby at_276) rfl rfl k) ?_
          obtain ⟨cq118, kq118, qa118, qb118, qc118⟩ := isOf hZ eq117 E_b112
          obtain ⟨_, _, ⟨T118, L118, k118, n118⟩, -, X118, ⟨Lc118, hQ118, l118, y118, z118⟩, st118⟩ := X117.virtualBack hx (y := (⟨"com/example/quorum/quorum/ValidationFailure", "equals", "(Ljava/lang/Object;)Z"⟩ : MethodName)) (z := (⟨"com/example/quorum/quorum/ValidationFailure", "equals", "(Ljava/lang/Object;)Z"⟩ : MethodName)) hown (mvT hZ (hw _ (List.mem_of_getElem? (i := 70) rfl))) (mvT hZ (hw _ (List.mem_of_getElem? (i := 71) rfl))) (notFace_of_selects (args := #[]) (mvT hZ (hw _ (List.mem_of_getElem? (i := 73) rfl)))) (mvT hZ (hw _ (List.mem_of_getElem? (i := 73) rfl))) (mvT hZ (hw _ (List.mem_of_getElem? (i := 72) rfl))) (by decide) (backOf (W := 0) (rmVE l Z a0 hw [] b112 b110 x3 x4 x5 x0 x1 x2 (own_cs m0 f0 g0) (own_cs m1 f1 g1) (own_cs m2 f2 g2) (own_cs l0 c0 d0) (own_cs l1 c1 d1) (own_cs l2 c2 d2) T109.heap.size z0 T113.heap n0 Z113 E_b110 F_ip_b112 F_kl_b112 F_ms_b112 F_ip_b110 F_kl_b110 F_ms_b110 St3 St4 St5 St0 St1 St2 O S0 hz0) hZ (hw _ (List.mem_of_getElem? (i := 74) rfl)) (hw _ (List.mem_of_getElem? (i := 51) rfl)) (by decide) (by decide)) qa118 qc118 (g := (mkF m 278 #[.val (.long i0), .second, .val (.long i1), .second, .val (.long i2), .second, .val (.int i3), .val (.ref r0), .val (.ref r1), .val (.ref r2), .val (.ref x0), .val (.ref x1), .val (.ref x2), .val (.ref x3), .val (.ref x4), .val (.ref x5), .val (.ref x6), .val (.ref b110), .val (.ref b112), .val (.int (i3 &&& (3 : Int32))), .val (.int r)] [(.ref b110), (.ref b112)])) rfl (by rw [hml]; rfl) (Steps.refl _) (argsL := [(.ref b110)]) (rest := []) (lenOf (pd_d13) rfl) rfl (by show 2 * 0 + _ ≤ _; exact Nat.le_of_eq rfl) (hb hby at_278) (fun _ _ => ⟨rfl, eq117, (Nat.le_of_ble_eq_true rfl), (Nat.le_of_ble_eq_true rfl)⟩)
          dsimp only [Pt.U, Pt.locs, Pt.cells, Pt.slots] at X118 l118 y118 z118 st118 hQ118
          subst l118 y118 z118
          obtain ⟨rfl, Nq118, eq118⟩ := hQ118
          have N118 := Fr.app N117 Nq118
          refine own_trW (U' := (T118.setTop (mkF m 281 #[.val (.long i0), .second, .val (.long i1), .second, .val (.long i2), .second, .val (.int i3), .val (.ref r0), .val (.ref r1), .val (.ref r2), .val (.ref x0), .val (.ref x1), .val (.ref x2), .val (.ref x3), .val (.ref x4), .val (.ref x5), .val (.ref x6), .val (.ref b110), .val (.ref b112), .val (.int (i3 &&& (3 : Int32))), .val (.int r)] [(.int (own_b (decide ((own_cs m0 f0 g0) = (own_cs l0 c0 d0)) && (decide ((own_cs m1 f1 g1) = (own_cs l1 c1 d1)) && decide ((own_cs m2 f2 g2) = (own_cs l2 c2 d2))))))]))) st118 ?_
          refine own_stW (U' := (T118.setTop (mkF m 283 #[.val (.long i0), .second, .val (.long i1), .second, .val (.long i2), .second, .val (.int i3), .val (.ref r0), .val (.ref r1), .val (.ref r2), .val (.ref x0), .val (.ref x1), .val (.ref x2), .val (.ref x3), .val (.ref x4), .val (.ref x5), .val (.ref x6), .val (.ref b110), .val (.ref b112), .val (.int (i3 &&& (3 : Int32))), .val (.int r)] [(.int r), (.int (own_b (decide ((own_cs m0 f0 g0) = (own_cs l0 c0 d0)) && (decide ((own_cs m1 f1 g1) = (own_cs l1 c1 d1)) && decide ((own_cs m2 f2 g2) = (own_cs l2 c2 d2))))))]))) (fun _ k => XS.iload X118.here hx rfl (hb hby at_281) rfl k) ?_
          refine own_stW (U' := (T118.setTop (mkF m 286 #[.val (.long i0), .second, .val (.long i1), .second, .val (.long i2), .second, .val (.int i3), .val (.ref r0), .val (.ref r1), .val (.ref r2), .val (.ref x0), .val (.ref x1), .val (.ref x2), .val (.ref x3), .val (.ref x4), .val (.ref x5), .val (.ref x6), .val (.ref b110), .val (.ref b112), .val (.int (i3 &&& (3 : Int32))), .val (.int r)] []))) (fun _ k => XS.icmpNo X118.here hx rfl (hb hby at_283) rfl (teq qf).2 k) ?_
          refine own_stW (U' := (T118.setTop (mkF m 287 #[.val (.long i0), .second, .val (.long i1), .second, .val (.long i2), .second, .val (.int i3), .val (.ref r0), .val (.ref r1), .val (.ref r2), .val (.ref x0), .val (.ref x1), .val (.ref x2), .val (.ref x3), .val (.ref x4), .val (.ref x5), .val (.ref x6), .val (.ref b110), .val (.ref b112), .val (.int (i3 &&& (3 : Int32))), .val (.int r)] [(.int (1 : Int32))]))) (fun _ k => XS.iconst X118.here hx rfl (hb hby at_286) k) ?_
          refine own_stW (U' := (T118.setTop (mkF m 291 #[.val (.long i0), .second, .val (.long i1), .second, .val (.long i2), .second, .val (.int i3), .val (.ref r0), .val (.ref r1), .val (.ref r2), .val (.ref x0), .val (.ref x1), .val (.ref x2), .val (.ref x3), .val (.ref x4), .val (.ref x5), .val (.ref x6), .val (.ref b110), .val (.ref b112), .val (.int (i3 &&& (3 : Int32))), .val (.int r)] [(.int (1 : Int32))]))) (fun _ k => XS.goto X118.here hx rfl (pc0 := 287) (pc' := 291) rfl (hb hby at_287) (by decide) (by decide) k) ?_
          exact own_retNW X118 hx hS (by rw [eq118]; exact hk) hZ hEL (by rw [eq118]; exact C113) (t := .boolean) Bd.returns Bd.notSynchronized (by simp) rfl (hb hby at_291) (by decide) (by decide) (⟨rfl, N118⟩)
        refine own_stW (U' := (T113.setTop (mkF m 233 #[.val (.long i0), .second, .val (.long i1), .second, .val (.long i2), .second, .val (.int i3), .val (.ref r0), .val (.ref r1), .val (.ref r2), .val (.ref x0), .val (.ref x1), .val (.ref x2), .val (.ref x3), .val (.ref x4), .val (.ref x5), .val (.ref x6), .val (.ref b110), .val (.ref b112), .val (.int (i3 &&& (3 : Int32))), .unset] [(.ref r0)]))) (fun _ k => XS.aload X113.here hx rfl (hb hby at_231) rfl rfl k) ?_
        obtain ⟨_, _, ⟨T119, L119, k119, n119⟩, -, X119, ⟨Lc119, hQ119, l119, y119, z119⟩, st119⟩ := Jvm.LawKit.callS X113 hx (y := (⟨"com/example/quorum/quorum/ValidationFailureEqualsPinLaw", "same", "([I)Z"⟩ : MethodName)) hown (mvT hZ (hw _ (List.mem_of_getElem? (i := 78) rfl))) (mvT hZ (hw _ (List.mem_of_getElem? (i := 79) rfl))) (mvT hZ (hw _ (List.mem_of_getElem? (i := 2) rfl))) (mvT hZ (hw _ (List.mem_of_getElem? (i := 80) rfl))) (by decide) (backOf (W := 0) (rmSame l Z a0 hw [] r0 l0 c0 d0 m0 f0 g0 T113.heap n0 Z113 V_r0) hZ (hw _ (List.mem_of_getElem? (i := 80) rfl)) (hw _ (List.mem_of_getElem? (i := 2) rfl)) (by decide) (by decide)) (g := (mkF m 233 #[.val (.long i0), .second, .val (.long i1), .second, .val (.long i2), .second, .val (.int i3), .val (.ref r0), .val (.ref r1), .val (.ref r2), .val (.ref x0), .val (.ref x1), .val (.ref x2), .val (.ref x3), .val (.ref x4), .val (.ref x5), .val (.ref x6), .val (.ref b110), .val (.ref b112), .val (.int (i3 &&& (3 : Int32))), .unset] [(.ref r0)])) rfl (by rw [hml]; rfl) (argsL := [(.ref r0)]) (rest := []) (lenOf (pd_d14) rfl) rfl (by show 2 * 0 + _ ≤ _; exact Nat.le_of_eq rfl) (hb hby at_233) (fun _ _ => ⟨rfl, rfl, (Nat.le_of_ble_eq_true rfl), (Nat.le_of_ble_eq_true rfl)⟩)
        dsimp only [Pt.U, Pt.locs, Pt.cells, Pt.slots] at X119 l119 y119 z119 st119 hQ119
        subst l119 y119 z119
        obtain ⟨rfl, Nq119, eq119⟩ := hQ119
        have N119 := Fr.app N113 Nq119
        refine own_stW (U' := (T119.setTop (mkF m 236 #[.val (.long i0), .second, .val (.long i1), .second, .val (.long i2), .second, .val (.int i3), .val (.ref r0), .val (.ref r1), .val (.ref r2), .val (.ref x0), .val (.ref x1), .val (.ref x2), .val (.ref x3), .val (.ref x4), .val (.ref x5), .val (.ref x6), .val (.ref b110), .val (.ref b112), .val (.int (i3 &&& (3 : Int32))), .unset] [(.int (own_b (own_same l0 c0 d0 m0 f0 g0)))]))) st119 ?_
        by_cases s0 : (own_same l0 c0 d0 m0 f0 g0) = true
        · skip
          refine own_stW (U' := (T119.setTop (mkF m 239 #[.val (.long i0), .second, .val (.long i1), .second, .val (.long i2), .second, .val (.int i3), .val (.ref r0), .val (.ref r1), .val (.ref r2), .val (.ref x0), .val (.ref x1), .val (.ref x2), .val (.ref x3), .val (.ref x4), .val (.ref x5), .val (.ref x6), .val (.ref b110), .val (.ref b112), .val (.int (i3 &&& (3 : Int32))), .unset] []))) (fun _ k => XS.ifNo X119.here hx rfl (hb hby at_236) rfl ((if0 _ _).trans (feq (fun q => by rw [(own_b0 _).mp q] at s0; cases s0)).1) k) ?_
          refine own_stW (U' := (T119.setTop (mkF m 241 #[.val (.long i0), .second, .val (.long i1), .second, .val (.long i2), .second, .val (.int i3), .val (.ref r0), .val (.ref r1), .val (.ref r2), .val (.ref x0), .val (.ref x1), .val (.ref x2), .val (.ref x3), .val (.ref x4), .val (.ref x5), .val (.ref x6), .val (.ref b110), .val (.ref b112), .val (.int (i3 &&& (3 : Int32))), .unset] [(.ref r1)]))) (fun _ k => XS.aload X119.here hx rfl (hb hby at_239) rfl rfl k) ?_
          obtain ⟨_, _, ⟨T120, L120, k120, n120⟩, -, X120, ⟨Lc120, hQ120, l120, y120, z120⟩, st120⟩ := Jvm.LawKit.callS X119 hx (y := (⟨"com/example/quorum/quorum/ValidationFailureEqualsPinLaw", "same", "([I)Z"⟩ : MethodName)) hown (mvT hZ (hw _ (List.mem_of_getElem? (i := 78) rfl))) (mvT hZ (hw _ (List.mem_of_getElem? (i := 79) rfl))) (mvT hZ (hw _ (List.mem_of_getElem? (i := 2) rfl))) (mvT hZ (hw _ (List.mem_of_getElem? (i := 80) rfl))) (by decide) (backOf (W := 0) (rmSame l Z a0 hw [] r1 l1 c1 d1 m1 f1 g1 T113.heap n0 Z113 V_r1) hZ (hw _ (List.mem_of_getElem? (i := 80) rfl)) (hw _ (List.mem_of_getElem? (i := 2) rfl)) (by decide) (by decide)) (g := (mkF m 241 #[.val (.long i0), .second, .val (.long i1), .second, .val (.long i2), .second, .val (.int i3), .val (.ref r0), .val (.ref r1), .val (.ref r2), .val (.ref x0), .val (.ref x1), .val (.ref x2), .val (.ref x3), .val (.ref x4), .val (.ref x5), .val (.ref x6), .val (.ref b110), .val (.ref b112), .val (.int (i3 &&& (3 : Int32))), .unset] [(.ref r1)])) rfl (by rw [hml]; rfl) (argsL := [(.ref r1)]) (rest := []) (lenOf (pd_d14) rfl) rfl (by show 2 * 0 + _ ≤ _; exact Nat.le_of_eq rfl) (hb hby at_241) (fun _ _ => ⟨rfl, eq119, (Nat.le_of_ble_eq_true rfl), (Nat.le_of_ble_eq_true rfl)⟩)
          dsimp only [Pt.U, Pt.locs, Pt.cells, Pt.slots] at X120 l120 y120 z120 st120 hQ120
          subst l120 y120 z120
          obtain ⟨rfl, Nq120, eq120⟩ := hQ120
          have N120 := Fr.app N119 Nq120
          refine own_stW (U' := (T120.setTop (mkF m 244 #[.val (.long i0), .second, .val (.long i1), .second, .val (.long i2), .second, .val (.int i3), .val (.ref r0), .val (.ref r1), .val (.ref r2), .val (.ref x0), .val (.ref x1), .val (.ref x2), .val (.ref x3), .val (.ref x4), .val (.ref x5), .val (.ref x6), .val (.ref b110), .val (.ref b112), .val (.int (i3 &&& (3 : Int32))), .unset] [(.int (own_b (own_same l1 c1 d1 m1 f1 g1)))]))) st120 ?_
          by_cases s1 : (own_same l1 c1 d1 m1 f1 g1) = true
          · skip
            refine own_stW (U' := (T120.setTop (mkF m 247 #[.val (.long i0), .second, .val (.long i1), .second, .val (.long i2), .second, .val (.int i3), .val (.ref r0), .val (.ref r1), .val (.ref r2), .val (.ref x0), .val (.ref x1), .val (.ref x2), .val (.ref x3), .val (.ref x4), .val (.ref x5), .val (.ref x6), .val (.ref b110), .val (.ref b112), .val (.int (i3 &&& (3 : Int32))), .unset] []))) (fun _ k => XS.ifNo X120.here hx rfl (hb hby at_244) rfl ((if0 _ _).trans (feq (fun q => by rw [(own_b0 _).mp q] at s1; cases s1)).1) k) ?_
            refine own_stW (U' := (T120.setTop (mkF m 249 #[.val (.long i0), .second, .val (.long i1), .second, .val (.long i2), .second, .val (.int i3), .val (.ref r0), .val (.ref r1), .val (.ref r2), .val (.ref x0), .val (.ref x1), .val (.ref x2), .val (.ref x3), .val (.ref x4), .val (.ref x5), .val (.ref x6), .val (.ref b110), .val (.ref b112), .val (.int (i3 &&& (3 : Int32))), .unset] [(.ref r2)]))) (fun _ k => XS.aload X120.here hx rfl (hb hby at_247) rfl rfl k) ?_
            obtain ⟨_, _, ⟨T121, L121, k121, n121⟩, -, X121, ⟨Lc121, hQ121, l121, y121, z121⟩, st121⟩ := Jvm.LawKit.callS X120 hx (y := (⟨"com/example/quorum/quorum/ValidationFailureEqualsPinLaw", "same", "([I)Z"⟩ : MethodName)) hown (mvT hZ (hw _ (List.mem_of_getElem? (i := 78) rfl))) (mvT hZ (hw _ (List.mem_of_getElem? (i := 79) rfl))) (mvT hZ (hw _ (List.mem_of_getElem? (i := 2) rfl))) (mvT hZ (hw _ (List.mem_of_getElem? (i := 80) rfl))) (by decide) (backOf (W := 0) (rmSame l Z a0 hw [] r2 l2 c2 d2 m2 f2 g2 T113.heap n0 Z113 V_r2) hZ (hw _ (List.mem_of_getElem? (i := 80) rfl)) (hw _ (List.mem_of_getElem? (i := 2) rfl)) (by decide) (by decide)) (g := (mkF m 249 #[.val (.long i0), .second, .val (.long i1), .second, .val (.long i2), .second, .val (.int i3), .val (.ref r0), .val (.ref r1), .val (.ref r2), .val (.ref x0), .val (.ref x1), .val (.ref x2), .val (.ref x3), .val (.ref x4), .val (.ref x5), .val (.ref x6), .val (.ref b110), .val (.ref b112), .val (.int (i3 &&& (3 : Int32))), .unset] [(.ref r2)])) rfl (by rw [hml]; rfl) (argsL := [(.ref r2)]) (rest := []) (lenOf (pd_d14) rfl) rfl (by show 2 * 0 + _ ≤ _; exact Nat.le_of_eq rfl) (hb hby at_249) (fun _ _ => ⟨rfl, eq120, (Nat.le_of_ble_eq_true rfl), (Nat.le_of_ble_eq_true rfl)⟩)
            dsimp only [Pt.U, Pt.locs, Pt.cells, Pt.slots] at X121 l121 y121 z121 st121 hQ121
            subst l121 y121 z121
            obtain ⟨rfl, Nq121, eq121⟩ := hQ121
            have N121 := Fr.app N120 Nq121
            refine own_stW (U' := (T121.setTop (mkF m 252 #[.val (.long i0), .second, .val (.long i1), .second, .val (.long i2), .second, .val (.int i3), .val (.ref r0), .val (.ref r1), .val (.ref r2), .val (.ref x0), .val (.ref x1), .val (.ref x2), .val (.ref x3), .val (.ref x4), .val (.ref x5), .val (.ref x6), .val (.ref b110), .val (.ref b112), .val (.int (i3 &&& (3 : Int32))), .unset] [(.int (own_b (own_same l2 c2 d2 m2 f2 g2)))]))) st121 ?_
            by_cases s2 : (own_same l2 c2 d2 m2 f2 g2) = true
            · skip
              refine own_stW (U' := (T121.setTop (mkF m 255 #[.val (.long i0), .second, .val (.long i1), .second, .val (.long i2), .second, .val (.int i3), .val (.ref r0), .val (.ref r1), .val (.ref r2), .val (.ref x0), .val (.ref x1), .val (.ref x2), .val (.ref x3), .val (.ref x4), .val (.ref x5), .val (.ref x6), .val (.ref b110), .val (.ref b112), .val (.int (i3 &&& (3 : Int32))), .unset] []))) (fun _ k => XS.ifNo X121.here hx rfl (hb hby at_252) rfl ((if0 _ _).trans (feq (fun q => by rw [(own_b0 _).mp q] at s2; cases s2)).1) k) ?_
              refine own_stW (U' := (T121.setTop (mkF m 256 #[.val (.long i0), .second, .val (.long i1), .second, .val (.long i2), .second, .val (.int i3), .val (.ref r0), .val (.ref r1), .val (.ref r2), .val (.ref x0), .val (.ref x1), .val (.ref x2), .val (.ref x3), .val (.ref x4), .val (.ref x5), .val (.ref x6), .val (.ref b110), .val (.ref b112), .val (.int (i3 &&& (3 : Int32))), .unset] [(.int (1 : Int32))]))) (fun _ k => XS.iconst X121.here hx rfl (hb hby at_255) k) ?_
              refine own_stW (U' := (T121.setTop (mkF m 260 #[.val (.long i0), .second, .val (.long i1), .second, .val (.long i2), .second, .val (.int i3), .val (.ref r0), .val (.ref r1), .val (.ref r2), .val (.ref x0), .val (.ref x1), .val (.ref x2), .val (.ref x3), .val (.ref x4), .val (.ref x5), .val (.ref x6), .val (.ref b110), .val (.ref b112), .val (.int (i3 &&& (3 : Int32))), .unset] [(.int (1 : Int32))]))) (fun _ k => XS.goto X121.here hx rfl (pc0 := 256) (pc' := 260) rfl (hb hby at_256) (by decide) (by decide) k) ?_
              exact tail _ _ _ (by simp [own_b, s0, s1, s2]) X121 N121 eq121
            · skip
              refine own_stW (U' := (T121.setTop (mkF m 259 #[.val (.long i0), .second, .val (.long i1), .second, .val (.long i2), .second, .val (.int i3), .val (.ref r0), .val (.ref r1), .val (.ref r2), .val (.ref x0), .val (.ref x1), .val (.ref x2), .val (.ref x3), .val (.ref x4), .val (.ref x5), .val (.ref x6), .val (.ref b110), .val (.ref b112), .val (.int (i3 &&& (3 : Int32))), .unset] []))) (fun _ k => XS.ifYes X121.here hx rfl (pc0 := 252) (pc' := 259) rfl (hb hby at_252) rfl ((if0 _ _).trans (teq ((own_b0 _).mpr (by simpa using s2))).1) (by decide) (by decide) k) ?_
              refine own_stW (U' := (T121.setTop (mkF m 260 #[.val (.long i0), .second, .val (.long i1), .second, .val (.long i2), .second, .val (.int i3), .val (.ref r0), .val (.ref r1), .val (.ref r2), .val (.ref x0), .val (.ref x1), .val (.ref x2), .val (.ref x3), .val (.ref x4), .val (.ref x5), .val (.ref x6), .val (.ref b110), .val (.ref b112), .val (.int (i3 &&& (3 : Int32))), .unset] [(.int (0 : Int32))]))) (fun _ k => XS.iconst X121.here hx rfl (hb hby at_259) k) ?_
              exact tail _ _ _ (by simp [own_b, s0, s1, s2]) X121 N121 eq121
          · skip
            refine own_stW (U' := (T120.setTop (mkF m 259 #[.val (.long i0), .second, .val (.long i1), .second, .val (.long i2), .second, .val (.int i3), .val (.ref r0), .val (.ref r1), .val (.ref r2), .val (.ref x0), .val (.ref x1), .val (.ref x2), .val (.ref x3), .val (.ref x4), .val (.ref x5), .val (.ref x6), .val (.ref b110), .val (.ref b112), .val (.int (i3 &&& (3 : Int32))), .unset] []))) (fun _ k => XS.ifYes X120.here hx rfl (pc0 := 244) (pc' := 259) rfl (hb hby at_244) rfl ((if0 _ _).trans (teq ((own_b0 _).mpr (by simpa using s1))).1) (by decide) (by decide) k) ?_
            refine own_stW (U' := (T120.setTop (mkF m 260 #[.val (.long i0), .second, .val (.long i1), .second, .val (.long i2), .second, .val (.int i3), .val (.ref r0), .val (.ref r1), .val (.ref r2), .val (.ref x0), .val (.ref x1), .val (.ref x2), .val (.ref x3), .val (.ref x4), .val (.ref x5), .val (.ref x6), .val (.ref b110), .val (.ref b112), .val (.int (i3 &&& (3 : Int32))), .unset] [(.int (0 : Int32))]))) (fun _ k => XS.iconst X120.here hx rfl (hb hby at_259) k) ?_
            exact tail _ _ _ (by simp [own_b, s0, s1]) X120 N120 eq120
        · skip
          refine own_stW (U' := (T119.setTop (mkF m 259 #[.val (.long i0), .second, .val (.long i1), .second, .val (.long i2), .second, .val (.int i3), .val (.ref r0), .val (.ref r1), .val (.ref r2), .val (.ref x0), .val (.ref x1), .val (.ref x2), .val (.ref x3), .val (.ref x4), .val (.ref x5), .val (.ref x6), .val (.ref b110), .val (.ref b112), .val (.int (i3 &&& (3 : Int32))), .unset] []))) (fun _ k => XS.ifYes X119.here hx rfl (pc0 := 236) (pc' := 259) rfl (hb hby at_236) rfl ((if0 _ _).trans (teq ((own_b0 _).mpr (by simpa using s0))).1) (by decide) (by decide) k) ?_
          refine own_stW (U' := (T119.setTop (mkF m 260 #[.val (.long i0), .second, .val (.long i1), .second, .val (.long i2), .second, .val (.int i3), .val (.ref r0), .val (.ref r1), .val (.ref r2), .val (.ref x0), .val (.ref x1), .val (.ref x2), .val (.ref x3), .val (.ref x4), .val (.ref x5), .val (.ref x6), .val (.ref b110), .val (.ref b112), .val (.int (i3 &&& (3 : Int32))), .unset] [(.int (0 : Int32))]))) (fun _ k => XS.iconst X119.here hx rfl (hb hby at_259) k) ?_
          exact tail _ _ _ (by simp [own_b, s0]) X119 N119 eq119
set_option maxRecDepth 65536 in
set_option maxHeartbeats 40000000 in
theorem comes_1 {Post : Tables → Env → Array Value → State → Outcome → State → Prop} (hpost : ∀ tb e args s v u, (limb_1_1.after args s (.returned v) u = true ∧ limb_1_2.after args s (.returned v) u = true ∧ True) → ReturnedEndW s (.returned v) u (Jvm.fieldLocs frame_1_writes args s ++ Jvm.arrayLocs frame_1_arrays args s ++ Jvm.staticLocs frame_1_statics s) 72 4352 → Post tb e args s (.returned v) u) :
    ArmFor flags0 classFile x code maxLocals ret World_1 tables_1 room_1 Calls_1 rest_1 Pre_1 Post := by
  intro l hfl _ _ p e ha hc hk s m args below hf hA hF happ hP
  obtain ⟨hcalls, hrest, hpre⟩ := hP
  obtain ⟨-, -, -, hnamed, -, -, -, hat⟩ := (Spec.applies_iff hf).mp happ
  obtain ⟨hg, hn⟩ := and_e (Cond.before_iff.mp (show (Jvm.Cond.and given_1 narrow_1).before args s = true from hpre))
  obtain ⟨gc, g0⟩ := and_e hg
  obtain ⟨w0, w1, w2, w3, rfl⟩ : ∃ w0 w1 w2 w3 : Value, args = #[w0, w1, w2, w3] := by
    have hs : args.size = 4 := by simpa [Cond.value, given_1] using gc
    obtain ⟨L⟩ := args
    match L, hs with
    | [w0, w1, w2, w3], _ => exact ⟨w0, w1, w2, w3, rfl⟩
  have hw := fun d (hd : d ∈ tables_1) => atoms_spec (ws := Jvm.Cond.code x code maxLocals ret :: tables_1) hat d (List.mem_cons_of_mem _ hd)
  obtain ⟨hsets, hown0⟩ := atoms_of _ (rest_1_c_eq ▸ (show rest_1_c.before _ s = true from hrest))
  obtain ⟨f0, g1⟩ := and_e g0
  obtain ⟨i0, ei0⟩ := isL_v f0
  obtain rfl : w0 = (.long i0) := Option.some.inj ei0
  obtain ⟨f1, g2⟩ := and_e g1
  obtain ⟨i1, ei1⟩ := isL_v f1
  obtain rfl : w1 = (.long i1) := Option.some.inj ei1
  obtain ⟨f2, g3⟩ := and_e g2
  obtain ⟨i2, ei2⟩ := isL_v f2
  obtain rfl : w2 = (.long i2) := Option.some.inj ei2
  obtain ⟨i3, ei3⟩ := is_v g3
  obtain rfl : w3 = (.int i3) := Option.some.inj ei3
  have n5 := not_v (Cond.before_iff.mp (hsets _ (List.mem_of_getElem? (i := 2) rfl)))
  obtain ⟨z0, e10⟩ := is_v (Cond.before_iff.mp (hsets _ (List.mem_of_getElem? (i := 1) rfl)))
  have S0 : Sta s s.heap "java/lang/String" "COMPACT_STRINGS" "Z" (.int z0) := Sta.start e10 (Or.inl (hsets _ (List.mem_of_getElem? (i := 0) rfl)))
  have hz0 : ¬ (z0 = (0 : Int32)) := gotF (Cond.eq_ints e10 (Term.int_eval (0))) n5
  have hEL := own_ew hw
  have hcw : Jvm.Lit.compactW.before #[.long i0, .long i1, .long i2, .int i3] s = true := hsets _ (List.mem_of_getElem? (i := 2) rfl)
  have hcs : Jvm.D.constsHeld consts_1 s := hcalls.1
  have hH : CHv s own_EL s.vm s.heap := CHv.start hEL (fun q hq => by
    cases List.mem_singleton.mp hq
    exact hcs ("java/lang/String", 7) (List.mem_of_getElem? (i := 3) rfl)) hcw (hw _ (List.mem_of_getElem? (i := 31) rfl)) (hw _ (List.mem_of_getElem? (i := 17) rfl))
  obtain ⟨n, o, h1, h2, h3, _, L, rfl, ⟨rfl, N⟩, -, hq⟩ := rm0 l s _ hw hEL tables_1 i0 i1 i2 i3 z0 s.heap s.heap.size (Nat.le_refl _) (Old.start s) S0 hz0 p e ha hc hk s m _ below hf ((Spec.applies_iff_loose hf).mp happ).1 ⟨rfl, State.Warmed39.refl s, rfl, hH⟩ trivial
  refine ⟨n, _, h1, h2, h3, hpost _ _ _ _ _ _ ⟨Cond.after_iff.mpr rfl, Cond.after_iff.mpr (eq_i res_at (Term.int_eval (1)) rfl), trivial⟩ ⟨hq.1, hq.2.1, hq.2.2.1, (hq.2.2.2.sift fun y hy => Or.inr (N y hy)).mono (by decide) (by decide)⟩⟩
theorem main_1_1 : Claimed_1_1 := comes_1 fun _ _ _ _ _ _ h hF => ⟨h.1, hF⟩
theorem main_1_2 : Claimed_1_2 := comes_1 fun _ _ _ _ _ _ h hF => ⟨h.2.1, hF⟩
end Jvm.Pilot.@@N@@
namespace Jvm.Pilot.@@N@@
open Jvm Jvm.ClassFile Sem Op Lib Jvm.Free Jvm.Stand Jvm.Pilot.@@N@@.Jvm.D
/-! MADE BY PROGRAM (witnessworld.py) out of the Statement's table words and the real class files: 21 classes; the members and pool entries that the words name. The judged class is class 1, her method 1. -/
namespace start1
open Jvm.ClassFile
def u (s : String) : CpInfo := .utf8 (stringToUtf16 s)
/-- a pool by its gaps: so many unusable entries, then the entry; so many at the end -/
def gap : Nat → List CpInfo → List CpInfo
  | 0, r => r
  | n + 1, r => .unusable :: gap n r
def poolList (es : List (Nat × CpInfo)) (last : Nat) : List CpInfo := es.foldr (fun e r => gap e.1 (e.2 :: r)) (gap last [])
def pool (es : List (Nat × CpInfo)) (last : Nat) : Array CpInfo := ⟨poolList es last⟩
def fileOf (pool : Array CpInfo) (this : Nat) (attrs : Array Attribute := #[]) (ms : Array MethodInfo := #[]) (fl : Nat := 33) (sup : Nat := 0) (ifs : Array Nat := #[]) (fds : Array FieldInfo := #[]) : ClassFile where
  minorVersion := 0
  majorVersion := 65
  constantPool := pool
  accessFlags := fl
  thisClass := this
  superClass := sup
  interfaces := ifs
  fields := fds
  methods := ms
  attributes := attrs
def plain (name : String) (sup : Option ClassId) : Class where
  name := name
  kind := .ordinary
  loader := none
  accessFlags := 33
  super := sup
  interfaces := #[]
  cf := none
  fields := #[]
  methods := #[]
  instanceTypes := #[]
  staticTypes := #[]
  resolved := #[]
  callSites := []
  init := .initialized
  statics := none
  mirror := none

def pool0 : Array CpInfo := pool [(5, u "<init>"), (0, u "()V"), (1, .class_ 10), (1, u "java/lang/Object")] 113

def k0c0 : Code := { maxStack := 0, maxLocals := 1, code := object_method_1_code, exceptionTable := #[], attributes := #[] }
def k0m0 : Method := { name := "<init>", desc := "()V", sig := { parameters := [], returnType := none }, accessFlags := 1, code := some k0c0 }
/-- java/lang/Object -/
def k0 : Class := { plain "java/lang/Object" none with
  accessFlags := 33
  interfaces := #[]
  cf := some (fileOf pool0 8 #[] #[{ accessFlags := 1, nameIndex := 5, descriptorIndex := 6, attributes := #[] }] 33 0 #[] #[])
  fields := #[]
  methods := #[k0m0]
  instanceTypes := #[]
  staticTypes := #[]
  resolved := Array.replicate 124 none
  statics := none }

def pool1 : Array CpInfo := pool [(2, .class_ 4), (1, u "java/lang/Object"), (0, u "<init>"), (0, u "()V"), (0, .methodref 8 9), (0, .class_ 10), (0, .nameAndType 11 12), (0, u "com/example/quorum/quorum/ValidationFailureEqualsPinLaw"), (0, u "field"), (0, u "(J)[I"), (0, .methodref 8 14), (0, .nameAndType 15 16), (0, u "mk"), (0, u "(III)Ljava/lang/String;"), (0, .class_ 18), (0, u "com/example/quorum/quorum/ValidationFailure"), (0, .methodref 17 20), (0, .nameAndType 5 21), (0, u "(Ljava/lang/String;Ljava/lang/String;Ljava/lang/String;)V"), (0, .methodref 17 23), (0, .nameAndType 24 25), (0, u "equals"), (0, u "(Ljava/lang/Object;)Z"), (0, .methodref 8 27), (0, .nameAndType 28 29), (0, u "same"), (0, u "([I)Z"), (0, .methodref 8 31), (0, .nameAndType 32 33), (0, u "len"), (0, u "(J)I"), (0, .methodref 8 35), (0, .nameAndType 36 37), (0, u "ch"), (0, u "(JI)I"), (0, .long 3), (1, .long 255), (1, .class_ 43), (0, u "java/lang/String"), (0, .methodref 42 45), (0, .nameAndType 5 46), (0, u "([C)V"), (2, u "law"), (0, u "(JJJI)Z")] 5

def k1m0 : Method := { name := "<init>", desc := "()V", sig := { parameters := [], returnType := none }, accessFlags := 1, code := none }
def k1c1 : Code := { maxStack := 5, maxLocals := 21, code := code, exceptionTable := #[], attributes := #[] }
def k1m1 : Method := { name := "law", desc := "(JJJI)Z", sig := { parameters := [.long, .long, .long, .int], returnType := some .boolean }, accessFlags := 9, code := some k1c1 }
def k1c2 : Code := { maxStack := 4, maxLocals := 9, code := method_3_code, exceptionTable := #[], attributes := #[] }
def k1m2 : Method := { name := "field", desc := "(J)[I", sig := { parameters := [.long], returnType := some (.array .int) }, accessFlags := 10, code := some k1c2 }
def k1c3 : Code := { maxStack := 4, maxLocals := 2, code := method_4_code, exceptionTable := #[], attributes := #[] }
def k1m3 : Method := { name := "len", desc := "(J)I", sig := { parameters := [.long], returnType := some .int }, accessFlags := 10, code := some k1c3 }
def k1c4 : Code := { maxStack := 4, maxLocals := 3, code := method_5_code, exceptionTable := #[], attributes := #[] }
def k1m4 : Method := { name := "ch", desc := "(JI)I", sig := { parameters := [.long, .int], returnType := some .int }, accessFlags := 10, code := some k1c4 }
def k1c5 : Code := { maxStack := 6, maxLocals := 3, code := method_6_code, exceptionTable := #[], attributes := #[] }
def k1m5 : Method := { name := "mk", desc := "(III)Ljava/lang/String;", sig := { parameters := [.int, .int, .int], returnType := some (.object "java/lang/String") }, accessFlags := 10, code := some k1c5 }
def k1c6 : Code := { maxStack := 3, maxLocals := 1, code := method_7_code, exceptionTable := #[], attributes := #[] }
def k1m6 : Method := { name := "same", desc := "([I)Z", sig := { parameters := [(.array .int)], returnType := some .boolean }, accessFlags := 10, code := some k1c6 }
/-- com/example/quorum/quorum/ValidationFailureEqualsPinLaw -/
def k1 : Class := { plain "com/example/quorum/quorum/ValidationFailureEqualsPinLaw" (some 0) with
  accessFlags := 49
  interfaces := #[]
  cf := some (fileOf pool1 8 #[] #[{ accessFlags := 1, nameIndex := 5, descriptorIndex := 6, attributes := #[] }, { accessFlags := 9, nameIndex := 49, descriptorIndex := 50, attributes := #[] }, { accessFlags := 10, nameIndex := 11, descriptorIndex := 12, attributes := #[] }, { accessFlags := 10, nameIndex := 32, descriptorIndex := 33, attributes := #[] }, { accessFlags := 10, nameIndex := 36, descriptorIndex := 37, attributes := #[] }, { accessFlags := 10, nameIndex := 15, descriptorIndex := 16, attributes := #[] }, { accessFlags := 10, nameIndex := 28, descriptorIndex := 29, attributes := #[] }] 49 2 #[] #[])
  fields := #[]
  methods := #[k1m0, k1m1, k1m2, k1m3, k1m4, k1m5, k1m6]
  instanceTypes := #[]
  staticTypes := #[]
  resolved := Array.replicate 56 none
  statics := none }

def pool2 : Array CpInfo := pool [(1, .class_ 2), (0, u "java/io/Serializable"), (0, .class_ 4), (0, u "java/lang/Object")] 2

/-- java/io/Serializable -/
def k2 : Class := { plain "java/io/Serializable" (some 0) with
  accessFlags := 1537
  interfaces := #[]
  cf := some (fileOf pool2 1 #[] #[] 1537 3 #[] #[])
  fields := #[]
  methods := #[]
  instanceTypes := #[]
  staticTypes := #[]
  resolved := Array.replicate 7 none
  statics := none }

def pool3 : Array CpInfo := pool [(1, .class_ 2), (0, u "java/lang/Comparable"), (0, .class_ 4), (0, u "java/lang/Object")] 7

/-- java/lang/Comparable -/
def k3 : Class := { plain "java/lang/Comparable" (some 0) with
  accessFlags := 1537
  interfaces := #[]
  cf := some (fileOf pool3 1 #[] #[] 1537 3 #[] #[])
  fields := #[]
  methods := #[]
  instanceTypes := #[]
  staticTypes := #[]
  resolved := Array.replicate 12 none
  statics := none }

def pool4 : Array CpInfo := pool [(2, .class_ 4), (1, u "java/lang/CharSequence"), (42, .class_ 48), (0, u "java/lang/CharSequence$1CodePointIterator"), (10, .class_ 60), (0, u "java/lang/CharSequence$1CharIterator"), (5, .class_ 67), (0, u "java/lang/Object")] 63

/-- java/lang/CharSequence -/
def k4 : Class := { plain "java/lang/CharSequence" (some 0) with
  accessFlags := 1537
  interfaces := #[]
  cf := some (fileOf pool4 2 #[.nestMembers #[47, 59]] #[] 1537 66 #[] #[])
  fields := #[]
  methods := #[]
  instanceTypes := #[]
  staticTypes := #[]
  resolved := Array.replicate 131 none
  statics := none }

def pool5 : Array CpInfo := pool [(1, .class_ 2), (0, u "java/lang/constant/Constable"), (0, .class_ 4), (0, u "java/lang/Object")] 6

/-- java/lang/constant/Constable -/
def k5 : Class := { plain "java/lang/constant/Constable" (some 0) with
  accessFlags := 1537
  interfaces := #[]
  cf := some (fileOf pool5 1 #[] #[] 1537 3 #[] #[])
  fields := #[]
  methods := #[]
  instanceTypes := #[]
  staticTypes := #[]
  resolved := Array.replicate 11 none
  statics := none }

def pool6 : Array CpInfo := pool [(1, .class_ 2), (0, u "java/lang/constant/ConstantDesc"), (0, .class_ 4), (0, u "java/lang/Object")] 32

/-- java/lang/constant/ConstantDesc -/
def k6 : Class := { plain "java/lang/constant/ConstantDesc" (some 0) with
  accessFlags := 1537
  interfaces := #[]
  cf := some (fileOf pool6 1 #[] #[] 1537 3 #[] #[])
  fields := #[]
  methods := #[]
  instanceTypes := #[]
  staticTypes := #[]
  resolved := Array.replicate 37 none
  statics := none }

def pool7 : Array CpInfo := pool [(1, .methodref 2 3), (0, .class_ 4), (0, .nameAndType 5 6), (0, u "java/lang/Object"), (0, u "<init>"), (0, u "()V"), (0, .string 8), (0, u ""), (0, .fieldref 10 11), (0, .class_ 12), (0, .nameAndType 13 14), (0, u "java/lang/String"), (0, u "value"), (0, u "[B"), (0, .fieldref 10 16), (0, .nameAndType 17 18), (0, u "coder"), (0, u "B"), (2, u "hash"), (0, u "I"), (2, u "hashIsZero"), (0, u "Z"), (0, .methodref 10 28), (0, .nameAndType 5 29), (0, u "([CIILjava/lang/Void;)V"), (8, .fieldref 10 39), (0, .nameAndType 40 26), (0, u "COMPACT_STRINGS"), (1, .class_ 44), (1, u "java/lang/StringUTF16"), (0, u "compress"), (1, .methodref 42 48), (0, .nameAndType 49 50), (0, u "coderFromArrayLen"), (0, u "([BI)B"), (56, .class_ 109), (1, u "java/lang/StringLatin1"), (67, .methodref 42 178), (0, .nameAndType 45 179), (0, u "([CII)[B"), (361, .methodref 107 542), (0, .nameAndType 543 544), (0, u "equals"), (0, u "([B[B)Z"), (28, u "(Ljava/lang/Object;)Z"), (1, .class_ 576), (0, u "java/lang/CharSequence"), (22, u "CASE_INSENSITIVE_ORDER"), (0, u "Ljava/util/Comparator;"), (409, u "([C)V"), (90, u "serialPersistentFields"), (0, u "[Ljava/io/ObjectStreamField;"), (0, .class_ 1104), (0, u "java/lang/String$CaseInsensitiveComparator"), (1, .class_ 1107), (0, u "java/io/Serializable"), (0, .class_ 1109), (0, u "java/lang/Comparable"), (0, .class_ 1111), (0, u "java/lang/constant/Constable"), (0, .class_ 1113), (0, u "java/lang/constant/ConstantDesc"), (2, u "serialVersionUID"), (0, u "J"), (3, u "REPL"), (0, u "C"), (2, u "LATIN1"), (1, u "UTF16")] 323

def k7m0 : Method := { name := "<init>", desc := "()V", sig := { parameters := [], returnType := none }, accessFlags := 1, code := none }
def k7c1 : Code := { maxStack := 5, maxLocals := 2, code := jdk_42_method_3_code, exceptionTable := #[], attributes := #[] }
def k7m1 : Method := { name := "<init>", desc := "([C)V", sig := { parameters := [(.array .char)], returnType := none }, accessFlags := 1, code := some k7c1 }
def k7c2 : Code := { maxStack := 2, maxLocals := 3, code := jdk_42_method_66_code, exceptionTable := #[], attributes := #[] }
def k7m2 : Method := { name := "equals", desc := "(Ljava/lang/Object;)Z", sig := { parameters := [(.object "java/lang/Object")], returnType := some .boolean }, accessFlags := 1, code := some k7c2 }
def k7c3 : Code := { maxStack := 4, maxLocals := 6, code := jdk_42_method_149_code, exceptionTable := #[], attributes := #[] }
def k7m3 : Method := { name := "<init>", desc := "([CIILjava/lang/Void;)V", sig := { parameters := [(.array .char), .int, .int, (.object "java/lang/Void")], returnType := none }, accessFlags := 2, code := some k7c3 }
/-- java/lang/String -/
def k7 : Class := { plain "java/lang/String" (some 0) with
  accessFlags := 49
  interfaces := #[2, 3, 4, 5, 6]
  cf := some (fileOf pool7 10 #[.nestMembers #[1103]] #[{ accessFlags := 1, nameIndex := 5, descriptorIndex := 6, attributes := #[] }, { accessFlags := 1, nameIndex := 5, descriptorIndex := 1010, attributes := #[] }, { accessFlags := 1, nameIndex := 543, descriptorIndex := 573, attributes := #[] }, { accessFlags := 2, nameIndex := 5, descriptorIndex := 29, attributes := #[] }] 49 2 #[1106, 1108, 575, 1110, 1112] #[{ accessFlags := 18, nameIndex := 13, descriptorIndex := 14, attributes := #[] }, { accessFlags := 18, nameIndex := 17, descriptorIndex := 18, attributes := #[] }, { accessFlags := 2, nameIndex := 21, descriptorIndex := 22, attributes := #[] }, { accessFlags := 2, nameIndex := 25, descriptorIndex := 26, attributes := #[] }, { accessFlags := 26, nameIndex := 1116, descriptorIndex := 1117, attributes := #[] }, { accessFlags := 24, nameIndex := 40, descriptorIndex := 26, attributes := #[] }, { accessFlags := 26, nameIndex := 1101, descriptorIndex := 1102, attributes := #[] }, { accessFlags := 26, nameIndex := 1121, descriptorIndex := 1122, attributes := #[] }, { accessFlags := 25, nameIndex := 599, descriptorIndex := 600, attributes := #[] }, { accessFlags := 24, nameIndex := 1125, descriptorIndex := 18, attributes := #[] }, { accessFlags := 24, nameIndex := 1127, descriptorIndex := 18, attributes := #[] }])
  fields := #[{ name := "value", type := (.array .byte), accessFlags := 18, slot := 0, constantValue := 0 }, { name := "coder", type := .byte, accessFlags := 18, slot := 1, constantValue := 0 }, { name := "hash", type := .int, accessFlags := 2, slot := 2, constantValue := 0 }, { name := "hashIsZero", type := .boolean, accessFlags := 2, slot := 3, constantValue := 0 }, { name := "serialVersionUID", type := .long, accessFlags := 26, slot := 0, constantValue := 0 }, { name := "COMPACT_STRINGS", type := .boolean, accessFlags := 24, slot := 1, constantValue := 0 }, { name := "serialPersistentFields", type := (.array (.object "java/io/ObjectStreamField")), accessFlags := 26, slot := 2, constantValue := 0 }, { name := "REPL", type := .char, accessFlags := 26, slot := 3, constantValue := 0 }, { name := "CASE_INSENSITIVE_ORDER", type := (.object "java/util/Comparator"), accessFlags := 25, slot := 4, constantValue := 0 }, { name := "LATIN1", type := .byte, accessFlags := 24, slot := 5, constantValue := 0 }, { name := "UTF16", type := .byte, accessFlags := 24, slot := 6, constantValue := 0 }]
  methods := #[k7m0, k7m1, k7m2, k7m3]
  instanceTypes := #[(.array .byte), .byte, .int, .boolean]
  staticTypes := #[.long, .boolean, (.array (.object "java/io/ObjectStreamField")), .char, (.object "java/util/Comparator"), .byte, .byte]
  resolved := Array.replicate 1451 none
  statics := some 0 }

def pool8 : Array CpInfo := pool [(6, .class_ 8), (1, u "java/lang/Object"), (0, u "<init>"), (0, u "()V"), (1, .class_ 14), (1, u "java/lang/StringUTF16"), (31, u "$assertionsDisabled"), (0, u "Z"), (13, u "HI_BYTE_SHIFT"), (0, u "I"), (2, u "LO_BYTE_SHIFT"), (49, .methodref 12 116), (0, .nameAndType 117 118), (0, u "compress"), (0, u "([CI[BII)I"), (3, u "([CII)[B"), (138, u "coderFromArrayLen"), (0, u "([BI)B"), (106, .class_ 371), (1, u "java/lang/StringUTF16$LinesSpliterator"), (58, u "MAX_LENGTH"), (196, .class_ 628), (0, u "java/lang/StringUTF16$CodePointsSpliterator"), (0, .class_ 630), (0, u "java/lang/StringUTF16$CharsSpliterator")] 4

def k8m0 : Method := { name := "<init>", desc := "()V", sig := { parameters := [], returnType := none }, accessFlags := 0, code := none }
def k8c1 : Code := { maxStack := 2, maxLocals := 2, code := jdk_52_method_15_code, exceptionTable := #[], attributes := #[] }
def k8m1 : Method := { name := "coderFromArrayLen", desc := "([BI)B", sig := { parameters := [(.array .byte), .int], returnType := some .byte }, accessFlags := 8, code := some k8c1 }
def k8c2 : Code := { maxStack := 5, maxLocals := 6, code := jdk_52_method_16_code, exceptionTable := #[], attributes := #[] }
def k8m2 : Method := { name := "compress", desc := "([CII)[B", sig := { parameters := [(.array .char), .int, .int], returnType := some (.array .byte) }, accessFlags := 9, code := some k8c2 }
def k8c3 : Code := { maxStack := 3, maxLocals := 7, code := jdk_52_method_21_code, exceptionTable := #[], attributes := #[] }
def k8m3 : Method := { name := "compress", desc := "([CI[BII)I", sig := { parameters := [(.array .char), .int, (.array .byte), .int, .int], returnType := some .int }, accessFlags := 9, code := some k8c3 }
/-- java/lang/StringUTF16 -/
def k8 : Class := { plain "java/lang/StringUTF16" (some 0) with
  accessFlags := 48
  interfaces := #[]
  cf := some (fileOf pool8 12 #[.nestMembers #[627, 629, 369]] #[{ accessFlags := 0, nameIndex := 9, descriptorIndex := 10, attributes := #[] }, { accessFlags := 8, nameIndex := 261, descriptorIndex := 262, attributes := #[] }, { accessFlags := 9, nameIndex := 117, descriptorIndex := 122, attributes := #[] }, { accessFlags := 9, nameIndex := 117, descriptorIndex := 118, attributes := #[] }] 48 6 #[] #[{ accessFlags := 26, nameIndex := 61, descriptorIndex := 62, attributes := #[] }, { accessFlags := 26, nameIndex := 65, descriptorIndex := 62, attributes := #[] }, { accessFlags := 24, nameIndex := 430, descriptorIndex := 62, attributes := #[] }, { accessFlags := 4120, nameIndex := 46, descriptorIndex := 47, attributes := #[] }])
  fields := #[{ name := "HI_BYTE_SHIFT", type := .int, accessFlags := 26, slot := 0, constantValue := 0 }, { name := "LO_BYTE_SHIFT", type := .int, accessFlags := 26, slot := 1, constantValue := 0 }, { name := "MAX_LENGTH", type := .int, accessFlags := 24, slot := 2, constantValue := 0 }, { name := "$assertionsDisabled", type := .boolean, accessFlags := 4120, slot := 3, constantValue := 0 }]
  methods := #[k8m0, k8m1, k8m2, k8m3]
  instanceTypes := #[]
  staticTypes := #[.int, .int, .int, .boolean]
  resolved := Array.replicate 635 none
  statics := none }

def pool9 : Array CpInfo := pool [(1, .methodref 2 3), (0, .class_ 4), (0, .nameAndType 5 6), (0, u "java/lang/Object"), (0, u "<init>"), (0, u "()V"), (0, .string 8), (0, u "instancePointer"), (0, .methodref 10 11), (0, .class_ 12), (0, .nameAndType 13 14), (0, u "java/util/Objects"), (0, u "requireNonNull"), (0, u "(Ljava/lang/Object;Ljava/lang/String;)Ljava/lang/Object;"), (0, .class_ 16), (0, u "java/lang/String"), (0, .fieldref 18 19), (0, .class_ 20), (0, .nameAndType 8 21), (0, u "com/example/quorum/quorum/ValidationFailure"), (0, u "Ljava/lang/String;"), (0, .string 23), (0, u "keywordLocation"), (0, .fieldref 18 25), (0, .nameAndType 23 21), (0, .string 27), (0, u "message"), (0, .fieldref 18 29), (0, .nameAndType 27 21), (0, .methodref 15 31), (0, .nameAndType 32 33), (0, u "equals"), (0, u "(Ljava/lang/Object;)Z"), (20, u "(Ljava/lang/String;Ljava/lang/String;Ljava/lang/String;)V")] 24

def k9c0 : Code := { maxStack := 3, maxLocals := 4, code := prog_119_method_1_code, exceptionTable := #[], attributes := #[] }
def k9m0 : Method := { name := "<init>", desc := "(Ljava/lang/String;Ljava/lang/String;Ljava/lang/String;)V", sig := { parameters := [(.object "java/lang/String"), (.object "java/lang/String"), (.object "java/lang/String")], returnType := none }, accessFlags := 0, code := some k9c0 }
def k9c1 : Code := { maxStack := 2, maxLocals := 3, code := prog_119_method_5_code, exceptionTable := #[], attributes := #[] }
def k9m1 : Method := { name := "equals", desc := "(Ljava/lang/Object;)Z", sig := { parameters := [(.object "java/lang/Object")], returnType := some .boolean }, accessFlags := 1, code := some k9c1 }
/-- com/example/quorum/quorum/ValidationFailure -/
def k9 : Class := { plain "com/example/quorum/quorum/ValidationFailure" (some 0) with
  accessFlags := 49
  interfaces := #[]
  cf := some (fileOf pool9 18 #[] #[{ accessFlags := 0, nameIndex := 5, descriptorIndex := 54, attributes := #[] }, { accessFlags := 1, nameIndex := 32, descriptorIndex := 33, attributes := #[] }] 49 2 #[] #[{ accessFlags := 18, nameIndex := 8, descriptorIndex := 21, attributes := #[] }, { accessFlags := 18, nameIndex := 23, descriptorIndex := 21, attributes := #[] }, { accessFlags := 18, nameIndex := 27, descriptorIndex := 21, attributes := #[] }])
  fields := #[{ name := "instancePointer", type := (.object "java/lang/String"), accessFlags := 18, slot := 0, constantValue := 0 }, { name := "keywordLocation", type := (.object "java/lang/String"), accessFlags := 18, slot := 1, constantValue := 0 }, { name := "message", type := (.object "java/lang/String"), accessFlags := 18, slot := 2, constantValue := 0 }]
  methods := #[k9m0, k9m1]
  instanceTypes := #[(.object "java/lang/String"), (.object "java/lang/String"), (.object "java/lang/String")]
  staticTypes := #[]
  resolved := Array.replicate 79 none
  statics := none }

def pool10 : Array CpInfo := pool [(2, .class_ 4), (1, u "java/lang/Object"), (0, u "<init>"), (0, u "()V"), (35, .class_ 44), (1, u "java/util/Objects"), (0, u "requireNonNull"), (48, u "(Ljava/lang/Object;Ljava/lang/String;)Ljava/lang/Object;")] 89

def k10m0 : Method := { name := "<init>", desc := "()V", sig := { parameters := [], returnType := none }, accessFlags := 2, code := none }
def k10c1 : Code := { maxStack := 3, maxLocals := 2, code := jdk_31_method_11_code, exceptionTable := #[], attributes := #[] }
def k10m1 : Method := { name := "requireNonNull", desc := "(Ljava/lang/Object;Ljava/lang/String;)Ljava/lang/Object;", sig := { parameters := [(.object "java/lang/Object"), (.object "java/lang/String")], returnType := some (.object "java/lang/Object") }, accessFlags := 9, code := some k10c1 }
/-- java/util/Objects -/
def k10 : Class := { plain "java/util/Objects" (some 0) with
  accessFlags := 49
  interfaces := #[]
  cf := some (fileOf pool10 42 #[] #[{ accessFlags := 2, nameIndex := 5, descriptorIndex := 6, attributes := #[] }, { accessFlags := 9, nameIndex := 45, descriptorIndex := 94, attributes := #[] }] 49 2 #[] #[])
  fields := #[]
  methods := #[k10m0, k10m1]
  instanceTypes := #[]
  staticTypes := #[]
  resolved := Array.replicate 184 none
  statics := none }

def pool11 : Array CpInfo := pool [(4, .class_ 6), (1, u "java/lang/Object"), (0, u "<init>"), (0, u "()V"), (5, .class_ 16), (1, u "java/lang/StringLatin1"), (104, u "$assertionsDisabled"), (0, u "Z"), (98, .class_ 223), (1, u "java/lang/StringLatin1$LinesSpliterator"), (57, u "equals"), (0, u "([B[B)Z"), (107, .class_ 391), (0, u "java/lang/StringLatin1$CharsSpliterator")] 3

def k11m0 : Method := { name := "<init>", desc := "()V", sig := { parameters := [], returnType := none }, accessFlags := 0, code := none }
def k11c1 : Code := { maxStack := 3, maxLocals := 3, code := jdk_43_method_13_code, exceptionTable := #[], attributes := #[] }
def k11m1 : Method := { name := "equals", desc := "([B[B)Z", sig := { parameters := [(.array .byte), (.array .byte)], returnType := some .boolean }, accessFlags := 9, code := some k11c1 }
/-- java/lang/StringLatin1 -/
def k11 : Class := { plain "java/lang/StringLatin1" (some 0) with
  accessFlags := 48
  interfaces := #[]
  cf := some (fileOf pool11 14 #[.nestMembers #[390, 221]] #[{ accessFlags := 0, nameIndex := 7, descriptorIndex := 8, attributes := #[] }, { accessFlags := 9, nameIndex := 281, descriptorIndex := 282, attributes := #[] }] 48 4 #[] #[{ accessFlags := 4120, nameIndex := 121, descriptorIndex := 122, attributes := #[] }])
  fields := #[{ name := "$assertionsDisabled", type := .boolean, accessFlags := 4120, slot := 0, constantValue := 0 }]
  methods := #[k11m0, k11m1]
  instanceTypes := #[]
  staticTypes := #[.boolean]
  resolved := Array.replicate 395 none
  statics := none }

def pool12 : Array CpInfo := pool [(2, .class_ 4), (1, u "java/lang/Object"), (0, u "<init>"), (0, u "()V"), (17, .class_ 26), (1, u "jdk/internal/util/Preconditions"), (28, .class_ 56), (0, u "jdk/internal/util/Preconditions$4"), (57, .class_ 115), (0, u "jdk/internal/util/Preconditions$1"), (7, u "SIOOBE_FORMATTER"), (0, u "Ljava/util/function/BiFunction;"), (0, .class_ 126), (0, u "jdk/internal/util/Preconditions$2"), (3, u "AIOOBE_FORMATTER"), (0, .class_ 132), (0, u "jdk/internal/util/Preconditions$3"), (3, u "IOOBE_FORMATTER")] 57

def k12m0 : Method := { name := "<init>", desc := "()V", sig := { parameters := [], returnType := none }, accessFlags := 1, code := none }
/-- jdk/internal/util/Preconditions -/
def k12 : Class := { plain "jdk/internal/util/Preconditions" (some 0) with
  accessFlags := 33
  interfaces := #[]
  cf := some (fileOf pool12 24 #[.nestMembers #[55, 131, 125, 114]] #[{ accessFlags := 1, nameIndex := 5, descriptorIndex := 6, attributes := #[] }] 33 2 #[] #[{ accessFlags := 25, nameIndex := 123, descriptorIndex := 124, attributes := #[] }, { accessFlags := 25, nameIndex := 130, descriptorIndex := 124, attributes := #[] }, { accessFlags := 25, nameIndex := 136, descriptorIndex := 124, attributes := #[] }])
  fields := #[{ name := "SIOOBE_FORMATTER", type := (.object "java/util/function/BiFunction"), accessFlags := 25, slot := 0, constantValue := 0 }, { name := "AIOOBE_FORMATTER", type := (.object "java/util/function/BiFunction"), accessFlags := 25, slot := 1, constantValue := 0 }, { name := "IOOBE_FORMATTER", type := (.object "java/util/function/BiFunction"), accessFlags := 25, slot := 2, constantValue := 0 }]
  methods := #[k12m0]
  instanceTypes := #[]
  staticTypes := #[(.object "java/util/function/BiFunction"), (.object "java/util/function/BiFunction"), (.object "java/util/function/BiFunction")]
  resolved := Array.replicate 194 none
  statics := some 1 }

def pool13 : Array CpInfo := pool [(9, u "<init>"), (6, .class_ 18), (1, u "java/lang/Object"), (0, u "()V"), (1, .class_ 23), (1, u "jdk/internal/util/ArraysSupport"), (0, u "LOG2_ARRAY_LONG_INDEX_SCALE"), (0, u "I"), (2, u "U"), (0, u "Ljdk/internal/misc/Unsafe;"), (8, u "BIG_ENDIAN"), (0, u "Z"), (8, u "LOG2_BYTE_BIT_SIZE"), (4, u "LOG2_ARRAY_INT_INDEX_SCALE"), (54, u "JLA"), (0, u "Ljdk/internal/access/JavaLangAccess;"), (11, u "LOG2_ARRAY_BOOLEAN_INDEX_SCALE"), (9, u "LOG2_ARRAY_BYTE_INDEX_SCALE"), (5, u "LOG2_ARRAY_CHAR_INDEX_SCALE"), (5, u "LOG2_ARRAY_SHORT_INDEX_SCALE"), (18, u "LOG2_ARRAY_FLOAT_INDEX_SCALE"), (24, u "LOG2_ARRAY_DOUBLE_INDEX_SCALE"), (89, u "T_BOOLEAN"), (2, u "T_CHAR"), (1, u "T_FLOAT"), (1, u "T_DOUBLE"), (1, u "T_BYTE"), (1, u "T_SHORT"), (1, u "T_INT"), (1, u "T_LONG"), (1, u "SOFT_MAX_ARRAY_LENGTH")] 83

def k13m0 : Method := { name := "<init>", desc := "()V", sig := { parameters := [], returnType := none }, accessFlags := 2, code := none }
/-- jdk/internal/util/ArraysSupport -/
def k13 : Class := { plain "jdk/internal/util/ArraysSupport" (some 0) with
  accessFlags := 33
  interfaces := #[]
  cf := some (fileOf pool13 21 #[] #[{ accessFlags := 2, nameIndex := 9, descriptorIndex := 19, attributes := #[] }] 33 16 #[] #[{ accessFlags := 24, nameIndex := 28, descriptorIndex := 29, attributes := #[] }, { accessFlags := 26, nameIndex := 38, descriptorIndex := 39, attributes := #[] }, { accessFlags := 25, nameIndex := 121, descriptorIndex := 25, attributes := #[] }, { accessFlags := 25, nameIndex := 131, descriptorIndex := 25, attributes := #[] }, { accessFlags := 25, nameIndex := 137, descriptorIndex := 25, attributes := #[] }, { accessFlags := 25, nameIndex := 143, descriptorIndex := 25, attributes := #[] }, { accessFlags := 25, nameIndex := 53, descriptorIndex := 25, attributes := #[] }, { accessFlags := 25, nameIndex := 24, descriptorIndex := 25, attributes := #[] }, { accessFlags := 25, nameIndex := 162, descriptorIndex := 25, attributes := #[] }, { accessFlags := 25, nameIndex := 187, descriptorIndex := 25, attributes := #[] }, { accessFlags := 26, nameIndex := 48, descriptorIndex := 25, attributes := #[] }, { accessFlags := 25, nameIndex := 277, descriptorIndex := 25, attributes := #[] }, { accessFlags := 25, nameIndex := 280, descriptorIndex := 25, attributes := #[] }, { accessFlags := 25, nameIndex := 282, descriptorIndex := 25, attributes := #[] }, { accessFlags := 25, nameIndex := 284, descriptorIndex := 25, attributes := #[] }, { accessFlags := 25, nameIndex := 286, descriptorIndex := 25, attributes := #[] }, { accessFlags := 25, nameIndex := 288, descriptorIndex := 25, attributes := #[] }, { accessFlags := 25, nameIndex := 290, descriptorIndex := 25, attributes := #[] }, { accessFlags := 25, nameIndex := 292, descriptorIndex := 25, attributes := #[] }, { accessFlags := 26, nameIndex := 108, descriptorIndex := 109, attributes := #[] }, { accessFlags := 25, nameIndex := 294, descriptorIndex := 25, attributes := #[] }])
  fields := #[{ name := "U", type := (.object "jdk/internal/misc/Unsafe"), accessFlags := 24, slot := 0, constantValue := 0 }, { name := "BIG_ENDIAN", type := .boolean, accessFlags := 26, slot := 1, constantValue := 0 }, { name := "LOG2_ARRAY_BOOLEAN_INDEX_SCALE", type := .int, accessFlags := 25, slot := 2, constantValue := 0 }, { name := "LOG2_ARRAY_BYTE_INDEX_SCALE", type := .int, accessFlags := 25, slot := 3, constantValue := 0 }, { name := "LOG2_ARRAY_CHAR_INDEX_SCALE", type := .int, accessFlags := 25, slot := 4, constantValue := 0 }, { name := "LOG2_ARRAY_SHORT_INDEX_SCALE", type := .int, accessFlags := 25, slot := 5, constantValue := 0 }, { name := "LOG2_ARRAY_INT_INDEX_SCALE", type := .int, accessFlags := 25, slot := 6, constantValue := 0 }, { name := "LOG2_ARRAY_LONG_INDEX_SCALE", type := .int, accessFlags := 25, slot := 7, constantValue := 0 }, { name := "LOG2_ARRAY_FLOAT_INDEX_SCALE", type := .int, accessFlags := 25, slot := 8, constantValue := 0 }, { name := "LOG2_ARRAY_DOUBLE_INDEX_SCALE", type := .int, accessFlags := 25, slot := 9, constantValue := 0 }, { name := "LOG2_BYTE_BIT_SIZE", type := .int, accessFlags := 26, slot := 10, constantValue := 0 }, { name := "T_BOOLEAN", type := .int, accessFlags := 25, slot := 11, constantValue := 0 }, { name := "T_CHAR", type := .int, accessFlags := 25, slot := 12, constantValue := 0 }, { name := "T_FLOAT", type := .int, accessFlags := 25, slot := 13, constantValue := 0 }, { name := "T_DOUBLE", type := .int, accessFlags := 25, slot := 14, constantValue := 0 }, { name := "T_BYTE", type := .int, accessFlags := 25, slot := 15, constantValue := 0 }, { name := "T_SHORT", type := .int, accessFlags := 25, slot := 16, constantValue := 0 }, { name := "T_INT", type := .int, accessFlags := 25, slot := 17, constantValue := 0 }, { name := "T_LONG", type := .int, accessFlags := 25, slot := 18, constantValue := 0 }, { name := "JLA", type := (.object "jdk/internal/access/JavaLangAccess"), accessFlags := 26, slot := 19, constantValue := 0 }, { name := "SOFT_MAX_ARRAY_LENGTH", type := .int, accessFlags := 25, slot := 20, constantValue := 0 }]
  methods := #[k13m0]
  instanceTypes := #[]
  staticTypes := #[(.object "jdk/internal/misc/Unsafe"), .boolean, .int, .int, .int, .int, .int, .int, .int, .int, .int, .int, .int, .int, .int, .int, .int, .int, .int, (.object "jdk/internal/access/JavaLangAccess"), .int]
  resolved := Array.replicate 378 none
  statics := none }

def pool14 : Array CpInfo := pool [(1, u "java/lang/Cloneable"), (0, .class_ 1), (0, u "java/lang/Object"), (0, .class_ 3)] 3

/-- java/lang/Cloneable -/
def k14 : Class := { plain "java/lang/Cloneable" (some 0) with
  accessFlags := 1537
  interfaces := #[]
  cf := some (fileOf pool14 2 #[] #[] 1537 4 #[] #[])
  fields := #[]
  methods := #[]
  instanceTypes := #[]
  staticTypes := #[]
  resolved := Array.replicate 8 none
  statics := none }

/-- the primitive byte -/
def k15 : Class := { plain "byte" none with kind := .primitive 'B', accessFlags := 0x411 }
/-- [B -/
def k16 : Class := { plain "[B" (some 0) with kind := .array 15 .byte, interfaces := #[14, 2], accessFlags := 1041 }

/-- the primitive char -/
def k17 : Class := { plain "char" none with kind := .primitive 'C', accessFlags := 0x411 }
/-- [C -/
def k18 : Class := { plain "[C" (some 0) with kind := .array 17 .char, interfaces := #[14, 2], accessFlags := 1041 }

/-- the primitive int -/
def k19 : Class := { plain "int" none with kind := .primitive 'I', accessFlags := 0x411 }
/-- [I -/
def k20 : Class := { plain "[I" (some 0) with kind := .array 19 .int, interfaces := #[14, 2], accessFlags := 1041 }

def heap : Heap := #[{ cls := 7, slots := #[.long 0, .int 1, .null, .int 0, .null, .int 0, .int 0], vm := .statics 7 },
  { cls := 12, slots := #[.null, .null, .null], vm := .statics 12 }]
def classes : Array Class := #[k0, k1, k2, k3, k4, k5, k6, k7, k8, k9, k10, k11, k12, k13, k14, k15, k16, k17, k18, k19, k20]
def interned : List (Array UInt16 × Addr) := []
def slotsUsed : Nat := 10
def theMethod : MethodId := ⟨1, 1⟩
def args0 : Array Value := #[.long 5, .long 7, .long 9, .int 0]
def aboutOver (below : List Frame) : State where
  vm := { classes := classes, interned := interned.toArray }
  heap := heap
  slotsUsed := slotsUsed
  threads := #[{ frames := .invoking theMethod args0 :: below }]
def below0 : List Frame := [.native { method := ⟨0, 0⟩, args := #[] }]
def about1 : State := aboutOver below0
def p0 : Program := .bare "" "" ""
def e0 : Env := launch0.env 0 0 0
theorem w_frames : about1.frames = Frame.invoking theMethod args0 :: below0 := rfl
set_option maxRecDepth 65536 in
theorem w_args : argsFit about1.vm theMethod args0 = true := by decide +kernel
set_option maxRecDepth 65536 in
theorem w_heap : heapFits about1 = true := by decide +kernel
set_option maxRecDepth 65536 in
theorem w_runnable : about1.curStatus? = some .runnable := by decide +kernel
set_option maxRecDepth 65536 in
theorem w_alone : about1.alone = true := by decide +kernel
set_option maxRecDepth 65536 in
theorem w_named : about1.methodNamed? x = some theMethod := by decide +kernel
set_option maxRecDepth 65536 in
theorem w_hears : about1.hears theMethod below0 = true := by decide +kernel
set_option maxRecDepth 65536 in
theorem w_ripe : about1.ripe theMethod args0 below0 = true := by decide +kernel
theorem w_running : about1.status = .running := rfl
set_option maxRecDepth 65536 in
theorem w_room : about1.hasRoom e0.platform room_1 = true :=
  launch0.hasRoom_least _ room_1 (by decide +kernel) (by decide +kernel) (by decide +kernel) (by decide +kernel) (by decide +kernel) (by decide +kernel)
theorem allAtoms_all (ts : List Jvm.Cond) (a : Array Jvm.Value) (st : Jvm.State) : (allAtoms ts).before a st = ts.all (fun c => c.before a st) := by
  induction ts with
  | nil => rfl
  | cons c t ih =>
    show (Jvm.Cond.and c (allAtoms t)).before a st = _
    rw [Jvm.Cond.before_and, ih, List.all_cons]
def words1 : List Jvm.Cond := Jvm.Cond.code x code maxLocals ret :: tables_1
/-- a 'code' word, met by the world's own term for the bytes: nothing is compared byte by byte -/
theorem code_word {y : MethodName} {bytes : ByteArray} {mx : Nat} {rt : Option FieldType} {a : Array Value} {s : State} {m : MethodId} {meth : Method} {c : Code} (h1 : s.methodNamed? y = some m) (h2 : s.vm.method? m = some meth) (h3 : meth.code = some c) (h4 : c.code = bytes)
    (h5 : (c.maxLocals == mx && c.exceptionTable.isEmpty && decide (c.maxStack ≤ mostOperands) && decide (meth.sig.returnType = rt) && !meth.locks && decide (parseMethodDescriptor y.desc = some meth.sig)) = true) : (Jvm.Cond.code y bytes mx rt).before a s = true := by
  simp only [Bool.and_eq_true, beq_iff_eq, Bool.not_eq_true', decide_eq_true_eq] at h5
  obtain ⟨⟨⟨⟨⟨g1, g2⟩, g3⟩, g4⟩, g5⟩, g6⟩ := h5
  simp [Cond.before, Cond.holds, Cond.value, h1, h2, h3, h4, g1, g2, g3, g4, g5, g6]
def isCode : Jvm.Cond → Bool
  | .code _ _ _ _ => true
  | _ => false
theorem all_split {L : List Jvm.Cond} {P : Jvm.Cond → Bool} (h1 : L.all (fun c => isCode c || P c) = true) (h2 : ∀ c ∈ L.filter isCode, P c = true) : L.all P = true := by
  refine List.all_eq_true.mpr fun c hc => ?_
  have h := List.all_eq_true.mp h1 c hc
  rcases Bool.eq_false_or_eq_true (isCode c) with hi | hi
  · exact h2 c (List.mem_filter.mpr ⟨hc, hi⟩)
  · simpa [hi] using h
set_option maxRecDepth 65536 in
theorem w_c0 : (Jvm.Cond.code x code maxLocals ret).before args0 about1 = true := code_word (m := ⟨1, 1⟩) (meth := k1m1) (c := k1c1) (by decide +kernel) rfl rfl rfl (by decide +kernel)
set_option maxRecDepth 65536 in
theorem w_c1 : (Jvm.Cond.code ({ cls := "com/example/quorum/quorum/ValidationFailureEqualsPinLaw", name := "field", desc := "(J)[I" } : Jvm.MethodName) method_3_code (9 : Nat) (Option.some (Jvm.ClassFile.FieldType.array Jvm.ClassFile.FieldType.int))).before args0 about1 = true := code_word (m := ⟨1, 2⟩) (meth := k1m2) (c := k1c2) (by decide +kernel) rfl rfl rfl (by decide +kernel)
set_option maxRecDepth 65536 in
theorem w_c2 : (Jvm.Cond.code ({ cls := "com/example/quorum/quorum/ValidationFailureEqualsPinLaw", name := "len", desc := "(J)I" } : Jvm.MethodName) method_4_code (2 : Nat) (Option.some Jvm.ClassFile.FieldType.int)).before args0 about1 = true := code_word (m := ⟨1, 3⟩) (meth := k1m3) (c := k1c3) (by decide +kernel) rfl rfl rfl (by decide +kernel)
set_option maxRecDepth 65536 in
theorem w_c3 : (Jvm.Cond.code ({ cls := "com/example/quorum/quorum/ValidationFailureEqualsPinLaw", name := "ch", desc := "(JI)I" } : Jvm.MethodName) method_5_code (3 : Nat) (Option.some Jvm.ClassFile.FieldType.int)).before args0 about1 = true := code_word (m := ⟨1, 4⟩) (meth := k1m4) (c := k1c4) (by decide +kernel) rfl rfl rfl (by decide +kernel)
set_option maxRecDepth 65536 in
theorem w_c4 : (Jvm.Cond.code ({ cls := "com/example/quorum/quorum/ValidationFailureEqualsPinLaw", name := "mk", desc := "(III)Ljava/lang/String;" } : Jvm.MethodName) method_6_code (3 : Nat) (Option.some (Jvm.ClassFile.FieldType.object "java/lang/String"))).before args0 about1 = true := code_word (m := ⟨1, 5⟩) (meth := k1m5) (c := k1c5) (by decide +kernel) rfl rfl rfl (by decide +kernel)
set_option maxRecDepth 65536 in
theorem w_c5 : (Jvm.Cond.code ({ cls := "java/lang/String", name := "<init>", desc := "([C)V" } : Jvm.MethodName) jdk_42_method_3_code (2 : Nat) (Option.none : Option Jvm.ClassFile.FieldType)).before args0 about1 = true := code_word (m := ⟨7, 1⟩) (meth := k7m1) (c := k7c1) (by decide +kernel) rfl rfl rfl (by decide +kernel)
set_option maxRecDepth 65536 in
theorem w_c6 : (Jvm.Cond.code ({ cls := "java/lang/String", name := "<init>", desc := "([CIILjava/lang/Void;)V" } : Jvm.MethodName) jdk_42_method_149_code (6 : Nat) (Option.none : Option Jvm.ClassFile.FieldType)).before args0 about1 = true := code_word (m := ⟨7, 3⟩) (meth := k7m3) (c := k7c3) (by decide +kernel) rfl rfl rfl (by decide +kernel)
set_option maxRecDepth 65536 in
theorem w_c7 : (Jvm.Cond.code ({ cls := "java/lang/Object", name := "<init>", desc := "()V" } : Jvm.MethodName) object_method_1_code (1 : Nat) (Option.none : Option Jvm.ClassFile.FieldType)).before args0 about1 = true := code_word (m := ⟨0, 0⟩) (meth := k0m0) (c := k0c0) (by decide +kernel) rfl rfl rfl (by decide +kernel)
set_option maxRecDepth 65536 in
theorem w_c8 : (Jvm.Cond.code ({ cls := "java/lang/StringUTF16", name := "compress", desc := "([CII)[B" } : Jvm.MethodName) jdk_52_method_16_code (6 : Nat) (Option.some (Jvm.ClassFile.FieldType.array Jvm.ClassFile.FieldType.byte))).before args0 about1 = true := code_word (m := ⟨8, 2⟩) (meth := k8m2) (c := k8c2) (by decide +kernel) rfl rfl rfl (by decide +kernel)
set_option maxRecDepth 65536 in
theorem w_c9 : (Jvm.Cond.code ({ cls := "java/lang/StringUTF16", name := "compress", desc := "([CI[BII)I" } : Jvm.MethodName) jdk_52_method_21_code (7 : Nat) (Option.some Jvm.ClassFile.FieldType.int)).before args0 about1 = true := code_word (m := ⟨8, 3⟩) (meth := k8m3) (c := k8c3) (by decide +kernel) rfl rfl rfl (by decide +kernel)
set_option maxRecDepth 65536 in
theorem w_c10 : (Jvm.Cond.code ({ cls := "java/lang/StringUTF16", name := "coderFromArrayLen", desc := "([BI)B" } : Jvm.MethodName) jdk_52_method_15_code (2 : Nat) (Option.some Jvm.ClassFile.FieldType.byte)).before args0 about1 = true := code_word (m := ⟨8, 1⟩) (meth := k8m1) (c := k8c1) (by decide +kernel) rfl rfl rfl (by decide +kernel)
set_option maxRecDepth 65536 in
theorem w_c11 : (Jvm.Cond.code ({ cls := "com/example/quorum/quorum/ValidationFailure", name := "<init>", desc := "(Ljava/lang/String;Ljava/lang/String;Ljava/lang/String;)V" } : Jvm.MethodName) prog_119_method_1_code (4 : Nat) (Option.none : Option Jvm.ClassFile.FieldType)).before args0 about1 = true := code_word (m := ⟨9, 0⟩) (meth := k9m0) (c := k9c0) (by decide +kernel) rfl rfl rfl (by decide +kernel)
set_option maxRecDepth 65536 in
theorem w_c12 : (Jvm.Cond.code ({ cls := "java/util/Objects", name := "requireNonNull", desc := "(Ljava/lang/Object;Ljava/lang/String;)Ljava/lang/Object;" } : Jvm.MethodName) jdk_31_method_11_code (2 : Nat) (Option.some (Jvm.ClassFile.FieldType.object "java/lang/Object"))).before args0 about1 = true := code_word (m := ⟨10, 1⟩) (meth := k10m1) (c := k10c1) (by decide +kernel) rfl rfl rfl (by decide +kernel)
set_option maxRecDepth 65536 in
theorem w_c13 : (Jvm.Cond.code ({ cls := "com/example/quorum/quorum/ValidationFailure", name := "equals", desc := "(Ljava/lang/Object;)Z" } : Jvm.MethodName) prog_119_method_5_code (3 : Nat) (Option.some Jvm.ClassFile.FieldType.boolean)).before args0 about1 = true := code_word (m := ⟨9, 1⟩) (meth := k9m1) (c := k9c1) (by decide +kernel) rfl rfl rfl (by decide +kernel)
set_option maxRecDepth 65536 in
theorem w_c14 : (Jvm.Cond.code ({ cls := "com/example/quorum/quorum/ValidationFailureEqualsPinLaw", name := "same", desc := "([I)Z" } : Jvm.MethodName) method_7_code (1 : Nat) (Option.some Jvm.ClassFile.FieldType.boolean)).before args0 about1 = true := code_word (m := ⟨1, 6⟩) (meth := k1m6) (c := k1c6) (by decide +kernel) rfl rfl rfl (by decide +kernel)
set_option maxRecDepth 65536 in
theorem w_c15 : (Jvm.Cond.code ({ cls := "java/lang/String", name := "equals", desc := "(Ljava/lang/Object;)Z" } : Jvm.MethodName) jdk_42_method_66_code (3 : Nat) (Option.some Jvm.ClassFile.FieldType.boolean)).before args0 about1 = true := code_word (m := ⟨7, 2⟩) (meth := k7m2) (c := k7c2) (by decide +kernel) rfl rfl rfl (by decide +kernel)
set_option maxRecDepth 65536 in
theorem w_c16 : (Jvm.Cond.code ({ cls := "java/lang/StringLatin1", name := "equals", desc := "([B[B)Z" } : Jvm.MethodName) jdk_43_method_13_code (3 : Nat) (Option.some Jvm.ClassFile.FieldType.boolean)).before args0 about1 = true := code_word (m := ⟨11, 1⟩) (meth := k11m1) (c := k11c1) (by decide +kernel) rfl rfl rfl (by decide +kernel)
def codes1 : List Jvm.Cond := [Jvm.Cond.code x code maxLocals ret, Jvm.Cond.code ({ cls := "com/example/quorum/quorum/ValidationFailureEqualsPinLaw", name := "field", desc := "(J)[I" } : Jvm.MethodName) method_3_code (9 : Nat) (Option.some (Jvm.ClassFile.FieldType.array Jvm.ClassFile.FieldType.int)), Jvm.Cond.code ({ cls := "com/example/quorum/quorum/ValidationFailureEqualsPinLaw", name := "len", desc := "(J)I" } : Jvm.MethodName) method_4_code (2 : Nat) (Option.some Jvm.ClassFile.FieldType.int), Jvm.Cond.code ({ cls := "com/example/quorum/quorum/ValidationFailureEqualsPinLaw", name := "ch", desc := "(JI)I" } : Jvm.MethodName) method_5_code (3 : Nat) (Option.some Jvm.ClassFile.FieldType.int), Jvm.Cond.code ({ cls := "com/example/quorum/quorum/ValidationFailureEqualsPinLaw", name := "mk", desc := "(III)Ljava/lang/String;" } : Jvm.MethodName) method_6_code (3 : Nat) (Option.some (Jvm.ClassFile.FieldType.object "java/lang/String")), Jvm.Cond.code ({ cls := "java/lang/String", name := "<init>", desc := "([C)V" } : Jvm.MethodName) jdk_42_method_3_code (2 : Nat) (Option.none : Option Jvm.ClassFile.FieldType), Jvm.Cond.code ({ cls := "java/lang/String", name := "<init>", desc := "([CIILjava/lang/Void;)V" } : Jvm.MethodName) jdk_42_method_149_code (6 : Nat) (Option.none : Option Jvm.ClassFile.FieldType), Jvm.Cond.code ({ cls := "java/lang/Object", name := "<init>", desc := "()V" } : Jvm.MethodName) object_method_1_code (1 : Nat) (Option.none : Option Jvm.ClassFile.FieldType), Jvm.Cond.code ({ cls := "java/lang/StringUTF16", name := "compress", desc := "([CII)[B" } : Jvm.MethodName) jdk_52_method_16_code (6 : Nat) (Option.some (Jvm.ClassFile.FieldType.array Jvm.ClassFile.FieldType.byte)), Jvm.Cond.code ({ cls := "java/lang/StringUTF16", name := "compress", desc := "([CI[BII)I" } : Jvm.MethodName) jdk_52_method_21_code (7 : Nat) (Option.some Jvm.ClassFile.FieldType.int), Jvm.Cond.code ({ cls := "java/lang/StringUTF16", name := "coderFromArrayLen", desc := "([BI)B" } : Jvm.MethodName) jdk_52_method_15_code (2 : Nat) (Option.some Jvm.ClassFile.FieldType.byte), Jvm.Cond.code ({ cls := "com/example/quorum/quorum/ValidationFailure", name := "<init>", desc := "(Ljava/lang/String;Ljava/lang/String;Ljava/lang/String;)V" } : Jvm.MethodName) prog_119_method_1_code (4 : Nat) (Option.none : Option Jvm.ClassFile.FieldType), Jvm.Cond.code ({ cls := "java/util/Objects", name := "requireNonNull", desc := "(Ljava/lang/Object;Ljava/lang/String;)Ljava/lang/Object;" } : Jvm.MethodName) jdk_31_method_11_code (2 : Nat) (Option.some (Jvm.ClassFile.FieldType.object "java/lang/Object")), Jvm.Cond.code ({ cls := "com/example/quorum/quorum/ValidationFailure", name := "equals", desc := "(Ljava/lang/Object;)Z" } : Jvm.MethodName) prog_119_method_5_code (3 : Nat) (Option.some Jvm.ClassFile.FieldType.boolean), Jvm.Cond.code ({ cls := "com/example/quorum/quorum/ValidationFailureEqualsPinLaw", name := "same", desc := "([I)Z" } : Jvm.MethodName) method_7_code (1 : Nat) (Option.some Jvm.ClassFile.FieldType.boolean), Jvm.Cond.code ({ cls := "java/lang/String", name := "equals", desc := "(Ljava/lang/Object;)Z" } : Jvm.MethodName) jdk_42_method_66_code (3 : Nat) (Option.some Jvm.ClassFile.FieldType.boolean), Jvm.Cond.code ({ cls := "java/lang/StringLatin1", name := "equals", desc := "([B[B)Z" } : Jvm.MethodName) jdk_43_method_13_code (3 : Nat) (Option.some Jvm.ClassFile.FieldType.boolean)]
set_option maxRecDepth 65536 in
theorem codes_eq : words1.filter isCode = codes1 := rfl
theorem w_codes : ∀ c ∈ words1.filter isCode, c.before args0 about1 = true := by
  rw [codes_eq]
  intro c hc
  simp only [codes1, List.mem_cons, List.not_mem_nil, or_false] at hc
  rcases hc with rfl | rfl | rfl | rfl | rfl | rfl | rfl | rfl | rfl | rfl | rfl | rfl | rfl | rfl | rfl | rfl | rfl
  · exact w_c0
  · exact w_c1
  · exact w_c2
  · exact w_c3
  · exact w_c4
  · exact w_c5
  · exact w_c6
  · exact w_c7
  · exact w_c8
  · exact w_c9
  · exact w_c10
  · exact w_c11
  · exact w_c12
  · exact w_c13
  · exact w_c14
  · exact w_c15
  · exact w_c16
set_option maxRecDepth 65536 in
theorem w_t1 : (words1.take 24).all (fun c => isCode c || c.before args0 about1) = true := by decide +kernel
set_option maxRecDepth 65536 in
theorem w_t2 : ((words1.drop 24).take 24).all (fun c => isCode c || c.before args0 about1) = true := by decide +kernel
set_option maxRecDepth 65536 in
theorem w_t3 : (((words1.drop 24).drop 24).take 24).all (fun c => isCode c || c.before args0 about1) = true := by decide +kernel
set_option maxRecDepth 65536 in
theorem w_t4 : (((words1.drop 24).drop 24).drop 24).all (fun c => isCode c || c.before args0 about1) = true := by decide +kernel
theorem w_tables : (allAtoms (Jvm.Cond.code x code maxLocals ret :: tables_1)).before args0 about1 = true := by
  rw [allAtoms_all]
  show words1.all (fun c => c.before args0 about1) = true
  refine all_split ?_ w_codes
  rw [← List.take_append_drop 24 words1, List.all_append, w_t1, ← List.take_append_drop 24 (words1.drop 24), List.all_append, w_t2, ← List.take_append_drop 24 ((words1.drop 24).drop 24), List.all_append, w_t3, w_t4]
  rfl
set_option maxRecDepth 65536 in
theorem w_rest : rest_1_c.before args0 about1 = true := by decide +kernel
set_option maxRecDepth 65536 in
theorem w_case : (Jvm.Cond.and given_1 narrow_1).before args0 about1 = true := by decide +kernel
set_option maxRecDepth 65536 in
theorem w_consts : constsHeld consts_1 about1 := Jvm.Lit.constsHeldB_iff.mp (by decide +kernel)
theorem w_applies : (headSpec (Jvm.Cond.code x code maxLocals ret :: tables_1) room_1).applies x e0.platform about1 = true :=
  (Spec.applies_iff w_frames).mpr ⟨w_running, w_runnable, w_alone, w_named, w_hears, w_ripe, w_room, w_tables⟩
theorem atStart : AtStart classFile x code maxLocals ret World_1 tables_1 room_1 Calls_1 rest_1 Pre_1 launch0 p0 e0 about1 theMethod args0 below0 :=
  ⟨lists_1, trivial, launch0.admits_env _ _ _, launch0.least_env, fairChoices_fair.cas, fairChoices_fair.clock, w_frames, w_args, w_heap, w_applies, ⟨w_consts, trivial⟩, w_rest, w_case⟩
end start1
theorem witness_1 : WitnessClaimed_1 := ⟨start1.p0, start1.e0, start1.about1, start1.theMethod, start1.args0, start1.below0, start1.atStart⟩
end Jvm.Pilot.@@N@@
