import JvmDerived
import JvmDerived.Pilot.@@N@@Statement
import JvmDerived.Pilot.@@N@@Code
set_option linter.unusedVariables false
set_option linter.unusedSimpArgs false
namespace Jvm.Pilot.@@N@@
open Jvm Jvm.ClassFile Sem Op Lib Jvm.Free Jvm.Stand Jvm.LawKit Jvm.RoadKit Bundle Jvm.Pilot.@@N@@.Jvm.D
/-! what a walk owes: from the state U on the run comes to the end of the method's frame, and Q holds there -/
def own_Ends (p : Program) (e : Env) (s : State) (below : List Frame) (Q : Option Value → Heap → List Loc → Prop) (kc ks : Nat) (U : State) : Prop :=
  ∃ s₂ o, Steps p.tables e below U s₂ ∧ s₂.status = .running ∧ Ended s₂ below o ∧ ∃ v L, o = .returned v ∧ Q v s₂.heap L ∧ FrameEnd s o s₂ L kc ks
section OwnWalk
variable {p : Program} {l : Launch} {e : Env} {R : Room} {s : State} {m : MethodId} {args : Array Value} {below : List Frame} {meth : Method} {c : Code} {T : State} {locs : List Loc} {cells slots : Nat} {Q : Option Value → Heap → List Loc → Prop} {kc ks : Nat} {U U' : State}
theorem own_st (k : ∀ t, Steps p.tables e below U' t → Steps p.tables e below U t) (h : own_Ends p e s below Q kc ks U') : own_Ends p e s below Q kc ks U := by
  obtain ⟨s₂, o, h1, h2⟩ := h
  exact ⟨s₂, o, k _ h1, h2⟩
theorem own_tr (k : Steps p.tables e below U U') (h : own_Ends p e s below Q kc ks U') : own_Ends p e s below Q kc ks U := own_st (fun _ h => k.trans h) h
theorem own_fin (X : Stand p l e R s m args below meth c T locs cells slots) {v : Option Value} {g : JFrame} (hv : meth.sig.returnType = none → v = none) (hlk : meth.locks = false) (hc : cells ≤ kc) (hs : slots ≤ ks) (hQ : Q v T.heap locs)
    (st : ∀ fs, (∀ (f : JFrame) (acts : List Action), f.method = m → f.locked = none → f.entered = [] → (doReturn e (T.setTop f) acts v).1 = T.setFrames fs) → Steps p.tables e below (T.setTop g) (T.setFrames fs)) : own_Ends p e s below Q kc ks (T.setTop g) := by
  obtain ⟨fs, hr, hrun, hended, hW, hsame⟩ := X.leave (v := v) hv hlk
  exact ⟨_, _, st fs hr, hrun, hended, v, locs, rfl, hQ, ⟨_, rfl⟩, hW, hsame.mono hc hs⟩
theorem own_retV (X : Stand p l e R s m args below meth c T locs cells slots) (hx : p.tables.exec = Jvm.exec) {pc : Nat} {Ls : Array Slot} (hret : meth.sig.returnType = none) (hlk : meth.locks = false) (hd : decode c.code pc = .ok (.return_, 1)) (hc : cells ≤ kc) (hs : slots ≤ ks) (hQ : Q none T.heap locs) : own_Ends p e s below Q kc ks (T.setTop (mkF m pc Ls [])) :=
  own_fin X (v := none) (fun _ => rfl) hlk hc hs hQ fun fs hr => X.returnOut hx hret hd hr
theorem own_retN (X : Stand p l e R s m args below meth c T locs cells slots) (hx : p.tables.exec = Jvm.exec) {pc : Nat} {Ls : Array Slot} {z : Int32} {t : FieldType} {rest : List Value} (hret : meth.sig.returnType = some t) (hlk : meth.locks = false) (ht : t = .boolean ∨ t = .byte ∨ t = .char ∨ t = .short) (hz : nar t z = z) (hd : decode c.code pc = .ok (.ireturn, 1)) (hc : cells ≤ kc) (hs : slots ≤ ks) (hQ : Q (some (.int z)) T.heap locs) : own_Ends p e s below Q kc ks (T.setTop (mkF m pc Ls (.int z :: rest))) :=
  own_fin X (v := some (.int z)) (fun h => by rw [hret] at h; cases h) hlk hc hs hQ fun fs hr => retN X hx hret ht hd (by rw [hz]; exact hr)
theorem own_retO (X : Stand p l e R s m args below meth c T locs cells slots) (hx : p.tables.exec = Jvm.exec) {pc : Nat} {Ls : Array Slot} {w : Value} {t : FieldType} {i : Instr} {rest : List Value} (hret : meth.sig.returnType = some t) (hlk : meth.locks = false) (hn : narrow t w = w)
    (hi : (i = .ireturn ∧ (t = .int ∨ t = .boolean ∨ t = .byte ∨ t = .char ∨ t = .short) ∧ ∃ z, w = .int z) ∨ (i = .lreturn ∧ t = .long ∧ ∃ z, w = .long z) ∨ (i = .dreturn ∧ t = .double ∧ ∃ z, w = .double z) ∨ (i = .freturn ∧ t = .float ∧ ∃ z, w = .float z) ∨ (i = .areturn ∧ t.isReference = true ∧ w.isRef = true))
    (hd : decode c.code pc = .ok (i, 1)) (hc : cells ≤ kc) (hs : slots ≤ ks) (hQ : Q (some w) T.heap locs) : own_Ends p e s below Q kc ks (T.setTop (mkF m pc Ls (w :: rest))) :=
  own_fin X (v := some w) (fun h => by rw [hret] at h; cases h) hlk hc hs hQ fun fs hr => retOut X hx hret hn hi hd hr
theorem own_retI (X : Stand p l e R s m args below meth c T locs cells slots) (hx : p.tables.exec = Jvm.exec) {pc : Nat} {Ls : Array Slot} {z : Int32} {rest : List Value} (hret : meth.sig.returnType = some .int) (hlk : meth.locks = false) (hd : decode c.code pc = .ok (.ireturn, 1)) (hc : cells ≤ kc) (hs : slots ≤ ks) (hQ : Q (some (.int z)) T.heap locs) : own_Ends p e s below Q kc ks (T.setTop (mkF m pc Ls (.int z :: rest))) :=
  own_retO X hx hret hlk rfl (Or.inl ⟨rfl, Or.inl rfl, _, rfl⟩) hd hc hs hQ
theorem own_retJ (X : Stand p l e R s m args below meth c T locs cells slots) (hx : p.tables.exec = Jvm.exec) {pc : Nat} {Ls : Array Slot} {z : Int64} {rest : List Value} (hret : meth.sig.returnType = some .long) (hlk : meth.locks = false) (hd : decode c.code pc = .ok (.lreturn, 1)) (hc : cells ≤ kc) (hs : slots ≤ ks) (hQ : Q (some (.long z)) T.heap locs) : own_Ends p e s below Q kc ks (T.setTop (mkF m pc Ls (.long z :: rest))) :=
  own_retO X hx hret hlk rfl (Or.inr (Or.inl ⟨rfl, rfl, _, rfl⟩)) hd hc hs hQ
theorem own_retA (X : Stand p l e R s m args below meth c T locs cells slots) (hx : p.tables.exec = Jvm.exec) {pc : Nat} {Ls : Array Slot} {a : Addr} {t : FieldType} {rest : List Value} (hret : meth.sig.returnType = some t) (hlk : meth.locks = false) (ht : t.isReference = true) (hn : narrow t (.ref a) = .ref a) (hd : decode c.code pc = .ok (.areturn, 1)) (hc : cells ≤ kc) (hs : slots ≤ ks) (hQ : Q (some (.ref a)) T.heap locs) : own_Ends p e s below Q kc ks (T.setTop (mkF m pc Ls (.ref a :: rest))) :=
  own_retO X hx hret hlk hn (Or.inr (Or.inr (Or.inr (Or.inr ⟨rfl, ht, rfl⟩)))) hd hc hs hQ
end OwnWalk
/-! arrays: kind, length, elements -/
section OwnArr
variable {p : Program} {l : Launch} {e : Env} {R : Room} {s : State} {m : MethodId} {args : Array Value} {below : List Frame} {meth : Method} {c : Code} {T : State} {locs : List Loc} {cells slots : Nat} {Z : State} {h h' : Heap} {a b : Addr} {ty : FieldType} {n : Nat} {f f' : Nat → Value} {sl : Nat} {v : Value} {ws : List Addr}
def own_A (Z : State) (h : Heap) (a : Addr) (ty : FieldType) (n : Nat) (f : Nat → Value) : Prop := ∃ c : Cell, Arr Z h a c ty ∧ c.slots.size = n ∧ ∀ j, j < n → c.slots[j]? = some (f j)
theorem own_A.lt (V : own_A Z h a ty n f) : a < h.size := by obtain ⟨c, A, -⟩ := V; exact A.lt
theorem own_A.ext (V : own_A Z h a ty n f) (E : Ext h h') : own_A Z h' a ty n f := by obtain ⟨c, A, r⟩ := V; exact ⟨c, A.ext E, r⟩
theorem own_A.other (V : own_A Z h b ty n f) (W : Wr h h' a sl v) (q : b ≠ a) : own_A Z h' b ty n f := by obtain ⟨c, A, r⟩ := V; exact ⟨c, A.other W q, r⟩
theorem own_A.keep (V : own_A Z h a ty n f) (K : Keep h h' ws) (q : a ∉ ws) : own_A Z h' a ty n f := by obtain ⟨c, A, r⟩ := V; exact ⟨c, ⟨K.2.1 a c A.1 q, A.2⟩, r⟩
theorem own_A.new {k : ClassId} {z : Int32} (A : Arr Z h a (newA k ty z) ty) (hn : z.toNatClampNeg = n) : own_A Z h a ty n (fun _ => defaultValue ty) := ⟨_, A, by rw [sz_new]; exact hn, fun j hj => by simp [newA, hn, hj]⟩
theorem own_A.congr (V : own_A Z h a ty n f) (q : ∀ j, j < n → f j = f' j) : own_A Z h a ty n f' := by obtain ⟨c, A, S, H⟩ := V; exact ⟨c, A, S, fun j hj => by rw [H j hj, q j hj]⟩
def own_upd (f : Nat → Value) (i : Nat) (v : Value) : Nat → Value := fun j => if j = i then v else f j
theorem own_A.set {cl : Cell} (A : Arr Z h a cl ty) (S : cl.slots.size = n) (H : ∀ j, j < n → cl.slots[j]? = some (f j)) (W : Wr h h' a sl v) : own_A Z h' a ty n (own_upd f sl v) := by
  refine ⟨_, A.same W, by rw [sz_set]; exact S, fun j hj => ?_⟩
  unfold own_upd
  by_cases q : j = sl
  · subst q; simp [Cell.setSlot, S, hj]
  · rw [if_neg q]
    show (cl.slots.setIfInBounds sl v)[j]? = _
    rw [Array.getElem?_setIfInBounds_ne (Ne.symm q)]
    exact H j hj
theorem own_stI (X : Stand p l e R s m args below meth c T locs cells slots) (hx : p.tables.exec = Jvm.exec) (hZ : Z.Warmed39 s.vm) (eT : T.heap = h) (V : own_A Z h a .int n f) {j x : Int32} {i : Nat} (hj : ¬ j < 0) (hi : j.toNatClampNeg = i) (hin : i < n) {g : JFrame} (hg : g.method = m) {rest : List Value} (hs : g.stack = .int x :: .int j :: .ref a :: rest) (hd : decode c.code g.pc = .ok (.iastore, 1)) :
    ∃ T' h', Stand p l e R s m args below meth c T' (locs ++ [⟨a, i⟩]) cells slots ∧ T'.heap = h' ∧ Wr h h' a i (.int x) ∧ own_A Z h' a .int n (own_upd f i (.int x)) ∧ ∀ target, Steps p.tables e below (T'.setTop { g with pc := g.pc + 1, stack := rest }) target → Steps p.tables e below (T.setTop g) target := by
  obtain ⟨cl, A, S, H⟩ := V
  subst hi
  obtain ⟨T', h', X', e', W, st⟩ := stI X hx hZ eT A (j := j) (fun q => q.elim hj fun q => by omega) hg hs hd
  exact ⟨T', h', X', e', W, own_A.set A S H W, st⟩
theorem own_stJ (X : Stand p l e R s m args below meth c T locs cells slots) (hx : p.tables.exec = Jvm.exec) (hZ : Z.Warmed39 s.vm) (eT : T.heap = h) (V : own_A Z h a .long n f) {j : Int32} {x : Int64} {i : Nat} (hj : ¬ j < 0) (hi : j.toNatClampNeg = i) (hin : i < n) {g : JFrame} (hg : g.method = m) {rest : List Value} (hs : g.stack = .long x :: .int j :: .ref a :: rest) (hd : decode c.code g.pc = .ok (.lastore, 1)) :
    ∃ T' h', Stand p l e R s m args below meth c T' (locs ++ [⟨a, i⟩]) cells slots ∧ T'.heap = h' ∧ Wr h h' a i (.long x) ∧ own_A Z h' a .long n (own_upd f i (.long x)) ∧ ∀ target, Steps p.tables e below (T'.setTop { g with pc := g.pc + 1, stack := rest }) target → Steps p.tables e below (T.setTop g) target := by
  obtain ⟨cl, A, S, H⟩ := V
  subst hi
  obtain ⟨T', h', X', e', W, st⟩ := stJ X hx hZ eT A (j := j) (fun q => q.elim hj fun q => by omega) hg hs hd
  exact ⟨T', h', X', e', W, own_A.set A S H W, st⟩
theorem own_ldI (X : Stand p l e R s m args below meth c T locs cells slots) (hx : p.tables.exec = Jvm.exec) (hZ : Z.Warmed39 s.vm) (eT : T.heap = h) (V : own_A Z h a .int n f) {j : Int32} {i : Nat} (hj : ¬ j < 0) (hi : j.toNatClampNeg = i) (hin : i < n) {v : Value} (hv : f i = v) {g : JFrame} (hg : g.method = m) {rest : List Value} (hs : g.stack = .int j :: .ref a :: rest) (hd : decode c.code g.pc = .ok (.iaload, 1)) :
    ∀ target, Steps p.tables e below (T.setTop { g with pc := g.pc + 1, stack := v :: rest }) target → Steps p.tables e below (T.setTop g) target := by
  obtain ⟨cl, A, S, H⟩ := V
  subst hi
  exact X.iaload hx (by rw [eT]; exact A.1) (State.isArrayOf_alike hZ.alike A.2.1) A.2.2 (fun q => q.elim hj fun q => by omega) (by rw [H _ hin, hv]) hg hs hd
theorem own_ldJ (X : Stand p l e R s m args below meth c T locs cells slots) (hx : p.tables.exec = Jvm.exec) (hZ : Z.Warmed39 s.vm) (eT : T.heap = h) (V : own_A Z h a .long n f) {j : Int32} {i : Nat} (hj : ¬ j < 0) (hi : j.toNatClampNeg = i) (hin : i < n) {v : Value} (hv : f i = v) {g : JFrame} (hg : g.method = m) {rest : List Value} (hs : g.stack = .int j :: .ref a :: rest) (hd : decode c.code g.pc = .ok (.laload, 1)) :
    ∀ target, Steps p.tables e below (T.setTop { g with pc := g.pc + 1, stack := v :: rest }) target → Steps p.tables e below (T.setTop g) target := by
  obtain ⟨cl, A, S, H⟩ := V
  subst hi
  exact X.laload hx (by rw [eT]; exact A.1) (State.isArrayOf_alike hZ.alike A.2.1) A.2.2 (fun q => q.elim hj fun q => by omega) (by rw [H _ hin, hv]) hg hs hd
theorem own_len (X : Stand p l e R s m args below meth c T locs cells slots) (hx : p.tables.exec = Jvm.exec) (hZ : Z.Warmed39 s.vm) (eT : T.heap = h) (V : own_A Z h a ty n f) {z : Int32} (hz : n.toInt32 = z) {g : JFrame} (hg : g.method = m) {rest : List Value} (hs : g.stack = .ref a :: rest) (hd : decode c.code g.pc = .ok (.arraylength, 1)) :
    ∀ target, Steps p.tables e below (T.setTop { g with pc := g.pc + 1, stack := .int z :: rest }) target → Steps p.tables e below (T.setTop g) target := by
  obtain ⟨cl, A, S, H⟩ := V
  have q := X.arraylength hx (by rw [eT]; exact A.1) (State.isArrayOf_alike hZ.alike A.2.1) hg hs hd
  rw [S, hz] at q
  exact q
end OwnArr
/-- a list's elements as an array's -/
def own_L (vs : List Int32) : Nat → Value := fun j => .int (vs.getD j 0)
/-! the plain law: the table of failed states -/
def own_b (q : Bool) : Int32 := if q = true then 1 else 0
def own_blk (p : Int32) : Int32 := p / (64 : Int32)
def own_bit (p : Int32) : Int64 := (1 : Int64) <<< ((p % (64 : Int32)) &&& 0x3f).toInt64
def own_h1 (b w : Int32) : Int32 := (b ^^^ w) * (-1640531527 : Int32)
def own_mix (x : Int32) : Int32 := (x ^^^ ((x.toUInt32 >>> ((16 : Int32) &&& 31).toUInt32).toInt32)) &&& (15 : Int32)
theorem own_and15 (x : Int32) : (x &&& 15).toNatClampNeg < 16 ∧ (x &&& 15) = Int32.ofNat (x &&& 15).toNatClampNeg := by
  have h : ∃ n : Fin 16, (x &&& (15 : Int32)) = Int32.ofNat n.1 := by
    refine ⟨⟨(x &&& 15).toBitVec.toNat, ?_⟩, ?_⟩
    · simp only [Int32.toBitVec_and, BitVec.toNat_and]
      exact Nat.lt_of_le_of_lt Nat.and_le_right (by decide)
    · apply Int32.toBitVec_inj.mp
      show _ = BitVec.ofNat 32 _
      rw [BitVec.ofNat_toNat]; simp
  obtain ⟨n, hn⟩ := h
  rw [hn]
  clear hn
  revert n
  decide +kernel
def own_hash (k0 k1 b : Int32) : Nat := (own_mix (own_h1 (own_h1 b k0) k1)).toNatClampNeg
theorem own_hash_lt (k0 k1 b : Int32) : own_hash k0 k1 b < 16 := (own_and15 _).1
theorem own_hash_eq (k0 k1 b : Int32) : own_mix (own_h1 (own_h1 b k0) k1) = Int32.ofNat (own_hash k0 k1 b) := (own_and15 _).2
def own_hd (fe : Nat → Int32) (s : Nat) (k0 k1 b : Int32) : Bool := decide (fe (3 * s + 2) = b) && (decide (fe (3 * s) = k0) && decide (fe (3 * s + 1) = k1))
def own_stop (fe : Nat → Int32) (fw : Nat → Int64) (k0 k1 b : Int32) (s : Nat) : Bool := decide (fw s = 0) || own_hd fe s k0 k1 b
def own_probe (st : Nat → Bool) : Nat → Nat → Nat
  | 0, s => s
  | k + 1, s => if st s = true then s else own_probe st k ((s + 1) % 16)
def own_find (fe : Nat → Int32) (fw : Nat → Int64) (k0 k1 b : Int32) : Nat := own_probe (own_stop fe fw k0 k1 b) 16 (own_hash k0 k1 b)
theorem own_probe_lt (st : Nat → Bool) : ∀ k s, s < 16 → own_probe st k s < 16
  | 0, s, h => h
  | k + 1, s, h => by
    show (if st s = true then s else own_probe st k ((s + 1) % 16)) < 16
    split
    · exact h
    · exact own_probe_lt st k _ (Nat.mod_lt _ (by decide))
theorem own_probe_stop (st : Nat → Bool) : ∀ k s d, s < 16 → d ≤ k → st ((s + d) % 16) = true → st (own_probe st k s) = true
  | 0, s, d, hs, hd, h => by
    have q : d = 0 := by omega
    subst q
    rw [Nat.add_zero, Nat.mod_eq_of_lt hs] at h
    exact h
  | k + 1, s, d, hs, hd, h => by
    show st (if st s = true then s else own_probe st k ((s + 1) % 16)) = true
    split
    · assumption
    · rename_i q
      cases d with
      | zero => rw [Nat.add_zero, Nat.mod_eq_of_lt hs] at h; exact absurd h q
      | succ d =>
        refine own_probe_stop st k _ d (Nat.mod_lt _ (by decide)) (by omega) ?_
        rw [show ((s + 1) % 16 + d) % 16 = (s + (d + 1)) % 16 by omega]
        exact h
theorem own_probe_same (st st' : Nat → Bool) (hsub : ∀ t, st t = false → st' t = false) : ∀ k s, st' (own_probe st k s) = true → own_probe st' k s = own_probe st k s
  | 0, s, _ => rfl
  | k + 1, s, h => by
    have e : own_probe st (k + 1) s = (if st s = true then s else own_probe st k ((s + 1) % 16)) := rfl
    have e' : own_probe st' (k + 1) s = (if st' s = true then s else own_probe st' k ((s + 1) % 16)) := rfl
    rw [e] at h ⊢
    rw [e']
    by_cases q : st s = true
    · rw [if_pos q] at h ⊢
      rw [if_pos h]
    · rw [if_neg q] at h ⊢
      have q' : st' s = false := hsub s (by simpa using q)
      rw [if_neg (by simp [q'])]
      exact own_probe_same st st' hsub k _ h
theorem own_free {fw : Nat → Int64} {os : List Nat} (hl : os.length ≤ 3) (h : ∀ s, s < 16 → ¬ fw s = 0 → s ∈ os) : ∃ t, t < 16 ∧ fw t = 0 := by
  refine Classical.byContradiction fun hn => ?_
  have m : ∀ t, t < 16 → t ∈ os := fun t ht => h t ht fun q => hn ⟨t, ht, q⟩
  have m0 := m 0 (by decide)
  have m1 := m 1 (by decide)
  have m2 := m 2 (by decide)
  have m3 := m 3 (by decide)
  match os, hl, m0, m1, m2, m3 with
  | [], _, m0, _, _, _ => cases m0
  | [x], _, m0, m1, _, _ =>
    simp only [List.mem_cons, List.not_mem_nil, or_false] at m0 m1
    omega
  | [x, y], _, m0, m1, m2, _ =>
    simp only [List.mem_cons, List.not_mem_nil, or_false] at m0 m1 m2
    omega
  | [x, y, z], _, m0, m1, m2, m3 =>
    simp only [List.mem_cons, List.not_mem_nil, or_false] at m0 m1 m2 m3
    omega
  | _ :: _ :: _ :: _ :: _, hl, _, _, _, _ => exact absurd hl (by simp only [List.length_cons]; omega)
/-- what is said of a table that holds the states M -/
def own_Inv (fe : Nat → Int32) (fw : Nat → Int64) (used last : Int32) (cnt : Nat) (M : Int32 → Int32 → Int32 → Bool) : Prop :=
  (∃ u, u ≤ cnt ∧ used = Int32.ofNat u) ∧ (∃ os : List Nat, os.length ≤ cnt ∧ ∀ s, s < 16 → ¬ fw s = 0 → s ∈ os) ∧
  (∀ s, s < 16 → ¬ fw s = 0 → own_find fe fw (fe (3 * s)) (fe (3 * s + 1)) (fe (3 * s + 2)) = s) ∧
  (last = -1 ∨ ∃ s, s < 16 ∧ last = Int32.ofNat s ∧ ¬ fw s = 0) ∧
  (∀ k0 k1 p, ¬ p < 0 → (M k0 k1 p = true ↔ ∃ s, s < 16 ∧ fe (3 * s) = k0 ∧ fe (3 * s + 1) = k1 ∧ fe (3 * s + 2) = own_blk p ∧ ¬ (fw s &&& own_bit p) = 0))
theorem own_find_lt (fe : Nat → Int32) (fw : Nat → Int64) (k0 k1 b : Int32) : own_find fe fw k0 k1 b < 16 := own_probe_lt _ _ _ (own_hash_lt _ _ _)
theorem own_find_stop {fe : Nat → Int32} {fw : Nat → Int64} {used last : Int32} {cnt : Nat} {M : Int32 → Int32 → Int32 → Bool} (I : own_Inv fe fw used last cnt M) (hc : cnt ≤ 3) (k0 k1 b : Int32) : own_stop fe fw k0 k1 b (own_find fe fw k0 k1 b) = true := by
  obtain ⟨-, ⟨os, hl, hos⟩, -⟩ := I
  obtain ⟨t, ht, h0⟩ := own_free (Nat.le_trans hl hc) hos
  have hs := own_hash_lt k0 k1 b
  refine own_probe_stop _ 16 _ ((t + 16 - own_hash k0 k1 b) % 16) hs (by omega) ?_
  rw [show (own_hash k0 k1 b + (t + 16 - own_hash k0 k1 b) % 16) % 16 = t by omega]
  simp [own_stop, h0]
theorem own_find_last {fe : Nat → Int32} {fw : Nat → Int64} {used last : Int32} {cnt : Nat} {M : Int32 → Int32 → Int32 → Bool} (I : own_Inv fe fw used last cnt M) {s : Nat} (hs : s < 16) (hf : ¬ fw s = 0) {k0 k1 b : Int32} (h : own_hd fe s k0 k1 b = true) : own_find fe fw k0 k1 b = s := by
  simp only [own_hd, Bool.and_eq_true, decide_eq_true_eq] at h
  obtain ⟨rfl, rfl, rfl⟩ := h
  exact I.2.2.1 s hs hf
theorem own_Inv.last {fe : Nat → Int32} {fw : Nat → Int64} {used last : Int32} {cnt : Nat} {M : Int32 → Int32 → Int32 → Bool} (I : own_Inv fe fw used last cnt M) {r : Nat} (hr : r < 16) (hf : ¬ fw r = 0) : own_Inv fe fw used (Int32.ofNat r) cnt M :=
  ⟨I.1, I.2.1, I.2.2.1, Or.inr ⟨r, hr, rfl, hf⟩, I.2.2.2.2⟩
/-! bits -/
def own_B (n : Nat) : Int64 := (1 : Int64) <<< ((Int32.ofNat n) &&& 0x3f).toInt64
theorem own_B_and : ∀ m n : Fin 64, (own_B m.1 &&& own_B n.1 = 0) ↔ ¬ m = n := by decide +kernel
theorem own_B_ne : ∀ n : Fin 64, ¬ own_B n.1 = 0 := by decide +kernel
theorem own_nn {p : Int32} (h : ¬ p < 0) : 0 ≤ p.toInt := by
  rw [Int32.lt_iff_toInt_lt] at h
  have e0 : (0 : Int32).toInt = 0 := rfl
  omega
theorem own_rem {p : Int32} (h : ¬ p < 0) : p % (64 : Int32) = Int32.ofNat (p.toInt.toNat % 64) := by
  have h0 := own_nn h
  apply Int32.toInt_inj.mp
  rw [(c_irem p 64 64 rfl).1 h0, Int32.toInt_ofNat_of_lt (by omega)]
  omega
theorem own_bit_B {p : Int32} (h : ¬ p < 0) : own_bit p = own_B (p.toInt.toNat % 64) := by
  unfold own_bit own_B
  rw [own_rem h]
theorem own_blk_n {p : Int32} (h : ¬ p < 0) : (own_blk p).toInt = p.toInt / 64 := (c_idiv p 64 64 rfl (by decide)).1 (own_nn h)
theorem own_bit_ne {p : Int32} (h : ¬ p < 0) : ¬ own_bit p = 0 := by
  rw [own_bit_B h]
  exact own_B_ne ⟨p.toInt.toNat % 64, Nat.mod_lt _ (by decide)⟩
theorem own_bit_eq {p q : Int32} (hp : ¬ p < 0) (hq : ¬ q < 0) (hb : own_blk p = own_blk q) : ¬ (own_bit p &&& own_bit q) = 0 ↔ p = q := by
  rw [own_bit_B hp, own_bit_B hq]
  have h := own_B_and ⟨p.toInt.toNat % 64, Nat.mod_lt _ (by decide)⟩ ⟨q.toInt.toNat % 64, Nat.mod_lt _ (by decide)⟩
  have h' : ¬ (own_B (p.toInt.toNat % 64) &&& own_B (q.toInt.toNat % 64) = 0) ↔ p.toInt.toNat % 64 = q.toInt.toNat % 64 := by
    rw [h]
    simp
  rw [h']
  have b1 := own_blk_n hp
  have b2 := own_blk_n hq
  rw [hb] at b1
  have n1 := own_nn hp
  have n2 := own_nn hq
  constructor
  · intro e
    apply Int32.toInt_inj.mp
    omega
  · intro e
    rw [e]
theorem own_bv (x y z : BitVec 64) : (x ||| y) &&& z = BitVec.ofNat 64 0 ↔ (x &&& z = BitVec.ofNat 64 0 ∧ y &&& z = BitVec.ofNat 64 0) := by
  constructor
  · intro h
    have q : ∀ i, ((x ||| y) &&& z).getLsbD i = false := fun i => by rw [h]; simp
    refine ⟨?_, ?_⟩
    · apply BitVec.eq_of_getLsbD_eq
      intro i hi
      have := q i
      simp only [BitVec.getLsbD_and, BitVec.getLsbD_or, BitVec.getLsbD_zero] at this ⊢
      cases hx : x.getLsbD i <;> cases hz : z.getLsbD i <;> simp [hx, hz] at this ⊢
    · apply BitVec.eq_of_getLsbD_eq
      intro i hi
      have := q i
      simp only [BitVec.getLsbD_and, BitVec.getLsbD_or, BitVec.getLsbD_zero] at this ⊢
      cases hy : y.getLsbD i <;> cases hz : z.getLsbD i <;> simp [hy, hz] at this ⊢
  · rintro ⟨h1, h2⟩
    apply BitVec.eq_of_getLsbD_eq
    intro i hi
    have q1 : (x &&& z).getLsbD i = false := by rw [h1]; simp
    have q2 : (y &&& z).getLsbD i = false := by rw [h2]; simp
    simp only [BitVec.getLsbD_and, BitVec.getLsbD_or, BitVec.getLsbD_zero] at q1 q2 ⊢
    cases hx : x.getLsbD i <;> cases hy : y.getLsbD i <;> cases hz : z.getLsbD i <;> simp [hx, hy, hz] at q1 q2 ⊢
theorem own_or_and (x y z : Int64) : (x ||| y) &&& z = 0 ↔ (x &&& z = 0 ∧ y &&& z = 0) := by
  have h := own_bv x.toBitVec y.toBitVec z.toBitVec
  rw [← Int64.toBitVec_inj, ← Int64.toBitVec_inj, ← Int64.toBitVec_inj]
  exact h
theorem own_or_ne {x y : Int64} (h : ¬ y = 0) : ¬ (x ||| y) = 0 := fun q => by
  have h2 := (own_or_and x y y).mp (by rw [q]; exact Int64.zero_and)
  exact h (by have := h2.2; rwa [Int64.and_self] at this)
theorem own_and_ne {x y : Int64} (h : ¬ (x &&& y) = 0) : ¬ x = 0 := fun q => h (by rw [q]; exact Int64.zero_and)
/-! one state more -/
def own_put (fe : Nat → Int32) (r : Nat) (k0 k1 b : Int32) : Nat → Int32 := fun j => if j = 3 * r then k0 else if j = 3 * r + 1 then k1 else if j = 3 * r + 2 then b else fe j
def own_or (fw : Nat → Int64) (r : Nat) (p : Int32) : Nat → Int64 := fun j => if j = r then fw r ||| own_bit p else fw j
def own_ins (M : Int32 → Int32 → Int32 → Bool) (k0 k1 p : Int32) : Int32 → Int32 → Int32 → Bool := fun x y q => M x y q || (decide (x = k0) && (decide (y = k1) && decide (q = p)))
theorem own_put_r (fe : Nat → Int32) (r : Nat) (k0 k1 b : Int32) : own_put fe r k0 k1 b (3 * r) = k0 ∧ own_put fe r k0 k1 b (3 * r + 1) = k1 ∧ own_put fe r k0 k1 b (3 * r + 2) = b := by
  unfold own_put
  refine ⟨by rw [if_pos rfl], by rw [if_neg (by omega), if_pos rfl], by rw [if_neg (by omega), if_neg (by omega), if_pos rfl]⟩
theorem own_put_s (fe : Nat → Int32) {r s : Nat} (k0 k1 b : Int32) (h : ¬ s = r) : own_put fe r k0 k1 b (3 * s) = fe (3 * s) ∧ own_put fe r k0 k1 b (3 * s + 1) = fe (3 * s + 1) ∧ own_put fe r k0 k1 b (3 * s + 2) = fe (3 * s + 2) := by
  unfold own_put
  refine ⟨by rw [if_neg (by omega), if_neg (by omega), if_neg (by omega)], by rw [if_neg (by omega), if_neg (by omega), if_neg (by omega)], by rw [if_neg (by omega), if_neg (by omega), if_neg (by omega)]⟩
theorem own_put_same (fe : Nat → Int32) (r : Nat) (k0 k1 b : Int32) (h : own_hd fe r k0 k1 b = true) (j : Nat) : fe j = own_put fe r k0 k1 b j := by
  simp only [own_hd, Bool.and_eq_true, decide_eq_true_eq] at h
  obtain ⟨rfl, rfl, rfl⟩ := h
  unfold own_put
  split
  · rename_i q; rw [q]
  · split
    · rename_i q; rw [q]
    · split
      · rename_i q; rw [q]
      · rfl
theorem own_hd_same {fe fe' : Nat → Int32} {s : Nat} (h1 : fe' (3 * s) = fe (3 * s)) (h2 : fe' (3 * s + 1) = fe (3 * s + 1)) (h3 : fe' (3 * s + 2) = fe (3 * s + 2)) (k0 k1 b : Int32) : own_hd fe' s k0 k1 b = own_hd fe s k0 k1 b := by
  unfold own_hd
  rw [h1, h2, h3]
theorem own_hd_self (fe : Nat → Int32) (s : Nat) : own_hd fe s (fe (3 * s)) (fe (3 * s + 1)) (fe (3 * s + 2)) = true := by simp [own_hd]
theorem own_Inv.add {fe : Nat → Int32} {fw : Nat → Int64} {used last used' : Int32} {cnt : Nat} {M : Int32 → Int32 → Int32 → Bool} (I : own_Inv fe fw used last cnt M) (hc : cnt ≤ 3) {k0 k1 p : Int32} (hp : ¬ p < 0) (hu : ∃ u, u ≤ cnt + 1 ∧ used' = Int32.ofNat u) {r : Nat} (er : own_find fe fw k0 k1 (own_blk p) = r) :
    own_Inv (own_put fe r k0 k1 (own_blk p)) (own_or fw r p) used' (Int32.ofNat r) (cnt + 1) (own_ins M k0 k1 p) := by
  have hr : r < 16 := er ▸ own_find_lt _ _ _ _ _
  have hstop : own_stop fe fw k0 k1 (own_blk p) r = true := er ▸ own_find_stop I hc k0 k1 (own_blk p)
  obtain ⟨-, ⟨os, hl, hos⟩, h3, -, h5⟩ := I
  have hbn := own_bit_ne hp
  have orr : own_or fw r p r = fw r ||| own_bit p := by unfold own_or; rw [if_pos rfl]
  have ors : ∀ s, ¬ s = r → own_or fw r p s = fw s := fun s q => by unfold own_or; rw [if_neg q]
  have orn : ¬ own_or fw r p r = 0 := by rw [orr]; exact own_or_ne hbn
  obtain ⟨p1, p2, p3⟩ := own_put_r fe r k0 k1 (own_blk p)
  refine ⟨hu, ⟨r :: os, by simp only [List.length_cons]; omega, fun s hs hf => ?_⟩, fun s hs hf => ?_, Or.inr ⟨r, hr, rfl, orn⟩, fun x y q hq => ?_⟩
  · by_cases e : s = r
    · rw [e]; exact List.mem_cons_self ..
    · exact List.mem_cons_of_mem _ (hos s hs (by rw [ors s e] at hf; exact hf))
  · -- the entry at s is found at s
    by_cases e : s = r
    · subst e
      rw [p1, p2, p3]
      have q : own_probe (own_stop (own_put fe s k0 k1 (own_blk p)) (own_or fw s p) k0 k1 (own_blk p)) 16 (own_hash k0 k1 (own_blk p)) = own_probe (own_stop fe fw k0 k1 (own_blk p)) 16 (own_hash k0 k1 (own_blk p)) := by
        refine own_probe_same _ _ (fun t ht => ?_) 16 _ ?_
        · have tr : ¬ t = s := fun z => by rw [z, hstop] at ht; cases ht
          obtain ⟨t1, t2, t3⟩ := own_put_s fe k0 k1 (own_blk p) tr
          unfold own_stop at ht ⊢
          rw [ors t tr, own_hd_same t1 t2 t3]
          exact ht
        · show own_stop _ _ k0 k1 (own_blk p) (own_find fe fw k0 k1 (own_blk p)) = true
          rw [er]
          simp [own_stop, own_hd, p1, p2, p3]
      exact q.trans er
    · have hf' : ¬ fw s = 0 := by rw [ors s e] at hf; exact hf
      obtain ⟨s1, s2, s3⟩ := own_put_s fe k0 k1 (own_blk p) e
      rw [s1, s2, s3]
      have es := h3 s hs hf'
      have q : own_probe (own_stop (own_put fe r k0 k1 (own_blk p)) (own_or fw r p) (fe (3 * s)) (fe (3 * s + 1)) (fe (3 * s + 2))) 16 (own_hash (fe (3 * s)) (fe (3 * s + 1)) (fe (3 * s + 2))) = own_probe (own_stop fe fw (fe (3 * s)) (fe (3 * s + 1)) (fe (3 * s + 2))) 16 (own_hash (fe (3 * s)) (fe (3 * s + 1)) (fe (3 * s + 2))) := by
        refine own_probe_same _ _ (fun t ht => ?_) 16 _ ?_
        · by_cases tr : t = r
          · subst tr
            have f0 : ¬ fw t = 0 := fun z => by simp [own_stop, z] at ht
            have hd : own_hd fe t k0 k1 (own_blk p) = true := by simpa [own_stop, f0] using hstop
            have hs' : own_put fe t k0 k1 (own_blk p) (3 * t) = fe (3 * t) ∧ own_put fe t k0 k1 (own_blk p) (3 * t + 1) = fe (3 * t + 1) ∧ own_put fe t k0 k1 (own_blk p) (3 * t + 2) = fe (3 * t + 2) := ⟨(own_put_same _ _ _ _ _ hd _).symm, (own_put_same _ _ _ _ _ hd _).symm, (own_put_same _ _ _ _ _ hd _).symm⟩
            unfold own_stop at ht ⊢
            rw [own_hd_same hs'.1 hs'.2.1 hs'.2.2]
            simp only [f0, decide_false, Bool.false_or] at ht
            simp only [orn, ht, decide_false, Bool.false_or]
          · obtain ⟨t1, t2, t3⟩ := own_put_s fe k0 k1 (own_blk p) tr
            unfold own_stop at ht ⊢
            rw [ors t tr, own_hd_same t1 t2 t3]
            exact ht
        · show own_stop _ _ _ _ _ (own_find fe fw (fe (3 * s)) (fe (3 * s + 1)) (fe (3 * s + 2))) = true
          rw [es]
          unfold own_stop
          rw [own_hd_same s1 s2 s3, own_hd_self]
          simp
      exact q.trans es
  · -- what it holds
    have old := h5 x y q hq
    constructor
    · intro h
      simp only [own_ins, Bool.or_eq_true, Bool.and_eq_true, decide_eq_true_eq] at h
      rcases h with h | ⟨rfl, rfl, rfl⟩
      · obtain ⟨s, hs, e1, e2, e3, e4⟩ := old.mp h
        by_cases e : s = r
        · subst e
          have f0 := own_and_ne e4
          have hd : own_hd fe s k0 k1 (own_blk p) = true := by simpa [own_stop, f0] using hstop
          refine ⟨s, hs, ?_, ?_, ?_, ?_⟩
          · rw [← own_put_same _ _ _ _ _ hd]; exact e1
          · rw [← own_put_same _ _ _ _ _ hd]; exact e2
          · rw [← own_put_same _ _ _ _ _ hd]; exact e3
          · rw [orr, own_or_and]; exact fun z => e4 z.1
        · obtain ⟨s1, s2, s3⟩ := own_put_s fe k0 k1 (own_blk p) e
          exact ⟨s, hs, s1.trans e1, s2.trans e2, s3.trans e3, by rw [ors s e]; exact e4⟩
      · refine ⟨r, hr, p1, p2, p3, ?_⟩
        rw [orr, own_or_and]
        exact fun z => ((own_bit_eq hp hp rfl).mpr rfl) z.2
    · rintro ⟨s, hs, e1, e2, e3, e4⟩
      simp only [own_ins, Bool.or_eq_true, Bool.and_eq_true, decide_eq_true_eq]
      by_cases e : s = r
      · subst e
        rw [p1] at e1
        rw [p2] at e2
        rw [p3] at e3
        subst e1 e2
        rw [orr, own_or_and] at e4
        by_cases z : fw s &&& own_bit q = 0
        · right
          refine ⟨rfl, rfl, ?_⟩
          exact ((own_bit_eq hp hq e3).mp fun w => e4 ⟨z, w⟩).symm
        · left
          have f0 := own_and_ne z
          have hd : own_hd fe s k0 k1 (own_blk p) = true := by simpa [own_stop, f0] using hstop
          simp only [own_hd, Bool.and_eq_true, decide_eq_true_eq] at hd
          exact old.mpr ⟨s, hs, hd.2.1, hd.2.2, hd.1.trans e3, z⟩
      · left
        obtain ⟨s1, s2, s3⟩ := own_put_s fe k0 k1 (own_blk p) e
        rw [ors s e] at e4
        exact old.mpr ⟨s, hs, s1.symm.trans e1, s2.symm.trans e2, s3.symm.trans e3, e4⟩
theorem own_Inv.has {fe : Nat → Int32} {fw : Nat → Int64} {used last : Int32} {cnt : Nat} {M : Int32 → Int32 → Int32 → Bool} (I : own_Inv fe fw used last cnt M) (hc : cnt ≤ 3) {k0 k1 p : Int32} (hp : ¬ p < 0) : ¬ (fw (own_find fe fw k0 k1 (own_blk p)) &&& own_bit p) = 0 ↔ M k0 k1 p = true := by
  have hstop := own_find_stop I hc k0 k1 (own_blk p)
  have hr := own_find_lt fe fw k0 k1 (own_blk p)
  rw [I.2.2.2.2 k0 k1 p hp]
  constructor
  · intro h
    have f0 := own_and_ne h
    have hd : own_hd fe (own_find fe fw k0 k1 (own_blk p)) k0 k1 (own_blk p) = true := by simpa [own_stop, f0] using hstop
    simp only [own_hd, Bool.and_eq_true, decide_eq_true_eq] at hd
    exact ⟨_, hr, hd.2.1, hd.2.2, hd.1, h⟩
  · rintro ⟨s, hs, rfl, rfl, e3, e4⟩
    rw [← e3, I.2.2.1 s hs (own_and_ne e4)]
    exact e4
theorem own_Inv.zero : own_Inv (fun _ => 0) (fun _ => 0) 0 (-1) 0 (fun _ _ _ => false) :=
  ⟨⟨0, Nat.le_refl _, rfl⟩, ⟨[], Nat.le_refl _, fun _ _ h => absurd rfl h⟩, fun _ _ h => absurd rfl h, Or.inl rfl, fun _ _ p _ => ⟨fun h => (by cases h), fun ⟨_, _, _, _, _, h⟩ => absurd Int64.zero_and h⟩⟩
/-! places -/
theorem own_pl : ∀ s : Fin 16, Int32.ofNat s.1 * (3 : Int32) = Int32.ofNat (3 * s.1) ∧ Int32.ofNat (3 * s.1) + (2 : Int32) = Int32.ofNat (3 * s.1 + 2) ∧ Int32.ofNat (3 * s.1) + (1 : Int32) = Int32.ofNat (3 * s.1 + 1) ∧ Int32.ofNat (3 * s.1) + (0 : Int32) = Int32.ofNat (3 * s.1) ∧ (Int32.ofNat s.1 + (1 : Int32)) &&& (15 : Int32) = Int32.ofNat ((s.1 + 1) % 16) := by decide +kernel
theorem own_ofN {n : Nat} (h : n < 48) : ¬ Int32.ofNat n < 0 ∧ (Int32.ofNat n).toNatClampNeg = n := by
  have q : ∀ m : Fin 48, ¬ Int32.ofNat m.1 < 0 ∧ (Int32.ofNat m.1).toNatClampNeg = m.1 := by decide +kernel
  exact q ⟨n, h⟩
theorem own_b01 (q : Bool) : nar .boolean (own_b q) = own_b q := by cases q <;> rfl
theorem own_b0 (q : Bool) : own_b q = 0 ↔ q = false := by cases q <;> decide
theorem own_lc (x : Int64) : lcmpW x (0 : Int64) = (0 : Int32) ↔ x = 0 := by rw [lcW]; exact lc_eq x 0
theorem own_selp {s : State} {args : Array Value} {y z : MethodName} (hyz : z.cls = y.cls) (hz : (Jvm.Cond.selects z.cls z z).before args s = true) (hp : s.PrivateAt y) (hi : (Jvm.Cond.instanceMethod y).before args s = true) (hy : y.cls ≠ "java/lang/invoke/MethodHandle" ∧ y.cls ≠ "java/lang/invoke/VarHandle") : (Jvm.Cond.selects y.cls y y).before args s = true := by
  obtain ⟨c, r, m, -, -, q3, -, k, hk, hki⟩ := Cond.selects_spec hz
  exact selects_self_of_private (c := m.cls) (k := k) (by rw [← hyz]; exact findClass_of_methodNamed q3) hk hki hp hi hy
/-- a table in the heap -/
def own_FS (Z : State) (h : Heap) (a en wd : Addr) (fe : Nat → Int32) (fw : Nat → Int64) (used last : Int32) : Prop :=
  Exa Z h a "com/example/quorum/quorum/FailedStates" ∧ Fld Z h a "com/example/quorum/quorum/FailedStates" "width" "I" (.int 3) ∧ Fld Z h a "com/example/quorum/quorum/FailedStates" "entries" "[I" (.ref en) ∧ Fld Z h a "com/example/quorum/quorum/FailedStates" "words" "[J" (.ref wd) ∧ Fld Z h a "com/example/quorum/quorum/FailedStates" "used" "I" (.int used) ∧ Fld Z h a "com/example/quorum/quorum/FailedStates" "lastSlot" "I" (.int last) ∧ own_A Z h en .int 48 (fun j => .int (fe j)) ∧ own_A Z h wd .long 16 (fun j => .long (fw j)) ∧ a ≠ en ∧ a ≠ wd ∧ en ≠ wd
theorem own_FS.keep {Z : State} {h h' : Heap} {a en wd : Addr} {fe : Nat → Int32} {fw : Nat → Int64} {used last : Int32} {ws : List Addr} (F : own_FS Z h a en wd fe fw used last) (K : Keep h h' ws) (q1 : a ∉ ws) (q2 : en ∉ ws) (q3 : wd ∉ ws) : own_FS Z h' a en wd fe fw used last := by
  obtain ⟨E, f1, f2, f3, f4, f5, v1, v2, r⟩ := F
  exact ⟨E.keep K, f1.keep K q1, f2.keep K q1, f3.keep K q1, f4.keep K q1, f5.keep K q1, v1.keep K q2, v2.keep K q3, r⟩
theorem own_pl1 {t : Nat} (h : t < 16) : Int32.ofNat t * (3 : Int32) = Int32.ofNat (3 * t) := (own_pl ⟨t, h⟩).1
theorem own_pl2 {t : Nat} (h : t < 16) : Int32.ofNat (3 * t) + (2 : Int32) = Int32.ofNat (3 * t + 2) := (own_pl ⟨t, h⟩).2.1
theorem own_pl3 {t : Nat} (h : t < 16) : Int32.ofNat (3 * t) + (1 : Int32) = Int32.ofNat (3 * t + 1) := (own_pl ⟨t, h⟩).2.2.1
theorem own_pl4 {t : Nat} (h : t < 16) : Int32.ofNat (3 * t) + (0 : Int32) = Int32.ofNat (3 * t) := (own_pl ⟨t, h⟩).2.2.2.1
theorem own_pl5 {t : Nat} (h : t < 16) : (Int32.ofNat t + (1 : Int32)) &&& (15 : Int32) = Int32.ofNat ((t + 1) % 16) := (own_pl ⟨t, h⟩).2.2.2.2
section OwnCopy
variable {p : Program} {l : Launch} {e : Env} {R : Room} {s : State} {m : MethodId} {args : Array Value} {below : List Frame} {meth : Method} {c : Code} {T : State} {locs : List Loc} {cells slots : Nat} {Z : State} {h : Heap} {a b : Addr} {n q k : Nat} {f : Nat → Int32} {f' : Nat → Int32} {a0 : Array Value}
/-- System.arraycopy of k ints from place 0 on -/
theorem own_copy (X : Stand p l e R s m args below meth c T locs cells slots) (hx : p.tables.exec = Jvm.exec) (hZ : Z.Warmed39 s.vm) {own : String} {index : Nat} (hown : s.vm.findClass own = some m.cls) (w1 : (Jvm.Cond.methodLink own index acN).before a0 Z = true) (w2 : (Jvm.Cond.native acN).before a0 Z = true) (w3 : (Jvm.Cond.static acN).before a0 Z = true) (w4 : (Jvm.Cond.initialized "java/lang/System").before a0 Z = true)
    (eT : T.heap = h) (V : own_A Z h a .int k (fun j => .int (f j))) (V' : own_A Z h b .int n (fun j => .int (f' j))) (hk : k < 2 ^ 31) (hn : n < 2 ^ 31) (hq : q + k ≤ n) {jq jk : Int32} (ejq : jq = Int32.ofNat q) (ejk : jk = Int32.ofNat k)
    {g : JFrame} (hg : g.method = m) (hsize : g.locals.size = c.maxLocals) {rest : List Value} (hs : g.stack = .int jk :: .int jq :: .ref b :: .int (0 : Int32) :: .ref a :: rest) (hd : decode c.code g.pc = .ok (.invokestatic index, 3)) {W : Nat} (hW : 2 * g.monitorRoom + (rest.map fun v => v.category).sum ≤ W) (hfr : 1 ≤ R.frames) (hlo : W + 40 ≤ R.locals) :
    ∃ T' h', Stand p l e R s m args below meth c T' (locs ++ Jvm.Stand.copyLocs b q k) cells slots ∧ T'.heap = h' ∧ Keep h h' [b] ∧ own_A Z h' b .int n (fun j => .int (if q ≤ j ∧ j < q + k then f (j - q) else f' j)) ∧ ∀ target, Steps p.tables e below (T'.setTop { g with pc := g.pc + 3, stack := rest }) target → Steps p.tables e below (T.setTop g) target := by
  obtain ⟨ca, A, S, H⟩ := V
  obtain ⟨cb, B, S', H'⟩ := V'
  have al : Z.vm.Alike T.vm := hZ.alike.trans X.warmed.alike
  have hA : Jvm.Free.XT.Arr .int a ca T := ⟨by rw [eT]; exact A.1, State.isArrayOf_alike al A.2.1, A.2.2, by rw [S]; exact hk⟩
  have hB : Jvm.Free.XT.Arr .int b cb T := ⟨by rw [eT]; exact B.1, State.isArrayOf_alike al B.2.1, B.2.2, by rw [S']; exact hn⟩
  have hget : ∀ i, i < k → ca.slots.getD i .null = .int (f i) := fun i hi => by rw [Array.getD_eq_getD_getElem?, H i hi]; rfl
  obtain ⟨T', B', X', P, q1, q2, q3, q4, st⟩ := Jvm.Stand.acopy X hx hown (fun d hd => by
      simp only [Jvm.Free.XT.acW, List.mem_cons, List.not_mem_nil, or_false] at hd
      rcases hd with rfl | rfl | rfl | rfl
      · exact mvT hZ w1
      · first | exact mvT hZ w2 | exact mvT hZ w3
      · first | exact mvT hZ w3 | exact mvT hZ w2
      · exact mvT hZ w4) hA hB rfl (o := 0) (q := q) (n := k) rfl ejq ejk (by rw [S]; omega) (by rw [S']; exact hq) (fun i hi => by
      rw [Nat.zero_add, hget i hi]
      exact ⟨rfl, fun q => by cases q⟩) hg hsize hs hd hW hfr hlo
  obtain ⟨p1, p2, p3⟩ := P
  rw [eT] at p2 p3
  refine ⟨T', _, X', rfl, ⟨Nat.le_of_eq p3.symm, fun x cx hcx hne => ?_, fun x cx hcx => ?_⟩, ⟨B', ⟨p1, ?_, by rw [q2]; exact B.2.2⟩, by rw [q3]; exact S', fun j hj => ?_⟩, st⟩
  · rw [p2 x (fun z => hne (by rw [z]; exact List.mem_cons_self ..))]; exact hcx
  · by_cases z : x = b
    · subst z
      cases hcx.symm.trans B.1
      exact ⟨B', p1, q1, q2, q3⟩
    · exact ⟨cx, by rw [p2 x z]; exact hcx, rfl, rfl, rfl⟩
  · obtain ⟨r1, kk, r2, r3⟩ := B.2.1
    exact ⟨by rw [q2]; exact r1, kk, by rw [q1]; exact r2, r3⟩
  · rw [q4 j]
    dsimp only
    by_cases z : q ≤ j ∧ j < q + k
    · rw [if_pos z, if_pos z, Nat.zero_add, hget _ (by omega)]
    · rw [if_neg z, if_neg z, H' j hj]
theorem own_copyFr {n0 : Nat} {L : List Loc} (N : Fr n0 L) (g : n0 ≤ b) : Fr n0 (L ++ Jvm.Stand.copyLocs b q k) := N.app fun y hy => by rw [Jvm.Stand.copyLocs_base hy]; exact g
end OwnCopy
theorem d10_0 : decode prog_45_method_8_code 0 = .ok (.lconst 1, 1) := by decide +kernel
theorem d10_1 : decode prog_45_method_8_code 1 = .ok (.iload_n 0, 1) := by decide +kernel
theorem d10_2 : decode prog_45_method_8_code 2 = .ok (.bipush 64, 2) := by decide +kernel
theorem d10_4 : decode prog_45_method_8_code 4 = .ok (.irem, 1) := by decide +kernel
theorem d10_5 : decode prog_45_method_8_code 5 = .ok (.lshl, 1) := by decide +kernel
theorem d10_6 : decode prog_45_method_8_code 6 = .ok (.lreturn, 1) := by decide +kernel
theorem pn_rmBit : plainName "com/example/quorum/quorum/FailedStates" = true := by first | (simp [plainName, overriddenIn]; done) | decide +kernel
theorem pd_d10 : parseMethodDescriptor "(I)J" = some ⟨[.int], some .long⟩ := by decide +kernel
theorem ef_rmBit (m : MethodId) (x0 : Int32) : entryFrame m #[(.int x0)] 1 = mkF m 0 #[.val (.int x0)] [] := by first | (simp [entryFrame, mkF, argsToLocals, Value.category, maxLocals]; done) | rfl
def Q_rmBit (Z : State) (p1 : Int32) (h0 : Heap) (n0 : Nat) (v : Option Value) (h : Heap) (L : List Loc) : Prop := v = some (.long (own_bit p1)) ∧ Fr n0 L ∧ h = h0
set_option maxRecDepth 65536 in
set_option maxHeartbeats 40000000 in
theorem rmBit (l : Launch) (Z : State) (a0 : Array Value) (hw : ∀ d ∈ tables_1, d.before a0 Z = true) (ws : List Jvm.Cond) (p1 : Int32) (h0 : Heap) (n0 : Nat) (Z0 : n0 ≤ h0.size)  :
    MetFree l (⟨"com/example/quorum/quorum/FailedStates", "bit", "(I)J"⟩ : MethodName) (head1 (Jvm.Cond.code (⟨"com/example/quorum/quorum/FailedStates", "bit", "(I)J"⟩ : MethodName) prog_45_method_8_code 1 (some .long) :: ws) ({ frames := 0, cells := 0, slots := 0, locals := 0 } : Room)) (fun as1 U => as1 = #[(.int p1)] ∧ Z.Warmed39 U.vm ∧ U.heap = h0) (fun _ _ _ _ _ => True) (fun _ U o U' => ∃ v L, o = .returned v ∧ Q_rmBit Z p1 h0 n0 v U'.heap L ∧ FrameEnd U o U' L ({ frames := 0, cells := 0, slots := 0, locals := 0 } : Room).cells ({ frames := 0, cells := 0, slots := 0, locals := 0 } : Room).slots) := by
  refine MetFree.of_bodySF (plainFor_of_name pn_rmBit) hisR ?_
  intro p e s m args below meth c s₁ Bd hml0 hP hK
  obtain ⟨rfl, hZ, hh⟩ := hP
  have hx := Bd.exec
  have hby := Bd.bytes
  have hml : c.maxLocals = 1 := hml0
  have hown : s.vm.findClass "com/example/quorum/quorum/FailedStates" = some m.cls := findClass_of_methodNamed Bd.named
  have hnm := (name_of_methodNamed Bd.named Bd.method).1
  have X0 : Stand p l e ({ frames := 0, cells := 0, slots := 0, locals := 0 } : Room) s m #[(.int p1)] below meth c s₁ [] 0 0 := Stand.of_body Bd
  have e0 : s₁.heap = h0 := by rw [← hh, Bd.state]; rfl
  have N0 := Fr.nil n0
  show own_Ends p e s below (Q_rmBit Z p1 h0 n0) ({ frames := 0, cells := 0, slots := 0, locals := 0 } : Room).cells ({ frames := 0, cells := 0, slots := 0, locals := 0 } : Room).slots (s₁.setTop (entryFrame m #[(.int p1)] 1))
  refine own_st (U' := (s₁.setTop (mkF m 0 #[.val (.int p1)] []))) (fun _ k => castTop (ef_rmBit m p1) k) ?_
  refine own_st (U' := (s₁.setTop (mkF m 1 #[.val (.int p1)] [(.long (1 : Int64))]))) (fun _ k => XS.lconst X0.here hx rfl (hb hby d10_0) k) ?_
  refine own_st (U' := (s₁.setTop (mkF m 2 #[.val (.int p1)] [(.int p1), (.long (1 : Int64))]))) (fun _ k => XS.iloadN X0.here hx rfl (hb hby d10_1) rfl k) ?_
  refine own_st (U' := (s₁.setTop (mkF m 4 #[.val (.int p1)] [(.int (64 : Int32)), (.int p1), (.long (1 : Int64))]))) (fun _ k => XS.bipush X0.here hx rfl (hb hby d10_2) k) ?_
  refine own_st (U' := (s₁.setTop (mkF m 5 #[.val (.int p1)] [(.int (p1 % (64 : Int32))), (.long (1 : Int64))]))) (fun _ k => iremM X0 hx rfl (hb hby d10_4) rfl (by decide) k) ?_
  refine own_st (U' := (s₁.setTop (mkF m 6 #[.val (.int p1)] [(.long (own_bit p1))]))) (fun _ k => XS.lshl X0.here hx rfl (hb hby d10_5) rfl k) ?_
  exact own_retJ X0 hx Bd.returns Bd.notSynchronized (hb hby d10_6) (by decide) (by decide) (⟨rfl, N0, e0⟩)
theorem d12_0 : decode prog_45_method_7_code 0 = .ok (.iload_n 2, 1) := by decide +kernel
theorem d12_1 : decode prog_45_method_7_code 1 = .ok (.aload_n 0, 1) := by decide +kernel
theorem d12_2 : decode prog_45_method_7_code 2 = .ok (.getfield 13, 3) := by decide +kernel
theorem d12_5 : decode prog_45_method_7_code 5 = .ok (.imul, 1) := by decide +kernel
theorem d12_6 : decode prog_45_method_7_code 6 = .ok (.istore 5, 2) := by decide +kernel
theorem d12_8 : decode prog_45_method_7_code 8 = .ok (.aload_n 1, 1) := by decide +kernel
theorem d12_9 : decode prog_45_method_7_code 9 = .ok (.iload 5, 2) := by decide +kernel
theorem d12_11 : decode prog_45_method_7_code 11 = .ok (.aload_n 3, 1) := by decide +kernel
theorem d12_12 : decode prog_45_method_7_code 12 = .ok (.arraylength, 1) := by decide +kernel
theorem d12_13 : decode prog_45_method_7_code 13 = .ok (.iadd, 1) := by decide +kernel
theorem d12_14 : decode prog_45_method_7_code 14 = .ok (.iaload, 1) := by decide +kernel
theorem d12_15 : decode prog_45_method_7_code 15 = .ok (.iload 4, 2) := by decide +kernel
theorem d12_17 : decode prog_45_method_7_code 17 = .ok (.if_icmp .eq 5, 3) := by decide +kernel
theorem d12_20 : decode prog_45_method_7_code 20 = .ok (.iconst 0, 1) := by decide +kernel
theorem d12_21 : decode prog_45_method_7_code 21 = .ok (.ireturn, 1) := by decide +kernel
theorem d12_22 : decode prog_45_method_7_code 22 = .ok (.iconst 0, 1) := by decide +kernel
theorem d12_23 : decode prog_45_method_7_code 23 = .ok (.istore 6, 2) := by decide +kernel
theorem d12_25 : decode prog_45_method_7_code 25 = .ok (.iload 6, 2) := by decide +kernel
theorem d12_27 : decode prog_45_method_7_code 27 = .ok (.aload_n 3, 1) := by decide +kernel
theorem d12_28 : decode prog_45_method_7_code 28 = .ok (.arraylength, 1) := by decide +kernel
theorem d12_29 : decode prog_45_method_7_code 29 = .ok (.if_icmp .ge 25, 3) := by decide +kernel
theorem d12_32 : decode prog_45_method_7_code 32 = .ok (.aload_n 1, 1) := by decide +kernel
theorem d12_33 : decode prog_45_method_7_code 33 = .ok (.iload 5, 2) := by decide +kernel
theorem d12_35 : decode prog_45_method_7_code 35 = .ok (.iload 6, 2) := by decide +kernel
theorem d12_37 : decode prog_45_method_7_code 37 = .ok (.iadd, 1) := by decide +kernel
theorem d12_38 : decode prog_45_method_7_code 38 = .ok (.iaload, 1) := by decide +kernel
theorem d12_39 : decode prog_45_method_7_code 39 = .ok (.aload_n 3, 1) := by decide +kernel
theorem d12_40 : decode prog_45_method_7_code 40 = .ok (.iload 6, 2) := by decide +kernel
theorem d12_42 : decode prog_45_method_7_code 42 = .ok (.iaload, 1) := by decide +kernel
theorem d12_43 : decode prog_45_method_7_code 43 = .ok (.if_icmp .eq 5, 3) := by decide +kernel
theorem d12_46 : decode prog_45_method_7_code 46 = .ok (.iconst 0, 1) := by decide +kernel
theorem d12_47 : decode prog_45_method_7_code 47 = .ok (.ireturn, 1) := by decide +kernel
theorem d12_48 : decode prog_45_method_7_code 48 = .ok (.iinc 6 1, 3) := by decide +kernel
theorem d12_51 : decode prog_45_method_7_code 51 = .ok (.goto (-26), 3) := by decide +kernel
theorem d12_54 : decode prog_45_method_7_code 54 = .ok (.iconst 1, 1) := by decide +kernel
theorem d12_55 : decode prog_45_method_7_code 55 = .ok (.ireturn, 1) := by decide +kernel
theorem pn_rmHolds : plainName "com/example/quorum/quorum/FailedStates" = true := by first | (simp [plainName, overriddenIn]; done) | decide +kernel
theorem pd_d12 : parseMethodDescriptor "([II[II)Z" = some ⟨[(.array .int), .int, (.array .int), .int], some .boolean⟩ := by decide +kernel
theorem ef_rmHolds (m : MethodId) (x0 : Addr) (x1 : Addr) (x2 : Int32) (x3 : Addr) (x4 : Int32) : entryFrame m #[(.ref x0), (.ref x1), (.int x2), (.ref x3), (.int x4)] 7 = mkF m 0 #[.val (.ref x0), .val (.ref x1), .val (.int x2), .val (.ref x3), .val (.int x4), .unset, .unset] [] := by first | (simp [entryFrame, mkF, argsToLocals, Value.category, maxLocals]; done) | rfl
def Q_rmHolds (Z : State) (a : Addr) (en : Addr) (t : Nat) (ky : Addr) (b : Int32) (fe : Nat → Int32) (k0 : Int32) (k1 : Int32) (h0 : Heap) (n0 : Nat) (v : Option Value) (h : Heap) (L : List Loc) : Prop := v = some (.int (own_b (own_hd fe t k0 k1 b))) ∧ Fr n0 L ∧ h = h0
set_option maxRecDepth 65536 in
set_option maxHeartbeats 40000000 in
theorem rmHolds (l : Launch) (Z : State) (a0 : Array Value) (hw : ∀ d ∈ tables_1, d.before a0 Z = true) (ws : List Jvm.Cond) (a : Addr) (en : Addr) (t : Nat) (ky : Addr) (b : Int32) (fe : Nat → Int32) (k0 : Int32) (k1 : Int32) (h0 : Heap) (n0 : Nat) (Z0 : n0 ≤ h0.size) (ht : t < 16) (F_width : Fld Z h0 a "com/example/quorum/quorum/FailedStates" "width" "I" (.int 3)) (V_en : own_A Z h0 en .int 48 (fun j => .int (fe j))) (V_ky : own_A Z h0 ky .int 2 (own_L [k0, k1])) :
    MetFree l (⟨"com/example/quorum/quorum/FailedStates", "holds", "([II[II)Z"⟩ : MethodName) (head1 (Jvm.Cond.code (⟨"com/example/quorum/quorum/FailedStates", "holds", "([II[II)Z"⟩ : MethodName) prog_45_method_7_code 7 (some .boolean) :: ws) ({ frames := 0, cells := 0, slots := 0, locals := 0 } : Room)) (fun as1 U => as1 = #[(.ref a), (.ref en), (.int (Int32.ofNat t)), (.ref ky), (.int b)] ∧ Z.Warmed39 U.vm ∧ U.heap = h0) (fun _ _ _ _ _ => True) (fun _ U o U' => ∃ v L, o = .returned v ∧ Q_rmHolds Z a en t ky b fe k0 k1 h0 n0 v U'.heap L ∧ FrameEnd U o U' L ({ frames := 0, cells := 0, slots := 0, locals := 0 } : Room).cells ({ frames := 0, cells := 0, slots := 0, locals := 0 } : Room).slots) := by
  refine MetFree.of_bodySF (plainFor_of_name pn_rmHolds) hisR ?_
  intro p e s m args below meth c s₁ Bd hml0 hP hK
  obtain ⟨rfl, hZ, hh⟩ := hP
  have hx := Bd.exec
  have hby := Bd.bytes
  have hml : c.maxLocals = 7 := hml0
  have hown : s.vm.findClass "com/example/quorum/quorum/FailedStates" = some m.cls := findClass_of_methodNamed Bd.named
  have hnm := (name_of_methodNamed Bd.named Bd.method).1
  have X0 : Stand p l e ({ frames := 0, cells := 0, slots := 0, locals := 0 } : Room) s m #[(.ref a), (.ref en), (.int (Int32.ofNat t)), (.ref ky), (.int b)] below meth c s₁ [] 0 0 := Stand.of_body Bd
  have e0 : s₁.heap = h0 := by rw [← hh, Bd.state]; rfl
  have N0 := Fr.nil n0
  show own_Ends p e s below (Q_rmHolds Z a en t ky b fe k0 k1 h0 n0) ({ frames := 0, cells := 0, slots := 0, locals := 0 } : Room).cells ({ frames := 0, cells := 0, slots := 0, locals := 0 } : Room).slots (s₁.setTop (entryFrame m #[(.ref a), (.ref en), (.int (Int32.ofNat t)), (.ref ky), (.int b)] 7))
  refine own_st (U' := (s₁.setTop (mkF m 0 #[.val (.ref a), .val (.ref en), .val (.int (Int32.ofNat t)), .val (.ref ky), .val (.int b), .unset, .unset] []))) (fun _ k => castTop (ef_rmHolds m a en (Int32.ofNat t) ky b) k) ?_
  refine own_st (U' := (s₁.setTop (mkF m 1 #[.val (.ref a), .val (.ref en), .val (.int (Int32.ofNat t)), .val (.ref ky), .val (.int b), .unset, .unset] [(.int (Int32.ofNat t))]))) (fun _ k => XS.iloadN X0.here hx rfl (hb hby d12_0) rfl k) ?_
  refine own_st (U' := (s₁.setTop (mkF m 2 #[.val (.ref a), .val (.ref en), .val (.int (Int32.ofNat t)), .val (.ref ky), .val (.int b), .unset, .unset] [(.ref a), (.int (Int32.ofNat t))]))) (fun _ k => XS.aloadN X0.here hx rfl (hb hby d12_1) rfl rfl k) ?_
  obtain ⟨T1, X1, e1, st1⟩ := getF X0 hx hZ hown (host := "") (Or.inl (hw _ (List.mem_of_getElem? (i := 26) rfl))) Via.refl e0 F_width (g := (mkF m 2 #[.val (.ref a), .val (.ref en), .val (.int (Int32.ofNat t)), .val (.ref ky), .val (.int b), .unset, .unset] [(.ref a), (.int (Int32.ofNat t))])) rfl rfl (hb hby d12_2)
  refine own_st (U' := (T1.setTop (mkF m 5 #[.val (.ref a), .val (.ref en), .val (.int (Int32.ofNat t)), .val (.ref ky), .val (.int b), .unset, .unset] [(.int (3 : Int32)), (.int (Int32.ofNat t))]))) st1 ?_
  refine own_st (U' := (T1.setTop (mkF m 6 #[.val (.ref a), .val (.ref en), .val (.int (Int32.ofNat t)), .val (.ref ky), .val (.int b), .unset, .unset] [(.int ((Int32.ofNat t) * (3 : Int32)))]))) (fun _ k => XS.imul X1.here hx rfl (hb hby d12_5) rfl k) ?_
  rw [own_pl1 ht]
  refine own_st (U' := (T1.setTop (mkF m 8 #[.val (.ref a), .val (.ref en), .val (.int (Int32.ofNat t)), .val (.ref ky), .val (.int b), .val (.int (Int32.ofNat (3 * t))), .unset] []))) (fun _ k => XS.istore X1.here hx rfl (hb hby d12_6) rfl (l' := #[.val (.ref a), .val (.ref en), .val (.int (Int32.ofNat t)), .val (.ref ky), .val (.int b), .val (.int (Int32.ofNat (3 * t))), .unset]) rfl k) ?_
  refine own_st (U' := (T1.setTop (mkF m 9 #[.val (.ref a), .val (.ref en), .val (.int (Int32.ofNat t)), .val (.ref ky), .val (.int b), .val (.int (Int32.ofNat (3 * t))), .unset] [(.ref en)]))) (fun _ k => XS.aloadN X1.here hx rfl (hb hby d12_8) rfl rfl k) ?_
  refine own_st (U' := (T1.setTop (mkF m 11 #[.val (.ref a), .val (.ref en), .val (.int (Int32.ofNat t)), .val (.ref ky), .val (.int b), .val (.int (Int32.ofNat (3 * t))), .unset] [(.int (Int32.ofNat (3 * t))), (.ref en)]))) (fun _ k => XS.iload X1.here hx rfl (hb hby d12_9) rfl k) ?_
  refine own_st (U' := (T1.setTop (mkF m 12 #[.val (.ref a), .val (.ref en), .val (.int (Int32.ofNat t)), .val (.ref ky), .val (.int b), .val (.int (Int32.ofNat (3 * t))), .unset] [(.ref ky), (.int (Int32.ofNat (3 * t))), (.ref en)]))) (fun _ k => XS.aloadN X1.here hx rfl (hb hby d12_11) rfl rfl k) ?_
  refine own_st (U' := (T1.setTop (mkF m 13 #[.val (.ref a), .val (.ref en), .val (.int (Int32.ofNat t)), .val (.ref ky), .val (.int b), .val (.int (Int32.ofNat (3 * t))), .unset] [(.int (2 : Int32)), (.int (Int32.ofNat (3 * t))), (.ref en)]))) (own_len X1 hx hZ e1 V_ky (z := (2 : Int32)) rfl (g := (mkF m 12 #[.val (.ref a), .val (.ref en), .val (.int (Int32.ofNat t)), .val (.ref ky), .val (.int b), .val (.int (Int32.ofNat (3 * t))), .unset] [(.ref ky), (.int (Int32.ofNat (3 * t))), (.ref en)])) rfl rfl (hb hby d12_12)) ?_
  refine own_st (U' := (T1.setTop (mkF m 14 #[.val (.ref a), .val (.ref en), .val (.int (Int32.ofNat t)), .val (.ref ky), .val (.int b), .val (.int (Int32.ofNat (3 * t))), .unset] [(.int ((Int32.ofNat (3 * t)) + (2 : Int32))), (.ref en)]))) (fun _ k => XS.iadd X1.here hx rfl (hb hby d12_13) rfl k) ?_
  rw [own_pl2 ht]
  refine own_st (U' := (T1.setTop (mkF m 15 #[.val (.ref a), .val (.ref en), .val (.int (Int32.ofNat t)), .val (.ref ky), .val (.int b), .val (.int (Int32.ofNat (3 * t))), .unset] [(.int (fe (3 * t + 2)))]))) (own_ldI X1 hx hZ e1 V_en (j := (Int32.ofNat (3 * t + 2))) (i := (3 * t + 2)) (own_ofN (by omega)).1 (own_ofN (by omega)).2 (by omega) (v := (.int (fe (3 * t + 2)))) rfl (g := (mkF m 14 #[.val (.ref a), .val (.ref en), .val (.int (Int32.ofNat t)), .val (.ref ky), .val (.int b), .val (.int (Int32.ofNat (3 * t))), .unset] [(.int (Int32.ofNat (3 * t + 2))), (.ref en)])) rfl rfl (hb hby d12_14)) ?_
  refine own_st (U' := (T1.setTop (mkF m 17 #[.val (.ref a), .val (.ref en), .val (.int (Int32.ofNat t)), .val (.ref ky), .val (.int b), .val (.int (Int32.ofNat (3 * t))), .unset] [(.int b), (.int (fe (3 * t + 2)))]))) (fun _ k => XS.iload X1.here hx rfl (hb hby d12_15) rfl k) ?_
  by_cases c0 : (fe (3 * t + 2)) = b
  · skip
    refine own_st (U' := (T1.setTop (mkF m 22 #[.val (.ref a), .val (.ref en), .val (.int (Int32.ofNat t)), .val (.ref ky), .val (.int b), .val (.int (Int32.ofNat (3 * t))), .unset] []))) (fun _ k => XS.icmpYes X1.here hx rfl (pc0 := 17) (pc' := 22) rfl (hb hby d12_17) rfl (teq c0).1 (by decide) (by decide) k) ?_
    refine own_st (U' := (T1.setTop (mkF m 23 #[.val (.ref a), .val (.ref en), .val (.int (Int32.ofNat t)), .val (.ref ky), .val (.int b), .val (.int (Int32.ofNat (3 * t))), .unset] [(.int (0 : Int32))]))) (fun _ k => XS.iconst X1.here hx rfl (hb hby d12_22) k) ?_
    refine own_st (U' := (T1.setTop (mkF m 25 #[.val (.ref a), .val (.ref en), .val (.int (Int32.ofNat t)), .val (.ref ky), .val (.int b), .val (.int (Int32.ofNat (3 * t))), .val (.int (0 : Int32))] []))) (fun _ k => XS.istore X1.here hx rfl (hb hby d12_23) rfl (l' := #[.val (.ref a), .val (.ref en), .val (.int (Int32.ofNat t)), .val (.ref ky), .val (.int b), .val (.int (Int32.ofNat (3 * t))), .val (.int (0 : Int32))]) rfl k) ?_
    refine own_st (U' := (T1.setTop (mkF m 27 #[.val (.ref a), .val (.ref en), .val (.int (Int32.ofNat t)), .val (.ref ky), .val (.int b), .val (.int (Int32.ofNat (3 * t))), .val (.int (0 : Int32))] [(.int (0 : Int32))]))) (fun _ k => XS.iload X1.here hx rfl (hb hby d12_25) rfl k) ?_
    refine own_st (U' := (T1.setTop (mkF m 28 #[.val (.ref a), .val (.ref en), .val (.int (Int32.ofNat t)), .val (.ref ky), .val (.int b), .val (.int (Int32.ofNat (3 * t))), .val (.int (0 : Int32))] [(.ref ky), (.int (0 : Int32))]))) (fun _ k => XS.aloadN X1.here hx rfl (hb hby d12_27) rfl rfl k) ?_
    refine own_st (U' := (T1.setTop (mkF m 29 #[.val (.ref a), .val (.ref en), .val (.int (Int32.ofNat t)), .val (.ref ky), .val (.int b), .val (.int (Int32.ofNat (3 * t))), .val (.int (0 : Int32))] [(.int (2 : Int32)), (.int (0 : Int32))]))) (own_len X1 hx hZ e1 V_ky (z := (2 : Int32)) rfl (g := (mkF m 28 #[.val (.ref a), .val (.ref en), .val (.int (Int32.ofNat t)), .val (.ref ky), .val (.int b), .val (.int (Int32.ofNat (3 * t))), .val (.int (0 : Int32))] [(.ref ky), (.int (0 : Int32))])) rfl rfl (hb hby d12_28)) ?_
    refine own_st (U' := (T1.setTop (mkF m 32 #[.val (.ref a), .val (.ref en), .val (.int (Int32.ofNat t)), .val (.ref ky), .val (.int b), .val (.int (Int32.ofNat (3 * t))), .val (.int (0 : Int32))] []))) (fun _ k => XS.icmpNo X1.here hx rfl (hb hby d12_29) rfl (tlt (by decide)).2.1 k) ?_
    refine own_st (U' := (T1.setTop (mkF m 33 #[.val (.ref a), .val (.ref en), .val (.int (Int32.ofNat t)), .val (.ref ky), .val (.int b), .val (.int (Int32.ofNat (3 * t))), .val (.int (0 : Int32))] [(.ref en)]))) (fun _ k => XS.aloadN X1.here hx rfl (hb hby d12_32) rfl rfl k) ?_
    refine own_st (U' := (T1.setTop (mkF m 35 #[.val (.ref a), .val (.ref en), .val (.int (Int32.ofNat t)), .val (.ref ky), .val (.int b), .val (.int (Int32.ofNat (3 * t))), .val (.int (0 : Int32))] [(.int (Int32.ofNat (3 * t))), (.ref en)]))) (fun _ k => XS.iload X1.here hx rfl (hb hby d12_33) rfl k) ?_
    refine own_st (U' := (T1.setTop (mkF m 37 #[.val (.ref a), .val (.ref en), .val (.int (Int32.ofNat t)), .val (.ref ky), .val (.int b), .val (.int (Int32.ofNat (3 * t))), .val (.int (0 : Int32))] [(.int (0 : Int32)), (.int (Int32.ofNat (3 * t))), (.ref en)]))) (fun _ k => XS.iload X1.here hx rfl (hb hby d12_35) rfl k) ?_
    refine own_st (U' := (T1.setTop (mkF m 38 #[.val (.ref a), .val (.ref en), .val (.int (Int32.ofNat t)), .val (.ref ky), .val (.int b), .val (.int (Int32.ofNat (3 * t))), .val (.int (0 : Int32))] [(.int ((Int32.ofNat (3 * t)) + (0 : Int32))), (.ref en)]))) (fun _ k => XS.iadd X1.here hx rfl (hb hby d12_37) rfl k) ?_
    rw [own_pl4 ht]
    refine own_st (U' := (T1.setTop (mkF m 39 #[.val (.ref a), .val (.ref en), .val (.int (Int32.ofNat t)), .val (.ref ky), .val (.int b), .val (.int (Int32.ofNat (3 * t))), .val (.int (0 : Int32))] [(.int (fe (3 * t)))]))) (own_ldI X1 hx hZ e1 V_en (j := (Int32.ofNat (3 * t))) (i := (3 * t)) (own_ofN (by omega)).1 (own_ofN (by omega)).2 (by omega) (v := (.int (fe (3 * t)))) rfl (g := (mkF m 38 #[.val (.ref a), .val (.ref en), .val (.int (Int32.ofNat t)), .val (.ref ky), .val (.int b), .val (.int (Int32.ofNat (3 * t))), .val (.int (0 : Int32))] [(.int (Int32.ofNat (3 * t))), (.ref en)])) rfl rfl (hb hby d12_38)) ?_
    refine own_st (U' := (T1.setTop (mkF m 40 #[.val (.ref a), .val (.ref en), .val (.int (Int32.ofNat t)), .val (.ref ky), .val (.int b), .val (.int (Int32.ofNat (3 * t))), .val (.int (0 : Int32))] [(.ref ky), (.int (fe (3 * t)))]))) (fun _ k => XS.aloadN X1.here hx rfl (hb hby d12_39) rfl rfl k) ?_
    refine own_st (U' := (T1.setTop (mkF m 42 #[.val (.ref a), .val (.ref en), .val (.int (Int32.ofNat t)), .val (.ref ky), .val (.int b), .val (.int (Int32.ofNat (3 * t))), .val (.int (0 : Int32))] [(.int (0 : Int32)), (.ref ky), (.int (fe (3 * t)))]))) (fun _ k => XS.iload X1.here hx rfl (hb hby d12_40) rfl k) ?_
    refine own_st (U' := (T1.setTop (mkF m 43 #[.val (.ref a), .val (.ref en), .val (.int (Int32.ofNat t)), .val (.ref ky), .val (.int b), .val (.int (Int32.ofNat (3 * t))), .val (.int (0 : Int32))] [(.int k0), (.int (fe (3 * t)))]))) (own_ldI X1 hx hZ e1 V_ky (j := (0 : Int32)) (i := 0) (by decide) rfl (by decide) (v := (.int k0)) rfl (g := (mkF m 42 #[.val (.ref a), .val (.ref en), .val (.int (Int32.ofNat t)), .val (.ref ky), .val (.int b), .val (.int (Int32.ofNat (3 * t))), .val (.int (0 : Int32))] [(.int (0 : Int32)), (.ref ky), (.int (fe (3 * t)))])) rfl rfl (hb hby d12_42)) ?_
    by_cases c1 : (fe (3 * t)) = k0
    · skip
      refine own_st (U' := (T1.setTop (mkF m 48 #[.val (.ref a), .val (.ref en), .val (.int (Int32.ofNat t)), .val (.ref ky), .val (.int b), .val (.int (Int32.ofNat (3 * t))), .val (.int (0 : Int32))] []))) (fun _ k => XS.icmpYes X1.here hx rfl (pc0 := 43) (pc' := 48) rfl (hb hby d12_43) rfl (teq c1).1 (by decide) (by decide) k) ?_
      refine own_st (U' := (T1.setTop (mkF m 51 #[.val (.ref a), .val (.ref en), .val (.int (Int32.ofNat t)), .val (.ref ky), .val (.int b), .val (.int (Int32.ofNat (3 * t))), .val (.int (1 : Int32))] []))) (fun _ k => XS.iinc X1.here hx rfl (hb hby d12_48) rfl (l' := #[.val (.ref a), .val (.ref en), .val (.int (Int32.ofNat t)), .val (.ref ky), .val (.int b), .val (.int (Int32.ofNat (3 * t))), .val (.int (1 : Int32))]) rfl k) ?_
      refine own_st (U' := (T1.setTop (mkF m 25 #[.val (.ref a), .val (.ref en), .val (.int (Int32.ofNat t)), .val (.ref ky), .val (.int b), .val (.int (Int32.ofNat (3 * t))), .val (.int (1 : Int32))] []))) (fun _ k => XS.goto X1.here hx rfl (pc0 := 51) (pc' := 25) rfl (hb hby d12_51) (by decide) (by decide) k) ?_
      refine own_st (U' := (T1.setTop (mkF m 27 #[.val (.ref a), .val (.ref en), .val (.int (Int32.ofNat t)), .val (.ref ky), .val (.int b), .val (.int (Int32.ofNat (3 * t))), .val (.int (1 : Int32))] [(.int (1 : Int32))]))) (fun _ k => XS.iload X1.here hx rfl (hb hby d12_25) rfl k) ?_
      refine own_st (U' := (T1.setTop (mkF m 28 #[.val (.ref a), .val (.ref en), .val (.int (Int32.ofNat t)), .val (.ref ky), .val (.int b), .val (.int (Int32.ofNat (3 * t))), .val (.int (1 : Int32))] [(.ref ky), (.int (1 : Int32))]))) (fun _ k => XS.aloadN X1.here hx rfl (hb hby d12_27) rfl rfl k) ?_
      refine own_st (U' := (T1.setTop (mkF m 29 #[.val (.ref a), .val (.ref en), .val (.int (Int32.ofNat t)), .val (.ref ky), .val (.int b), .val (.int (Int32.ofNat (3 * t))), .val (.int (1 : Int32))] [(.int (2 : Int32)), (.int (1 : Int32))]))) (own_len X1 hx hZ e1 V_ky (z := (2 : Int32)) rfl (g := (mkF m 28 #[.val (.ref a), .val (.ref en), .val (.int (Int32.ofNat t)), .val (.ref ky), .val (.int b), .val (.int (Int32.ofNat (3 * t))), .val (.int (1 : Int32))] [(.ref ky), (.int (1 : Int32))])) rfl rfl (hb hby d12_28)) ?_
      refine own_st (U' := (T1.setTop (mkF m 32 #[.val (.ref a), .val (.ref en), .val (.int (Int32.ofNat t)), .val (.ref ky), .val (.int b), .val (.int (Int32.ofNat (3 * t))), .val (.int (1 : Int32))] []))) (fun _ k => XS.icmpNo X1.here hx rfl (hb hby d12_29) rfl (tlt (by decide)).2.1 k) ?_
      refine own_st (U' := (T1.setTop (mkF m 33 #[.val (.ref a), .val (.ref en), .val (.int (Int32.ofNat t)), .val (.ref ky), .val (.int b), .val (.int (Int32.ofNat (3 * t))), .val (.int (1 : Int32))] [(.ref en)]))) (fun _ k => XS.aloadN X1.here hx rfl (hb hby d12_32) rfl rfl k) ?_
      refine own_st (U' := (T1.setTop (mkF m 35 #[.val (.ref a), .val (.ref en), .val (.int (Int32.ofNat t)), .val (.ref ky), .val (.int b), .val (.int (Int32.ofNat (3 * t))), .val (.int (1 : Int32))] [(.int (Int32.ofNat (3 * t))), (.ref en)]))) (fun _ k => XS.iload X1.here hx rfl (hb hby d12_33) rfl k) ?_
      refine own_st (U' := (T1.setTop (mkF m 37 #[.val (.ref a), .val (.ref en), .val (.int (Int32.ofNat t)), .val (.ref ky), .val (.int b), .val (.int (Int32.ofNat (3 * t))), .val (.int (1 : Int32))] [(.int (1 : Int32)), (.int (Int32.ofNat (3 * t))), (.ref en)]))) (fun _ k => XS.iload X1.here hx rfl (hb hby d12_35) rfl k) ?_
      refine own_st (U' := (T1.setTop (mkF m 38 #[.val (.ref a), .val (.ref en), .val (.int (Int32.ofNat t)), .val (.ref ky), .val (.int b), .val (.int (Int32.ofNat (3 * t))), .val (.int (1 : Int32))] [(.int ((Int32.ofNat (3 * t)) + (1 : Int32))), (.ref en)]))) (fun _ k => XS.iadd X1.here hx rfl (hb hby d12_37) rfl k) ?_
      rw [own_pl3 ht]
      refine own_st (U' := (T1.setTop (mkF m 39 #[.val (.ref a), .val (.ref en), .val (.int (Int32.ofNat t)), .val (.ref ky), .val (.int b), .val (.int (Int32.ofNat (3 * t))), .val (.int (1 : Int32))] [(.int (fe (3 * t + 1)))]))) (own_ldI X1 hx hZ e1 V_en (j := (Int32.ofNat (3 * t + 1))) (i := (3 * t + 1)) (own_ofN (by omega)).1 (own_ofN (by omega)).2 (by omega) (v := (.int (fe (3 * t + 1)))) rfl (g := (mkF m 38 #[.val (.ref a), .val (.ref en), .val (.int (Int32.ofNat t)), .val (.ref ky), .val (.int b), .val (.int (Int32.ofNat (3 * t))), .val (.int (1 : Int32))] [(.int (Int32.ofNat (3 * t + 1))), (.ref en)])) rfl rfl (hb hby d12_38)) ?_
      refine own_st (U' := (T1.setTop (mkF m 40 #[.val (.ref a), .val (.ref en), .val (.int (Int32.ofNat t)), .val (.ref ky), .val (.int b), .val (.int (Int32.ofNat (3 * t))), .val (.int (1 : Int32))] [(.ref ky), (.int (fe (3 * t + 1)))]))) (fun _ k => XS.aloadN X1.here hx rfl (hb hby d12_39) rfl rfl k) ?_
      refine own_st (U' := (T1.setTop (mkF m 42 #[.val (.ref a), .val (.ref en), .val (.int (Int32.ofNat t)), .val (.ref ky), .val (.int b), .val (.int (Int32.ofNat (3 * t))), .val (.int (1 : Int32))] [(.int (1 : Int32)), (.ref ky), (.int (fe (3 * t + 1)))]))) (fun _ k => XS.iload X1.here hx rfl (hb hby d12_40) rfl k) ?_
      refine own_st (U' := (T1.setTop (mkF m 43 #[.val (.ref a), .val (.ref en), .val (.int (Int32.ofNat t)), .val (.ref ky), .val (.int b), .val (.int (Int32.ofNat (3 * t))), .val (.int (1 : Int32))] [(.int k1), (.int (fe (3 * t + 1)))]))) (own_ldI X1 hx hZ e1 V_ky (j := (1 : Int32)) (i := 1) (by decide) rfl (by decide) (v := (.int k1)) rfl (g := (mkF m 42 #[.val (.ref a), .val (.ref en), .val (.int (Int32.ofNat t)), .val (.ref ky), .val (.int b), .val (.int (Int32.ofNat (3 * t))), .val (.int (1 : Int32))] [(.int (1 : Int32)), (.ref ky), (.int (fe (3 * t + 1)))])) rfl rfl (hb hby d12_42)) ?_
      by_cases c2 : (fe (3 * t + 1)) = k1
      · skip
        refine own_st (U' := (T1.setTop (mkF m 48 #[.val (.ref a), .val (.ref en), .val (.int (Int32.ofNat t)), .val (.ref ky), .val (.int b), .val (.int (Int32.ofNat (3 * t))), .val (.int (1 : Int32))] []))) (fun _ k => XS.icmpYes X1.here hx rfl (pc0 := 43) (pc' := 48) rfl (hb hby d12_43) rfl (teq c2).1 (by decide) (by decide) k) ?_
        refine own_st (U' := (T1.setTop (mkF m 51 #[.val (.ref a), .val (.ref en), .val (.int (Int32.ofNat t)), .val (.ref ky), .val (.int b), .val (.int (Int32.ofNat (3 * t))), .val (.int (2 : Int32))] []))) (fun _ k => XS.iinc X1.here hx rfl (hb hby d12_48) rfl (l' := #[.val (.ref a), .val (.ref en), .val (.int (Int32.ofNat t)), .val (.ref ky), .val (.int b), .val (.int (Int32.ofNat (3 * t))), .val (.int (2 : Int32))]) rfl k) ?_
        refine own_st (U' := (T1.setTop (mkF m 25 #[.val (.ref a), .val (.ref en), .val (.int (Int32.ofNat t)), .val (.ref ky), .val (.int b), .val (.int (Int32.ofNat (3 * t))), .val (.int (2 : Int32))] []))) (fun _ k => XS.goto X1.here hx rfl (pc0 := 51) (pc' := 25) rfl (hb hby d12_51) (by decide) (by decide) k) ?_
        refine own_st (U' := (T1.setTop (mkF m 27 #[.val (.ref a), .val (.ref en), .val (.int (Int32.ofNat t)), .val (.ref ky), .val (.int b), .val (.int (Int32.ofNat (3 * t))), .val (.int (2 : Int32))] [(.int (2 : Int32))]))) (fun _ k => XS.iload X1.here hx rfl (hb hby d12_25) rfl k) ?_
        refine own_st (U' := (T1.setTop (mkF m 28 #[.val (.ref a), .val (.ref en), .val (.int (Int32.ofNat t)), .val (.ref ky), .val (.int b), .val (.int (Int32.ofNat (3 * t))), .val (.int (2 : Int32))] [(.ref ky), (.int (2 : Int32))]))) (fun _ k => XS.aloadN X1.here hx rfl (hb hby d12_27) rfl rfl k) ?_
        refine own_st (U' := (T1.setTop (mkF m 29 #[.val (.ref a), .val (.ref en), .val (.int (Int32.ofNat t)), .val (.ref ky), .val (.int b), .val (.int (Int32.ofNat (3 * t))), .val (.int (2 : Int32))] [(.int (2 : Int32)), (.int (2 : Int32))]))) (own_len X1 hx hZ e1 V_ky (z := (2 : Int32)) rfl (g := (mkF m 28 #[.val (.ref a), .val (.ref en), .val (.int (Int32.ofNat t)), .val (.ref ky), .val (.int b), .val (.int (Int32.ofNat (3 * t))), .val (.int (2 : Int32))] [(.ref ky), (.int (2 : Int32))])) rfl rfl (hb hby d12_28)) ?_
        refine own_st (U' := (T1.setTop (mkF m 54 #[.val (.ref a), .val (.ref en), .val (.int (Int32.ofNat t)), .val (.ref ky), .val (.int b), .val (.int (Int32.ofNat (3 * t))), .val (.int (2 : Int32))] []))) (fun _ k => XS.icmpYes X1.here hx rfl (pc0 := 29) (pc' := 54) rfl (hb hby d12_29) rfl (flt (by decide)).2.1 (by decide) (by decide) k) ?_
        have q : own_b (own_hd fe t k0 k1 b) = 1 := by simp [own_b, own_hd, c0, c1, c2]
        refine own_st (U' := (T1.setTop (mkF m 55 #[.val (.ref a), .val (.ref en), .val (.int (Int32.ofNat t)), .val (.ref ky), .val (.int b), .val (.int (Int32.ofNat (3 * t))), .val (.int (2 : Int32))] [(.int (1 : Int32))]))) (fun _ k => XS.iconst X1.here hx rfl (hb hby d12_54) k) ?_
        exact own_retN X1 hx (t := .boolean) Bd.returns Bd.notSynchronized (by simp) rfl (hb hby d12_55) (by decide) (by decide) (⟨by rw [q], N0, e1⟩)
      · skip
        refine own_st (U' := (T1.setTop (mkF m 46 #[.val (.ref a), .val (.ref en), .val (.int (Int32.ofNat t)), .val (.ref ky), .val (.int b), .val (.int (Int32.ofNat (3 * t))), .val (.int (1 : Int32))] []))) (fun _ k => XS.icmpNo X1.here hx rfl (hb hby d12_43) rfl (feq c2).1 k) ?_
        have q : own_b (own_hd fe t k0 k1 b) = 0 := by simp [own_b, own_hd, c0, c1, c2]
        refine own_st (U' := (T1.setTop (mkF m 47 #[.val (.ref a), .val (.ref en), .val (.int (Int32.ofNat t)), .val (.ref ky), .val (.int b), .val (.int (Int32.ofNat (3 * t))), .val (.int (1 : Int32))] [(.int (0 : Int32))]))) (fun _ k => XS.iconst X1.here hx rfl (hb hby d12_46) k) ?_
        exact own_retN X1 hx (t := .boolean) Bd.returns Bd.notSynchronized (by simp) rfl (hb hby d12_47) (by decide) (by decide) (⟨by rw [q], N0, e1⟩)
    · skip
      refine own_st (U' := (T1.setTop (mkF m 46 #[.val (.ref a), .val (.ref en), .val (.int (Int32.ofNat t)), .val (.ref ky), .val (.int b), .val (.int (Int32.ofNat (3 * t))), .val (.int (0 : Int32))] []))) (fun _ k => XS.icmpNo X1.here hx rfl (hb hby d12_43) rfl (feq c1).1 k) ?_
      have q : own_b (own_hd fe t k0 k1 b) = 0 := by simp [own_b, own_hd, c0, c1]
      refine own_st (U' := (T1.setTop (mkF m 47 #[.val (.ref a), .val (.ref en), .val (.int (Int32.ofNat t)), .val (.ref ky), .val (.int b), .val (.int (Int32.ofNat (3 * t))), .val (.int (0 : Int32))] [(.int (0 : Int32))]))) (fun _ k => XS.iconst X1.here hx rfl (hb hby d12_46) k) ?_
      exact own_retN X1 hx (t := .boolean) Bd.returns Bd.notSynchronized (by simp) rfl (hb hby d12_47) (by decide) (by decide) (⟨by rw [q], N0, e1⟩)
  · skip
    refine own_st (U' := (T1.setTop (mkF m 20 #[.val (.ref a), .val (.ref en), .val (.int (Int32.ofNat t)), .val (.ref ky), .val (.int b), .val (.int (Int32.ofNat (3 * t))), .unset] []))) (fun _ k => XS.icmpNo X1.here hx rfl (hb hby d12_17) rfl (feq c0).1 k) ?_
    have q : own_b (own_hd fe t k0 k1 b) = 0 := by simp [own_b, own_hd, c0]
    refine own_st (U' := (T1.setTop (mkF m 21 #[.val (.ref a), .val (.ref en), .val (.int (Int32.ofNat t)), .val (.ref ky), .val (.int b), .val (.int (Int32.ofNat (3 * t))), .unset] [(.int (0 : Int32))]))) (fun _ k => XS.iconst X1.here hx rfl (hb hby d12_20) k) ?_
    exact own_retN X1 hx (t := .boolean) Bd.returns Bd.notSynchronized (by simp) rfl (hb hby d12_21) (by decide) (by decide) (⟨by rw [q], N0, e1⟩)
theorem d9_0 : decode prog_45_method_6_code 0 = .ok (.iload_n 2, 1) := by decide +kernel
theorem d9_1 : decode prog_45_method_6_code 1 = .ok (.istore 5, 2) := by decide +kernel
theorem d9_3 : decode prog_45_method_6_code 3 = .ok (.aload_n 1, 1) := by decide +kernel
theorem d9_4 : decode prog_45_method_6_code 4 = .ok (.astore 6, 2) := by decide +kernel
theorem d9_6 : decode prog_45_method_6_code 6 = .ok (.aload 6, 2) := by decide +kernel
theorem d9_8 : decode prog_45_method_6_code 8 = .ok (.arraylength, 1) := by decide +kernel
theorem d9_9 : decode prog_45_method_6_code 9 = .ok (.istore 7, 2) := by decide +kernel
theorem d9_11 : decode prog_45_method_6_code 11 = .ok (.iconst 0, 1) := by decide +kernel
theorem d9_12 : decode prog_45_method_6_code 12 = .ok (.istore 8, 2) := by decide +kernel
theorem d9_14 : decode prog_45_method_6_code 14 = .ok (.iload 8, 2) := by decide +kernel
theorem d9_16 : decode prog_45_method_6_code 16 = .ok (.iload 7, 2) := by decide +kernel
theorem d9_18 : decode prog_45_method_6_code 18 = .ok (.if_icmp .ge 26, 3) := by decide +kernel
theorem d9_21 : decode prog_45_method_6_code 21 = .ok (.aload 6, 2) := by decide +kernel
theorem d9_23 : decode prog_45_method_6_code 23 = .ok (.iload 8, 2) := by decide +kernel
theorem d9_25 : decode prog_45_method_6_code 25 = .ok (.iaload, 1) := by decide +kernel
theorem d9_26 : decode prog_45_method_6_code 26 = .ok (.istore 9, 2) := by decide +kernel
theorem d9_28 : decode prog_45_method_6_code 28 = .ok (.iload 5, 2) := by decide +kernel
theorem d9_30 : decode prog_45_method_6_code 30 = .ok (.iload 9, 2) := by decide +kernel
theorem d9_32 : decode prog_45_method_6_code 32 = .ok (.ixor, 1) := by decide +kernel
theorem d9_33 : decode prog_45_method_6_code 33 = .ok (.ldc 52, 2) := by decide +kernel
theorem d9_35 : decode prog_45_method_6_code 35 = .ok (.imul, 1) := by decide +kernel
theorem d9_36 : decode prog_45_method_6_code 36 = .ok (.istore 5, 2) := by decide +kernel
theorem d9_38 : decode prog_45_method_6_code 38 = .ok (.iinc 8 1, 3) := by decide +kernel
theorem d9_41 : decode prog_45_method_6_code 41 = .ok (.goto (-27), 3) := by decide +kernel
theorem d9_44 : decode prog_45_method_6_code 44 = .ok (.aload 4, 2) := by decide +kernel
theorem d9_46 : decode prog_45_method_6_code 46 = .ok (.arraylength, 1) := by decide +kernel
theorem d9_47 : decode prog_45_method_6_code 47 = .ok (.iconst 1, 1) := by decide +kernel
theorem d9_48 : decode prog_45_method_6_code 48 = .ok (.isub, 1) := by decide +kernel
theorem d9_49 : decode prog_45_method_6_code 49 = .ok (.istore 6, 2) := by decide +kernel
theorem d9_51 : decode prog_45_method_6_code 51 = .ok (.iload 5, 2) := by decide +kernel
theorem d9_53 : decode prog_45_method_6_code 53 = .ok (.iload 5, 2) := by decide +kernel
theorem d9_55 : decode prog_45_method_6_code 55 = .ok (.bipush 16, 2) := by decide +kernel
theorem d9_57 : decode prog_45_method_6_code 57 = .ok (.iushr, 1) := by decide +kernel
theorem d9_58 : decode prog_45_method_6_code 58 = .ok (.ixor, 1) := by decide +kernel
theorem d9_59 : decode prog_45_method_6_code 59 = .ok (.iload 6, 2) := by decide +kernel
theorem d9_61 : decode prog_45_method_6_code 61 = .ok (.iand, 1) := by decide +kernel
theorem d9_62 : decode prog_45_method_6_code 62 = .ok (.istore 7, 2) := by decide +kernel
theorem d9_64 : decode prog_45_method_6_code 64 = .ok (.aload 4, 2) := by decide +kernel
theorem d9_66 : decode prog_45_method_6_code 66 = .ok (.iload 7, 2) := by decide +kernel
theorem d9_68 : decode prog_45_method_6_code 68 = .ok (.laload, 1) := by decide +kernel
theorem d9_69 : decode prog_45_method_6_code 69 = .ok (.lconst 0, 1) := by decide +kernel
theorem d9_70 : decode prog_45_method_6_code 70 = .ok (.lcmp, 1) := by decide +kernel
theorem d9_71 : decode prog_45_method_6_code 71 = .ok (.ifCond .eq 27, 3) := by decide +kernel
theorem d9_74 : decode prog_45_method_6_code 74 = .ok (.aload_n 0, 1) := by decide +kernel
theorem d9_75 : decode prog_45_method_6_code 75 = .ok (.aload_n 3, 1) := by decide +kernel
theorem d9_76 : decode prog_45_method_6_code 76 = .ok (.iload 7, 2) := by decide +kernel
theorem d9_78 : decode prog_45_method_6_code 78 = .ok (.aload_n 1, 1) := by decide +kernel
theorem d9_79 : decode prog_45_method_6_code 79 = .ok (.iload_n 2, 1) := by decide +kernel
theorem d9_80 : decode prog_45_method_6_code 80 = .ok (.invokevirtual 44, 3) := by decide +kernel
theorem d9_83 : decode prog_45_method_6_code 83 = .ok (.ifCond .ne 15, 3) := by decide +kernel
theorem d9_86 : decode prog_45_method_6_code 86 = .ok (.iload 7, 2) := by decide +kernel
theorem d9_88 : decode prog_45_method_6_code 88 = .ok (.iconst 1, 1) := by decide +kernel
theorem d9_89 : decode prog_45_method_6_code 89 = .ok (.iadd, 1) := by decide +kernel
theorem d9_90 : decode prog_45_method_6_code 90 = .ok (.iload 6, 2) := by decide +kernel
theorem d9_92 : decode prog_45_method_6_code 92 = .ok (.iand, 1) := by decide +kernel
theorem d9_93 : decode prog_45_method_6_code 93 = .ok (.istore 7, 2) := by decide +kernel
theorem d9_95 : decode prog_45_method_6_code 95 = .ok (.goto (-31), 3) := by decide +kernel
theorem d9_98 : decode prog_45_method_6_code 98 = .ok (.iload 7, 2) := by decide +kernel
theorem d9_100 : decode prog_45_method_6_code 100 = .ok (.ireturn, 1) := by decide +kernel
theorem pn_rmSlot : plainName "com/example/quorum/quorum/FailedStates" = true := by first | (simp [plainName, overriddenIn]; done) | decide +kernel
theorem pd_d9 : parseMethodDescriptor "([II[I[J)I" = some ⟨[(.array .int), .int, (.array .int), (.array .long)], some .int⟩ := by decide +kernel
theorem ef_rmSlot (m : MethodId) (x0 : Addr) (x1 : Addr) (x2 : Int32) (x3 : Addr) (x4 : Addr) : entryFrame m #[(.ref x0), (.ref x1), (.int x2), (.ref x3), (.ref x4)] 10 = mkF m 0 #[.val (.ref x0), .val (.ref x1), .val (.int x2), .val (.ref x3), .val (.ref x4), .unset, .unset, .unset, .unset, .unset] [] := by first | (simp [entryFrame, mkF, argsToLocals, Value.category, maxLocals]; done) | rfl
def Q_rmSlot (Z : State) (a : Addr) (ky : Addr) (b : Int32) (en : Addr) (wd : Addr) (fe : Nat → Int32) (fw : Nat → Int64) (k0 : Int32) (k1 : Int32) (h0 : Heap) (n0 : Nat) (v : Option Value) (h : Heap) (L : List Loc) : Prop := v = some (.int (Int32.ofNat (own_find fe fw k0 k1 b))) ∧ Fr n0 L ∧ h = h0
set_option maxRecDepth 65536 in
set_option maxHeartbeats 40000000 in
theorem rmSlot (l : Launch) (Z : State) (a0 : Array Value) (hw : ∀ d ∈ tables_1, d.before a0 Z = true) (ws : List Jvm.Cond) (a : Addr) (ky : Addr) (b : Int32) (en : Addr) (wd : Addr) (fe : Nat → Int32) (fw : Nat → Int64) (k0 : Int32) (k1 : Int32) (h0 : Heap) (n0 : Nat) (Z0 : n0 ≤ h0.size) (hst : own_stop fe fw k0 k1 b (own_find fe fw k0 k1 b) = true) (E_a : Exa Z h0 a "com/example/quorum/quorum/FailedStates") (F_width : Fld Z h0 a "com/example/quorum/quorum/FailedStates" "width" "I" (.int 3)) (V_en : own_A Z h0 en .int 48 (fun j => .int (fe j))) (V_wd : own_A Z h0 wd .long 16 (fun j => .long (fw j))) (V_ky : own_A Z h0 ky .int 2 (own_L [k0, k1])) :
    MetFree l (⟨"com/example/quorum/quorum/FailedStates", "slot", "([II[I[J)I"⟩ : MethodName) (head1 (Jvm.Cond.code (⟨"com/example/quorum/quorum/FailedStates", "slot", "([II[I[J)I"⟩ : MethodName) prog_45_method_6_code 10 (some .int) :: ws) ({ frames := 1, cells := 0, slots := 0, locals := 18 } : Room)) (fun as1 U => as1 = #[(.ref a), (.ref ky), (.int b), (.ref en), (.ref wd)] ∧ Z.Warmed39 U.vm ∧ U.heap = h0) (fun _ _ _ _ _ => True) (fun _ U o U' => ∃ v L, o = .returned v ∧ Q_rmSlot Z a ky b en wd fe fw k0 k1 h0 n0 v U'.heap L ∧ FrameEnd U o U' L ({ frames := 1, cells := 0, slots := 0, locals := 18 } : Room).cells ({ frames := 1, cells := 0, slots := 0, locals := 18 } : Room).slots) := by
  refine MetFree.of_bodySF (plainFor_of_name pn_rmSlot) hisR ?_
  intro p e s m args below meth c s₁ Bd hml0 hP hK
  obtain ⟨rfl, hZ, hh⟩ := hP
  have hx := Bd.exec
  have hby := Bd.bytes
  have hml : c.maxLocals = 10 := hml0
  have hown : s.vm.findClass "com/example/quorum/quorum/FailedStates" = some m.cls := findClass_of_methodNamed Bd.named
  have hnm := (name_of_methodNamed Bd.named Bd.method).1
  have X0 : Stand p l e ({ frames := 1, cells := 0, slots := 0, locals := 18 } : Room) s m #[(.ref a), (.ref ky), (.int b), (.ref en), (.ref wd)] below meth c s₁ [] 0 0 := Stand.of_body Bd
  have e0 : s₁.heap = h0 := by rw [← hh, Bd.state]; rfl
  have N0 := Fr.nil n0
  show own_Ends p e s below (Q_rmSlot Z a ky b en wd fe fw k0 k1 h0 n0) ({ frames := 1, cells := 0, slots := 0, locals := 18 } : Room).cells ({ frames := 1, cells := 0, slots := 0, locals := 18 } : Room).slots (s₁.setTop (entryFrame m #[(.ref a), (.ref ky), (.int b), (.ref en), (.ref wd)] 10))
  refine own_st (U' := (s₁.setTop (mkF m 0 #[.val (.ref a), .val (.ref ky), .val (.int b), .val (.ref en), .val (.ref wd), .unset, .unset, .unset, .unset, .unset] []))) (fun _ k => castTop (ef_rmSlot m a ky b en wd) k) ?_
  have loop : ∀ (k t : Nat) (T : State) (locs : List Loc), t < 16 → own_stop fe fw k0 k1 b (own_probe (own_stop fe fw k0 k1 b) k t) = true → Stand p l e ({ frames := 1, cells := 0, slots := 0, locals := 18 } : Room) s m #[(.ref a), (.ref ky), (.int b), (.ref en), (.ref wd)] below meth c T locs 0 0 → Fr n0 locs → T.heap = h0 → own_Ends p e s below (fun v h L => v = some (.int (Int32.ofNat (own_probe (own_stop fe fw k0 k1 b) k t))) ∧ Fr n0 L ∧ h = h0) 0 0 (T.setTop (mkF m 64 #[.val (.ref a), .val (.ref ky), .val (.int b), .val (.ref en), .val (.ref wd), .val (.int (own_h1 (own_h1 b k0) k1)), .val (.int (15 : Int32)), .val (.int (Int32.ofNat t)), .val (.int (2 : Int32)), .val (.int k1)] [])) := by
    intro k
    induction k with
    | zero =>
      intro t T locs ht hst XL NL eL
      obtain ⟨j1, j2⟩ := own_ofN (show t < 48 by omega)
      refine own_st (U' := (T.setTop (mkF m 66 #[.val (.ref a), .val (.ref ky), .val (.int b), .val (.ref en), .val (.ref wd), .val (.int (own_h1 (own_h1 b k0) k1)), .val (.int (15 : Int32)), .val (.int (Int32.ofNat t)), .val (.int (2 : Int32)), .val (.int k1)] [(.ref wd)]))) (fun _ k => XS.aload XL.here hx rfl (hb hby d9_64) rfl rfl k) ?_
      refine own_st (U' := (T.setTop (mkF m 68 #[.val (.ref a), .val (.ref ky), .val (.int b), .val (.ref en), .val (.ref wd), .val (.int (own_h1 (own_h1 b k0) k1)), .val (.int (15 : Int32)), .val (.int (Int32.ofNat t)), .val (.int (2 : Int32)), .val (.int k1)] [(.int (Int32.ofNat t)), (.ref wd)]))) (fun _ k => XS.iload XL.here hx rfl (hb hby d9_66) rfl k) ?_
      refine own_st (U' := (T.setTop (mkF m 69 #[.val (.ref a), .val (.ref ky), .val (.int b), .val (.ref en), .val (.ref wd), .val (.int (own_h1 (own_h1 b k0) k1)), .val (.int (15 : Int32)), .val (.int (Int32.ofNat t)), .val (.int (2 : Int32)), .val (.int k1)] [(.long (fw t))]))) (own_ldJ XL hx hZ eL V_wd (j := (Int32.ofNat t)) (i := t) j1 j2 ht (v := (.long (fw t))) rfl (g := (mkF m 68 #[.val (.ref a), .val (.ref ky), .val (.int b), .val (.ref en), .val (.ref wd), .val (.int (own_h1 (own_h1 b k0) k1)), .val (.int (15 : Int32)), .val (.int (Int32.ofNat t)), .val (.int (2 : Int32)), .val (.int k1)] [(.int (Int32.ofNat t)), (.ref wd)])) rfl rfl (hb hby d9_68)) ?_
      refine own_st (U' := (T.setTop (mkF m 70 #[.val (.ref a), .val (.ref ky), .val (.int b), .val (.ref en), .val (.ref wd), .val (.int (own_h1 (own_h1 b k0) k1)), .val (.int (15 : Int32)), .val (.int (Int32.ofNat t)), .val (.int (2 : Int32)), .val (.int k1)] [(.long (0 : Int64)), (.long (fw t))]))) (fun _ k => XS.lconst XL.here hx rfl (hb hby d9_69) k) ?_
      refine own_st (U' := (T.setTop (mkF m 71 #[.val (.ref a), .val (.ref ky), .val (.int b), .val (.ref en), .val (.ref wd), .val (.int (own_h1 (own_h1 b k0) k1)), .val (.int (15 : Int32)), .val (.int (Int32.ofNat t)), .val (.int (2 : Int32)), .val (.int k1)] [(.int (lcmpW (fw t) (0 : Int64)))]))) (fun _ k => XS.lcmp XL.here hx rfl (hb hby d9_70) rfl k) ?_
      by_cases c1 : fw t = 0
      · skip
        refine own_st (U' := (T.setTop (mkF m 98 #[.val (.ref a), .val (.ref ky), .val (.int b), .val (.ref en), .val (.ref wd), .val (.int (own_h1 (own_h1 b k0) k1)), .val (.int (15 : Int32)), .val (.int (Int32.ofNat t)), .val (.int (2 : Int32)), .val (.int k1)] []))) (fun _ k => XS.ifYes XL.here hx rfl (pc0 := 71) (pc' := 98) rfl (hb hby d9_71) rfl ((if0 _ _).trans (teq ((own_lc _).mpr c1)).1) (by decide) (by decide) k) ?_
        have pq : own_probe (own_stop fe fw k0 k1 b) 0 t = t := rfl
        refine own_st (U' := (T.setTop (mkF m 100 #[.val (.ref a), .val (.ref ky), .val (.int b), .val (.ref en), .val (.ref wd), .val (.int (own_h1 (own_h1 b k0) k1)), .val (.int (15 : Int32)), .val (.int (Int32.ofNat t)), .val (.int (2 : Int32)), .val (.int k1)] [(.int (Int32.ofNat t))]))) (fun _ k => XS.iload XL.here hx rfl (hb hby d9_98) rfl k) ?_
        exact own_retI XL hx Bd.returns Bd.notSynchronized (hb hby d9_100) (by decide) (by decide) (⟨by rw [pq], NL, eL⟩)
      · skip
        refine own_st (U' := (T.setTop (mkF m 74 #[.val (.ref a), .val (.ref ky), .val (.int b), .val (.ref en), .val (.ref wd), .val (.int (own_h1 (own_h1 b k0) k1)), .val (.int (15 : Int32)), .val (.int (Int32.ofNat t)), .val (.int (2 : Int32)), .val (.int k1)] []))) (fun _ k => XS.ifNo XL.here hx rfl (hb hby d9_71) rfl ((if0 _ _).trans (feq (fun q => c1 ((own_lc _).mp q))).1) k) ?_
        refine own_st (U' := (T.setTop (mkF m 75 #[.val (.ref a), .val (.ref ky), .val (.int b), .val (.ref en), .val (.ref wd), .val (.int (own_h1 (own_h1 b k0) k1)), .val (.int (15 : Int32)), .val (.int (Int32.ofNat t)), .val (.int (2 : Int32)), .val (.int k1)] [(.ref a)]))) (fun _ k => XS.aloadN XL.here hx rfl (hb hby d9_74) rfl rfl k) ?_
        refine own_st (U' := (T.setTop (mkF m 76 #[.val (.ref a), .val (.ref ky), .val (.int b), .val (.ref en), .val (.ref wd), .val (.int (own_h1 (own_h1 b k0) k1)), .val (.int (15 : Int32)), .val (.int (Int32.ofNat t)), .val (.int (2 : Int32)), .val (.int k1)] [(.ref en), (.ref a)]))) (fun _ k => XS.aloadN XL.here hx rfl (hb hby d9_75) rfl rfl k) ?_
        refine own_st (U' := (T.setTop (mkF m 78 #[.val (.ref a), .val (.ref ky), .val (.int b), .val (.ref en), .val (.ref wd), .val (.int (own_h1 (own_h1 b k0) k1)), .val (.int (15 : Int32)), .val (.int (Int32.ofNat t)), .val (.int (2 : Int32)), .val (.int k1)] [(.int (Int32.ofNat t)), (.ref en), (.ref a)]))) (fun _ k => XS.iload XL.here hx rfl (hb hby d9_76) rfl k) ?_
        refine own_st (U' := (T.setTop (mkF m 79 #[.val (.ref a), .val (.ref ky), .val (.int b), .val (.ref en), .val (.ref wd), .val (.int (own_h1 (own_h1 b k0) k1)), .val (.int (15 : Int32)), .val (.int (Int32.ofNat t)), .val (.int (2 : Int32)), .val (.int k1)] [(.ref ky), (.int (Int32.ofNat t)), (.ref en), (.ref a)]))) (fun _ k => XS.aloadN XL.here hx rfl (hb hby d9_78) rfl rfl k) ?_
        refine own_st (U' := (T.setTop (mkF m 80 #[.val (.ref a), .val (.ref ky), .val (.int b), .val (.ref en), .val (.ref wd), .val (.int (own_h1 (own_h1 b k0) k1)), .val (.int (15 : Int32)), .val (.int (Int32.ofNat t)), .val (.int (2 : Int32)), .val (.int k1)] [(.int b), (.ref ky), (.int (Int32.ofNat t)), (.ref en), (.ref a)]))) (fun _ k => XS.iloadN XL.here hx rfl (hb hby d9_79) rfl k) ?_
        obtain ⟨cq2, q2, q2'⟩ := E_a.cell
        obtain ⟨_, _, ⟨T2, L2, k2, n2⟩, -, X2, ⟨Lc2, hQ2, l2, y2, z2⟩, st2⟩ := XL.privateBack hx (y := (⟨"com/example/quorum/quorum/FailedStates", "holds", "([II[II)Z"⟩ : MethodName)) hown (mvT hZ (hw _ (List.mem_of_getElem? (i := 61) rfl))) (mvT hZ (hw _ (List.mem_of_getElem? (i := 62) rfl))) (own_selp (z := (⟨"com/example/quorum/quorum/FailedStates", "add", "([II)V"⟩ : MethodName)) rfl (mvT hZ (hw _ (List.mem_of_getElem? (i := 36) rfl))) (Cond.privateMethod_at (mvP hZ (hw _ (List.mem_of_getElem? (i := 63) rfl)) (args := #[]))) (mvT hZ (hw _ (List.mem_of_getElem? (i := 62) rfl))) (by decide)) (Cond.privateMethod_at (mvP hZ (hw _ (List.mem_of_getElem? (i := 63) rfl)) (args := #[]))) (mvT hZ (hw _ (List.mem_of_getElem? (i := 64) rfl))) (by decide) (backOf (W := 0) (rmHolds l Z a0 hw [] a en t ky b fe k0 k1 h0 n0 Z0 ht F_width V_en V_ky) hZ (hw _ (List.mem_of_getElem? (i := 64) rfl)) (hw _ (List.mem_of_getElem? (i := 17) rfl)) (by decide) (by decide)) (g := (mkF m 80 #[.val (.ref a), .val (.ref ky), .val (.int b), .val (.ref en), .val (.ref wd), .val (.int (own_h1 (own_h1 b k0) k1)), .val (.int (15 : Int32)), .val (.int (Int32.ofNat t)), .val (.int (2 : Int32)), .val (.int k1)] [(.int b), (.ref ky), (.int (Int32.ofNat t)), (.ref en), (.ref a)])) rfl (by rw [hml]; rfl) (Steps.refl _) (a := a) (by rw [eL]; exact q2) q2' (argsL := [(.ref en), (.int (Int32.ofNat t)), (.ref ky), (.int b)]) (rest := []) (lenOf (pd_d12) rfl) rfl (by show 2 * 0 + _ ≤ _; exact Nat.le_of_eq rfl) (hb hby d9_80) (fun _ _ => ⟨rfl, eL, (Nat.le_of_ble_eq_true rfl), (Nat.le_of_ble_eq_true rfl)⟩)
        dsimp only [Pt.U, Pt.locs, Pt.cells, Pt.slots] at X2 l2 y2 z2 st2 hQ2
        subst l2 y2 z2
        obtain ⟨rfl, Nq2, eq2⟩ := hQ2
        have N2 := Fr.app NL Nq2
        refine own_tr (U' := (T2.setTop (mkF m 83 #[.val (.ref a), .val (.ref ky), .val (.int b), .val (.ref en), .val (.ref wd), .val (.int (own_h1 (own_h1 b k0) k1)), .val (.int (15 : Int32)), .val (.int (Int32.ofNat t)), .val (.int (2 : Int32)), .val (.int k1)] [(.int (own_b (own_hd fe t k0 k1 b)))]))) st2 ?_
        by_cases c2 : own_hd fe t k0 k1 b = true
        · skip
          refine own_st (U' := (T2.setTop (mkF m 98 #[.val (.ref a), .val (.ref ky), .val (.int b), .val (.ref en), .val (.ref wd), .val (.int (own_h1 (own_h1 b k0) k1)), .val (.int (15 : Int32)), .val (.int (Int32.ofNat t)), .val (.int (2 : Int32)), .val (.int k1)] []))) (fun _ k => XS.ifYes X2.here hx rfl (pc0 := 83) (pc' := 98) rfl (hb hby d9_83) rfl ((if0 _ _).trans (feq (fun q => by rw [(own_b0 _).mp q] at c2; cases c2)).2) (by decide) (by decide) k) ?_
          have pq : own_probe (own_stop fe fw k0 k1 b) 0 t = t := rfl
          refine own_st (U' := (T2.setTop (mkF m 100 #[.val (.ref a), .val (.ref ky), .val (.int b), .val (.ref en), .val (.ref wd), .val (.int (own_h1 (own_h1 b k0) k1)), .val (.int (15 : Int32)), .val (.int (Int32.ofNat t)), .val (.int (2 : Int32)), .val (.int k1)] [(.int (Int32.ofNat t))]))) (fun _ k => XS.iload X2.here hx rfl (hb hby d9_98) rfl k) ?_
          exact own_retI X2 hx Bd.returns Bd.notSynchronized (hb hby d9_100) (by decide) (by decide) (⟨by rw [pq], N2, eq2⟩)
        · skip
          exact absurd hst (by show ¬ own_stop fe fw k0 k1 b t = true; simp [own_stop, c1, c2])
    | succ k ih =>
      intro t T locs ht hst XL NL eL
      obtain ⟨j1, j2⟩ := own_ofN (show t < 48 by omega)
      refine own_st (U' := (T.setTop (mkF m 66 #[.val (.ref a), .val (.ref ky), .val (.int b), .val (.ref en), .val (.ref wd), .val (.int (own_h1 (own_h1 b k0) k1)), .val (.int (15 : Int32)), .val (.int (Int32.ofNat t)), .val (.int (2 : Int32)), .val (.int k1)] [(.ref wd)]))) (fun _ k => XS.aload XL.here hx rfl (hb hby d9_64) rfl rfl k) ?_
      refine own_st (U' := (T.setTop (mkF m 68 #[.val (.ref a), .val (.ref ky), .val (.int b), .val (.ref en), .val (.ref wd), .val (.int (own_h1 (own_h1 b k0) k1)), .val (.int (15 : Int32)), .val (.int (Int32.ofNat t)), .val (.int (2 : Int32)), .val (.int k1)] [(.int (Int32.ofNat t)), (.ref wd)]))) (fun _ k => XS.iload XL.here hx rfl (hb hby d9_66) rfl k) ?_
      refine own_st (U' := (T.setTop (mkF m 69 #[.val (.ref a), .val (.ref ky), .val (.int b), .val (.ref en), .val (.ref wd), .val (.int (own_h1 (own_h1 b k0) k1)), .val (.int (15 : Int32)), .val (.int (Int32.ofNat t)), .val (.int (2 : Int32)), .val (.int k1)] [(.long (fw t))]))) (own_ldJ XL hx hZ eL V_wd (j := (Int32.ofNat t)) (i := t) j1 j2 ht (v := (.long (fw t))) rfl (g := (mkF m 68 #[.val (.ref a), .val (.ref ky), .val (.int b), .val (.ref en), .val (.ref wd), .val (.int (own_h1 (own_h1 b k0) k1)), .val (.int (15 : Int32)), .val (.int (Int32.ofNat t)), .val (.int (2 : Int32)), .val (.int k1)] [(.int (Int32.ofNat t)), (.ref wd)])) rfl rfl (hb hby d9_68)) ?_
      refine own_st (U' := (T.setTop (mkF m 70 #[.val (.ref a), .val (.ref ky), .val (.int b), .val (.ref en), .val (.ref wd), .val (.int (own_h1 (own_h1 b k0) k1)), .val (.int (15 : Int32)), .val (.int (Int32.ofNat t)), .val (.int (2 : Int32)), .val (.int k1)] [(.long (0 : Int64)), (.long (fw t))]))) (fun _ k => XS.lconst XL.here hx rfl (hb hby d9_69) k) ?_
      refine own_st (U' := (T.setTop (mkF m 71 #[.val (.ref a), .val (.ref ky), .val (.int b), .val (.ref en), .val (.ref wd), .val (.int (own_h1 (own_h1 b k0) k1)), .val (.int (15 : Int32)), .val (.int (Int32.ofNat t)), .val (.int (2 : Int32)), .val (.int k1)] [(.int (lcmpW (fw t) (0 : Int64)))]))) (fun _ k => XS.lcmp XL.here hx rfl (hb hby d9_70) rfl k) ?_
      by_cases c1 : fw t = 0
      · skip
        refine own_st (U' := (T.setTop (mkF m 98 #[.val (.ref a), .val (.ref ky), .val (.int b), .val (.ref en), .val (.ref wd), .val (.int (own_h1 (own_h1 b k0) k1)), .val (.int (15 : Int32)), .val (.int (Int32.ofNat t)), .val (.int (2 : Int32)), .val (.int k1)] []))) (fun _ k => XS.ifYes XL.here hx rfl (pc0 := 71) (pc' := 98) rfl (hb hby d9_71) rfl ((if0 _ _).trans (teq ((own_lc _).mpr c1)).1) (by decide) (by decide) k) ?_
        have pq : own_probe (own_stop fe fw k0 k1 b) (k + 1) t = t := by simp [own_probe, own_stop, c1]
        refine own_st (U' := (T.setTop (mkF m 100 #[.val (.ref a), .val (.ref ky), .val (.int b), .val (.ref en), .val (.ref wd), .val (.int (own_h1 (own_h1 b k0) k1)), .val (.int (15 : Int32)), .val (.int (Int32.ofNat t)), .val (.int (2 : Int32)), .val (.int k1)] [(.int (Int32.ofNat t))]))) (fun _ k => XS.iload XL.here hx rfl (hb hby d9_98) rfl k) ?_
        exact own_retI XL hx Bd.returns Bd.notSynchronized (hb hby d9_100) (by decide) (by decide) (⟨by rw [pq], NL, eL⟩)
      · skip
        refine own_st (U' := (T.setTop (mkF m 74 #[.val (.ref a), .val (.ref ky), .val (.int b), .val (.ref en), .val (.ref wd), .val (.int (own_h1 (own_h1 b k0) k1)), .val (.int (15 : Int32)), .val (.int (Int32.ofNat t)), .val (.int (2 : Int32)), .val (.int k1)] []))) (fun _ k => XS.ifNo XL.here hx rfl (hb hby d9_71) rfl ((if0 _ _).trans (feq (fun q => c1 ((own_lc _).mp q))).1) k) ?_
        refine own_st (U' := (T.setTop (mkF m 75 #[.val (.ref a), .val (.ref ky), .val (.int b), .val (.ref en), .val (.ref wd), .val (.int (own_h1 (own_h1 b k0) k1)), .val (.int (15 : Int32)), .val (.int (Int32.ofNat t)), .val (.int (2 : Int32)), .val (.int k1)] [(.ref a)]))) (fun _ k => XS.aloadN XL.here hx rfl (hb hby d9_74) rfl rfl k) ?_
        refine own_st (U' := (T.setTop (mkF m 76 #[.val (.ref a), .val (.ref ky), .val (.int b), .val (.ref en), .val (.ref wd), .val (.int (own_h1 (own_h1 b k0) k1)), .val (.int (15 : Int32)), .val (.int (Int32.ofNat t)), .val (.int (2 : Int32)), .val (.int k1)] [(.ref en), (.ref a)]))) (fun _ k => XS.aloadN XL.here hx rfl (hb hby d9_75) rfl rfl k) ?_
        refine own_st (U' := (T.setTop (mkF m 78 #[.val (.ref a), .val (.ref ky), .val (.int b), .val (.ref en), .val (.ref wd), .val (.int (own_h1 (own_h1 b k0) k1)), .val (.int (15 : Int32)), .val (.int (Int32.ofNat t)), .val (.int (2 : Int32)), .val (.int k1)] [(.int (Int32.ofNat t)), (.ref en), (.ref a)]))) (fun _ k => XS.iload XL.here hx rfl (hb hby d9_76) rfl k) ?_
        refine own_st (U' := (T.setTop (mkF m 79 #[.val (.ref a), .val (.ref ky), .val (.int b), .val (.ref en), .val (.ref wd), .val (.int (own_h1 (own_h1 b k0) k1)), .val (.int (15 : Int32)), .val (.int (Int32.ofNat t)), .val (.int (2 : Int32)), .val (.int k1)] [(.ref ky), (.int (Int32.ofNat t)), (.ref en), (.ref a)]))) (fun _ k => XS.aloadN XL.here hx rfl (hb hby d9_78) rfl rfl k) ?_
        refine own_st (U' := (T.setTop (mkF m 80 #[.val (.ref a), .val (.ref ky), .val (.int b), .val (.ref en), .val (.ref wd), .val (.int (own_h1 (own_h1 b k0) k1)), .val (.int (15 : Int32)), .val (.int (Int32.ofNat t)), .val (.int (2 : Int32)), .val (.int k1)] [(.int b), (.ref ky), (.int (Int32.ofNat t)), (.ref en), (.ref a)]))) (fun _ k => XS.iloadN XL.here hx rfl (hb hby d9_79) rfl k) ?_
        obtain ⟨cq3, q3, q3'⟩ := E_a.cell
        obtain ⟨_, _, ⟨T3, L3, k3, n3⟩, -, X3, ⟨Lc3, hQ3, l3, y3, z3⟩, st3⟩ := XL.privateBack hx (y := (⟨"com/example/quorum/quorum/FailedStates", "holds", "([II[II)Z"⟩ : MethodName)) hown (mvT hZ (hw _ (List.mem_of_getElem? (i := 61) rfl))) (mvT hZ (hw _ (List.mem_of_getElem? (i := 62) rfl))) (own_selp (z := (⟨"com/example/quorum/quorum/FailedStates", "add", "([II)V"⟩ : MethodName)) rfl (mvT hZ (hw _ (List.mem_of_getElem? (i := 36) rfl))) (Cond.privateMethod_at (mvP hZ (hw _ (List.mem_of_getElem? (i := 63) rfl)) (args := #[]))) (mvT hZ (hw _ (List.mem_of_getElem? (i := 62) rfl))) (by decide)) (Cond.privateMethod_at (mvP hZ (hw _ (List.mem_of_getElem? (i := 63) rfl)) (args := #[]))) (mvT hZ (hw _ (List.mem_of_getElem? (i := 64) rfl))) (by decide) (backOf (W := 0) (rmHolds l Z a0 hw [] a en t ky b fe k0 k1 h0 n0 Z0 ht F_width V_en V_ky) hZ (hw _ (List.mem_of_getElem? (i := 64) rfl)) (hw _ (List.mem_of_getElem? (i := 17) rfl)) (by decide) (by decide)) (g := (mkF m 80 #[.val (.ref a), .val (.ref ky), .val (.int b), .val (.ref en), .val (.ref wd), .val (.int (own_h1 (own_h1 b k0) k1)), .val (.int (15 : Int32)), .val (.int (Int32.ofNat t)), .val (.int (2 : Int32)), .val (.int k1)] [(.int b), (.ref ky), (.int (Int32.ofNat t)), (.ref en), (.ref a)])) rfl (by rw [hml]; rfl) (Steps.refl _) (a := a) (by rw [eL]; exact q3) q3' (argsL := [(.ref en), (.int (Int32.ofNat t)), (.ref ky), (.int b)]) (rest := []) (lenOf (pd_d12) rfl) rfl (by show 2 * 0 + _ ≤ _; exact Nat.le_of_eq rfl) (hb hby d9_80) (fun _ _ => ⟨rfl, eL, (Nat.le_of_ble_eq_true rfl), (Nat.le_of_ble_eq_true rfl)⟩)
        dsimp only [Pt.U, Pt.locs, Pt.cells, Pt.slots] at X3 l3 y3 z3 st3 hQ3
        subst l3 y3 z3
        obtain ⟨rfl, Nq3, eq3⟩ := hQ3
        have N3 := Fr.app NL Nq3
        refine own_tr (U' := (T3.setTop (mkF m 83 #[.val (.ref a), .val (.ref ky), .val (.int b), .val (.ref en), .val (.ref wd), .val (.int (own_h1 (own_h1 b k0) k1)), .val (.int (15 : Int32)), .val (.int (Int32.ofNat t)), .val (.int (2 : Int32)), .val (.int k1)] [(.int (own_b (own_hd fe t k0 k1 b)))]))) st3 ?_
        by_cases c2 : own_hd fe t k0 k1 b = true
        · skip
          refine own_st (U' := (T3.setTop (mkF m 98 #[.val (.ref a), .val (.ref ky), .val (.int b), .val (.ref en), .val (.ref wd), .val (.int (own_h1 (own_h1 b k0) k1)), .val (.int (15 : Int32)), .val (.int (Int32.ofNat t)), .val (.int (2 : Int32)), .val (.int k1)] []))) (fun _ k => XS.ifYes X3.here hx rfl (pc0 := 83) (pc' := 98) rfl (hb hby d9_83) rfl ((if0 _ _).trans (feq (fun q => by rw [(own_b0 _).mp q] at c2; cases c2)).2) (by decide) (by decide) k) ?_
          have pq : own_probe (own_stop fe fw k0 k1 b) (k + 1) t = t := by simp [own_probe, own_stop, c1, c2]
          refine own_st (U' := (T3.setTop (mkF m 100 #[.val (.ref a), .val (.ref ky), .val (.int b), .val (.ref en), .val (.ref wd), .val (.int (own_h1 (own_h1 b k0) k1)), .val (.int (15 : Int32)), .val (.int (Int32.ofNat t)), .val (.int (2 : Int32)), .val (.int k1)] [(.int (Int32.ofNat t))]))) (fun _ k => XS.iload X3.here hx rfl (hb hby d9_98) rfl k) ?_
          exact own_retI X3 hx Bd.returns Bd.notSynchronized (hb hby d9_100) (by decide) (by decide) (⟨by rw [pq], N3, eq3⟩)
        · skip
          refine own_st (U' := (T3.setTop (mkF m 86 #[.val (.ref a), .val (.ref ky), .val (.int b), .val (.ref en), .val (.ref wd), .val (.int (own_h1 (own_h1 b k0) k1)), .val (.int (15 : Int32)), .val (.int (Int32.ofNat t)), .val (.int (2 : Int32)), .val (.int k1)] []))) (fun _ k => XS.ifNo X3.here hx rfl (hb hby d9_83) rfl ((if0 _ _).trans (teq ((own_b0 _).mpr (by simpa using c2))).2) k) ?_
          refine own_st (U' := (T3.setTop (mkF m 88 #[.val (.ref a), .val (.ref ky), .val (.int b), .val (.ref en), .val (.ref wd), .val (.int (own_h1 (own_h1 b k0) k1)), .val (.int (15 : Int32)), .val (.int (Int32.ofNat t)), .val (.int (2 : Int32)), .val (.int k1)] [(.int (Int32.ofNat t))]))) (fun _ k => XS.iload X3.here hx rfl (hb hby d9_86) rfl k) ?_
          refine own_st (U' := (T3.setTop (mkF m 89 #[.val (.ref a), .val (.ref ky), .val (.int b), .val (.ref en), .val (.ref wd), .val (.int (own_h1 (own_h1 b k0) k1)), .val (.int (15 : Int32)), .val (.int (Int32.ofNat t)), .val (.int (2 : Int32)), .val (.int k1)] [(.int (1 : Int32)), (.int (Int32.ofNat t))]))) (fun _ k => XS.iconst X3.here hx rfl (hb hby d9_88) k) ?_
          refine own_st (U' := (T3.setTop (mkF m 90 #[.val (.ref a), .val (.ref ky), .val (.int b), .val (.ref en), .val (.ref wd), .val (.int (own_h1 (own_h1 b k0) k1)), .val (.int (15 : Int32)), .val (.int (Int32.ofNat t)), .val (.int (2 : Int32)), .val (.int k1)] [(.int ((Int32.ofNat t) + (1 : Int32)))]))) (fun _ k => XS.iadd X3.here hx rfl (hb hby d9_89) rfl k) ?_
          refine own_st (U' := (T3.setTop (mkF m 92 #[.val (.ref a), .val (.ref ky), .val (.int b), .val (.ref en), .val (.ref wd), .val (.int (own_h1 (own_h1 b k0) k1)), .val (.int (15 : Int32)), .val (.int (Int32.ofNat t)), .val (.int (2 : Int32)), .val (.int k1)] [(.int (15 : Int32)), (.int ((Int32.ofNat t) + (1 : Int32)))]))) (fun _ k => XS.iload X3.here hx rfl (hb hby d9_90) rfl k) ?_
          refine own_st (U' := (T3.setTop (mkF m 93 #[.val (.ref a), .val (.ref ky), .val (.int b), .val (.ref en), .val (.ref wd), .val (.int (own_h1 (own_h1 b k0) k1)), .val (.int (15 : Int32)), .val (.int (Int32.ofNat t)), .val (.int (2 : Int32)), .val (.int k1)] [(.int (((Int32.ofNat t) + (1 : Int32)) &&& (15 : Int32)))]))) (fun _ k => XS.iand X3.here hx rfl (hb hby d9_92) rfl k) ?_
          rw [own_pl5 ht]
          refine own_st (U' := (T3.setTop (mkF m 95 #[.val (.ref a), .val (.ref ky), .val (.int b), .val (.ref en), .val (.ref wd), .val (.int (own_h1 (own_h1 b k0) k1)), .val (.int (15 : Int32)), .val (.int (Int32.ofNat ((t + 1) % 16))), .val (.int (2 : Int32)), .val (.int k1)] []))) (fun _ k => XS.istore X3.here hx rfl (hb hby d9_93) rfl (l' := #[.val (.ref a), .val (.ref ky), .val (.int b), .val (.ref en), .val (.ref wd), .val (.int (own_h1 (own_h1 b k0) k1)), .val (.int (15 : Int32)), .val (.int (Int32.ofNat ((t + 1) % 16))), .val (.int (2 : Int32)), .val (.int k1)]) rfl k) ?_
          refine own_st (U' := (T3.setTop (mkF m 64 #[.val (.ref a), .val (.ref ky), .val (.int b), .val (.ref en), .val (.ref wd), .val (.int (own_h1 (own_h1 b k0) k1)), .val (.int (15 : Int32)), .val (.int (Int32.ofNat ((t + 1) % 16))), .val (.int (2 : Int32)), .val (.int k1)] []))) (fun _ k => XS.goto X3.here hx rfl (pc0 := 95) (pc' := 64) rfl (hb hby d9_95) (by decide) (by decide) k) ?_
          have pq : own_probe (own_stop fe fw k0 k1 b) (k + 1) t = own_probe (own_stop fe fw k0 k1 b) k ((t + 1) % 16) := by simp [own_probe, own_stop, c1, c2]
          rw [pq] at hst ⊢
          exact ih _ _ _ (Nat.mod_lt _ (by decide)) hst X3 N3 eq3
  refine own_st (U' := (s₁.setTop (mkF m 1 #[.val (.ref a), .val (.ref ky), .val (.int b), .val (.ref en), .val (.ref wd), .unset, .unset, .unset, .unset, .unset] [(.int b)]))) (fun _ k => XS.iloadN X0.here hx rfl (hb hby d9_0) rfl k) ?_
  refine own_st (U' := (s₁.setTop (mkF m 3 #[.val (.ref a), .val (.ref ky), .val (.int b), .val (.ref en), .val (.ref wd), .val (.int b), .unset, .unset, .unset, .unset] []))) (fun _ k => XS.istore X0.here hx rfl (hb hby d9_1) rfl (l' := #[.val (.ref a), .val (.ref ky), .val (.int b), .val (.ref en), .val (.ref wd), .val (.int b), .unset, .unset, .unset, .unset]) rfl k) ?_
  refine own_st (U' := (s₁.setTop (mkF m 4 #[.val (.ref a), .val (.ref ky), .val (.int b), .val (.ref en), .val (.ref wd), .val (.int b), .unset, .unset, .unset, .unset] [(.ref ky)]))) (fun _ k => XS.aloadN X0.here hx rfl (hb hby d9_3) rfl rfl k) ?_
  refine own_st (U' := (s₁.setTop (mkF m 6 #[.val (.ref a), .val (.ref ky), .val (.int b), .val (.ref en), .val (.ref wd), .val (.int b), .val (.ref ky), .unset, .unset, .unset] []))) (fun _ k => XS.astore X0.here hx rfl (hb hby d9_4) rfl rfl (l' := #[.val (.ref a), .val (.ref ky), .val (.int b), .val (.ref en), .val (.ref wd), .val (.int b), .val (.ref ky), .unset, .unset, .unset]) rfl k) ?_
  refine own_st (U' := (s₁.setTop (mkF m 8 #[.val (.ref a), .val (.ref ky), .val (.int b), .val (.ref en), .val (.ref wd), .val (.int b), .val (.ref ky), .unset, .unset, .unset] [(.ref ky)]))) (fun _ k => XS.aload X0.here hx rfl (hb hby d9_6) rfl rfl k) ?_
  refine own_st (U' := (s₁.setTop (mkF m 9 #[.val (.ref a), .val (.ref ky), .val (.int b), .val (.ref en), .val (.ref wd), .val (.int b), .val (.ref ky), .unset, .unset, .unset] [(.int (2 : Int32))]))) (own_len X0 hx hZ e0 V_ky (z := (2 : Int32)) rfl (g := (mkF m 8 #[.val (.ref a), .val (.ref ky), .val (.int b), .val (.ref en), .val (.ref wd), .val (.int b), .val (.ref ky), .unset, .unset, .unset] [(.ref ky)])) rfl rfl (hb hby d9_8)) ?_
  refine own_st (U' := (s₁.setTop (mkF m 11 #[.val (.ref a), .val (.ref ky), .val (.int b), .val (.ref en), .val (.ref wd), .val (.int b), .val (.ref ky), .val (.int (2 : Int32)), .unset, .unset] []))) (fun _ k => XS.istore X0.here hx rfl (hb hby d9_9) rfl (l' := #[.val (.ref a), .val (.ref ky), .val (.int b), .val (.ref en), .val (.ref wd), .val (.int b), .val (.ref ky), .val (.int (2 : Int32)), .unset, .unset]) rfl k) ?_
  refine own_st (U' := (s₁.setTop (mkF m 12 #[.val (.ref a), .val (.ref ky), .val (.int b), .val (.ref en), .val (.ref wd), .val (.int b), .val (.ref ky), .val (.int (2 : Int32)), .unset, .unset] [(.int (0 : Int32))]))) (fun _ k => XS.iconst X0.here hx rfl (hb hby d9_11) k) ?_
  refine own_st (U' := (s₁.setTop (mkF m 14 #[.val (.ref a), .val (.ref ky), .val (.int b), .val (.ref en), .val (.ref wd), .val (.int b), .val (.ref ky), .val (.int (2 : Int32)), .val (.int (0 : Int32)), .unset] []))) (fun _ k => XS.istore X0.here hx rfl (hb hby d9_12) rfl (l' := #[.val (.ref a), .val (.ref ky), .val (.int b), .val (.ref en), .val (.ref wd), .val (.int b), .val (.ref ky), .val (.int (2 : Int32)), .val (.int (0 : Int32)), .unset]) rfl k) ?_
  refine own_st (U' := (s₁.setTop (mkF m 16 #[.val (.ref a), .val (.ref ky), .val (.int b), .val (.ref en), .val (.ref wd), .val (.int b), .val (.ref ky), .val (.int (2 : Int32)), .val (.int (0 : Int32)), .unset] [(.int (0 : Int32))]))) (fun _ k => XS.iload X0.here hx rfl (hb hby d9_14) rfl k) ?_
  refine own_st (U' := (s₁.setTop (mkF m 18 #[.val (.ref a), .val (.ref ky), .val (.int b), .val (.ref en), .val (.ref wd), .val (.int b), .val (.ref ky), .val (.int (2 : Int32)), .val (.int (0 : Int32)), .unset] [(.int (2 : Int32)), (.int (0 : Int32))]))) (fun _ k => XS.iload X0.here hx rfl (hb hby d9_16) rfl k) ?_
  refine own_st (U' := (s₁.setTop (mkF m 21 #[.val (.ref a), .val (.ref ky), .val (.int b), .val (.ref en), .val (.ref wd), .val (.int b), .val (.ref ky), .val (.int (2 : Int32)), .val (.int (0 : Int32)), .unset] []))) (fun _ k => XS.icmpNo X0.here hx rfl (hb hby d9_18) rfl (tlt (by decide)).2.1 k) ?_
  refine own_st (U' := (s₁.setTop (mkF m 23 #[.val (.ref a), .val (.ref ky), .val (.int b), .val (.ref en), .val (.ref wd), .val (.int b), .val (.ref ky), .val (.int (2 : Int32)), .val (.int (0 : Int32)), .unset] [(.ref ky)]))) (fun _ k => XS.aload X0.here hx rfl (hb hby d9_21) rfl rfl k) ?_
  refine own_st (U' := (s₁.setTop (mkF m 25 #[.val (.ref a), .val (.ref ky), .val (.int b), .val (.ref en), .val (.ref wd), .val (.int b), .val (.ref ky), .val (.int (2 : Int32)), .val (.int (0 : Int32)), .unset] [(.int (0 : Int32)), (.ref ky)]))) (fun _ k => XS.iload X0.here hx rfl (hb hby d9_23) rfl k) ?_
  refine own_st (U' := (s₁.setTop (mkF m 26 #[.val (.ref a), .val (.ref ky), .val (.int b), .val (.ref en), .val (.ref wd), .val (.int b), .val (.ref ky), .val (.int (2 : Int32)), .val (.int (0 : Int32)), .unset] [(.int k0)]))) (own_ldI X0 hx hZ e0 V_ky (j := (0 : Int32)) (i := 0) (by decide) rfl (by decide) (v := (.int k0)) rfl (g := (mkF m 25 #[.val (.ref a), .val (.ref ky), .val (.int b), .val (.ref en), .val (.ref wd), .val (.int b), .val (.ref ky), .val (.int (2 : Int32)), .val (.int (0 : Int32)), .unset] [(.int (0 : Int32)), (.ref ky)])) rfl rfl (hb hby d9_25)) ?_
  refine own_st (U' := (s₁.setTop (mkF m 28 #[.val (.ref a), .val (.ref ky), .val (.int b), .val (.ref en), .val (.ref wd), .val (.int b), .val (.ref ky), .val (.int (2 : Int32)), .val (.int (0 : Int32)), .val (.int k0)] []))) (fun _ k => XS.istore X0.here hx rfl (hb hby d9_26) rfl (l' := #[.val (.ref a), .val (.ref ky), .val (.int b), .val (.ref en), .val (.ref wd), .val (.int b), .val (.ref ky), .val (.int (2 : Int32)), .val (.int (0 : Int32)), .val (.int k0)]) rfl k) ?_
  refine own_st (U' := (s₁.setTop (mkF m 30 #[.val (.ref a), .val (.ref ky), .val (.int b), .val (.ref en), .val (.ref wd), .val (.int b), .val (.ref ky), .val (.int (2 : Int32)), .val (.int (0 : Int32)), .val (.int k0)] [(.int b)]))) (fun _ k => XS.iload X0.here hx rfl (hb hby d9_28) rfl k) ?_
  refine own_st (U' := (s₁.setTop (mkF m 32 #[.val (.ref a), .val (.ref ky), .val (.int b), .val (.ref en), .val (.ref wd), .val (.int b), .val (.ref ky), .val (.int (2 : Int32)), .val (.int (0 : Int32)), .val (.int k0)] [(.int k0), (.int b)]))) (fun _ k => XS.iload X0.here hx rfl (hb hby d9_30) rfl k) ?_
  refine own_st (U' := (s₁.setTop (mkF m 33 #[.val (.ref a), .val (.ref ky), .val (.int b), .val (.ref en), .val (.ref wd), .val (.int b), .val (.ref ky), .val (.int (2 : Int32)), .val (.int (0 : Int32)), .val (.int k0)] [(.int (b ^^^ k0))]))) (fun _ k => XS.ixor X0.here hx rfl (hb hby d9_32) rfl k) ?_
  refine own_st (U' := (s₁.setTop (mkF m 35 #[.val (.ref a), .val (.ref ky), .val (.int b), .val (.ref en), .val (.ref wd), .val (.int b), .val (.ref ky), .val (.int (2 : Int32)), .val (.int (0 : Int32)), .val (.int k0)] [(.int (-1640531527 : Int32)), (.int (b ^^^ k0))]))) (fun _ k => Jvm.Stand.ldcI X0 hx hown (mvT hZ (hw _ (List.mem_of_getElem? (i := 46) rfl))) rfl (hb hby d9_33) k) ?_
  refine own_st (U' := (s₁.setTop (mkF m 36 #[.val (.ref a), .val (.ref ky), .val (.int b), .val (.ref en), .val (.ref wd), .val (.int b), .val (.ref ky), .val (.int (2 : Int32)), .val (.int (0 : Int32)), .val (.int k0)] [(.int (own_h1 b k0))]))) (fun _ k => XS.imul X0.here hx rfl (hb hby d9_35) rfl k) ?_
  refine own_st (U' := (s₁.setTop (mkF m 38 #[.val (.ref a), .val (.ref ky), .val (.int b), .val (.ref en), .val (.ref wd), .val (.int (own_h1 b k0)), .val (.ref ky), .val (.int (2 : Int32)), .val (.int (0 : Int32)), .val (.int k0)] []))) (fun _ k => XS.istore X0.here hx rfl (hb hby d9_36) rfl (l' := #[.val (.ref a), .val (.ref ky), .val (.int b), .val (.ref en), .val (.ref wd), .val (.int (own_h1 b k0)), .val (.ref ky), .val (.int (2 : Int32)), .val (.int (0 : Int32)), .val (.int k0)]) rfl k) ?_
  refine own_st (U' := (s₁.setTop (mkF m 41 #[.val (.ref a), .val (.ref ky), .val (.int b), .val (.ref en), .val (.ref wd), .val (.int (own_h1 b k0)), .val (.ref ky), .val (.int (2 : Int32)), .val (.int (1 : Int32)), .val (.int k0)] []))) (fun _ k => XS.iinc X0.here hx rfl (hb hby d9_38) rfl (l' := #[.val (.ref a), .val (.ref ky), .val (.int b), .val (.ref en), .val (.ref wd), .val (.int (own_h1 b k0)), .val (.ref ky), .val (.int (2 : Int32)), .val (.int (1 : Int32)), .val (.int k0)]) rfl k) ?_
  refine own_st (U' := (s₁.setTop (mkF m 14 #[.val (.ref a), .val (.ref ky), .val (.int b), .val (.ref en), .val (.ref wd), .val (.int (own_h1 b k0)), .val (.ref ky), .val (.int (2 : Int32)), .val (.int (1 : Int32)), .val (.int k0)] []))) (fun _ k => XS.goto X0.here hx rfl (pc0 := 41) (pc' := 14) rfl (hb hby d9_41) (by decide) (by decide) k) ?_
  refine own_st (U' := (s₁.setTop (mkF m 16 #[.val (.ref a), .val (.ref ky), .val (.int b), .val (.ref en), .val (.ref wd), .val (.int (own_h1 b k0)), .val (.ref ky), .val (.int (2 : Int32)), .val (.int (1 : Int32)), .val (.int k0)] [(.int (1 : Int32))]))) (fun _ k => XS.iload X0.here hx rfl (hb hby d9_14) rfl k) ?_
  refine own_st (U' := (s₁.setTop (mkF m 18 #[.val (.ref a), .val (.ref ky), .val (.int b), .val (.ref en), .val (.ref wd), .val (.int (own_h1 b k0)), .val (.ref ky), .val (.int (2 : Int32)), .val (.int (1 : Int32)), .val (.int k0)] [(.int (2 : Int32)), (.int (1 : Int32))]))) (fun _ k => XS.iload X0.here hx rfl (hb hby d9_16) rfl k) ?_
  refine own_st (U' := (s₁.setTop (mkF m 21 #[.val (.ref a), .val (.ref ky), .val (.int b), .val (.ref en), .val (.ref wd), .val (.int (own_h1 b k0)), .val (.ref ky), .val (.int (2 : Int32)), .val (.int (1 : Int32)), .val (.int k0)] []))) (fun _ k => XS.icmpNo X0.here hx rfl (hb hby d9_18) rfl (tlt (by decide)).2.1 k) ?_
  refine own_st (U' := (s₁.setTop (mkF m 23 #[.val (.ref a), .val (.ref ky), .val (.int b), .val (.ref en), .val (.ref wd), .val (.int (own_h1 b k0)), .val (.ref ky), .val (.int (2 : Int32)), .val (.int (1 : Int32)), .val (.int k0)] [(.ref ky)]))) (fun _ k => XS.aload X0.here hx rfl (hb hby d9_21) rfl rfl k) ?_
  refine own_st (U' := (s₁.setTop (mkF m 25 #[.val (.ref a), .val (.ref ky), .val (.int b), .val (.ref en), .val (.ref wd), .val (.int (own_h1 b k0)), .val (.ref ky), .val (.int (2 : Int32)), .val (.int (1 : Int32)), .val (.int k0)] [(.int (1 : Int32)), (.ref ky)]))) (fun _ k => XS.iload X0.here hx rfl (hb hby d9_23) rfl k) ?_
  refine own_st (U' := (s₁.setTop (mkF m 26 #[.val (.ref a), .val (.ref ky), .val (.int b), .val (.ref en), .val (.ref wd), .val (.int (own_h1 b k0)), .val (.ref ky), .val (.int (2 : Int32)), .val (.int (1 : Int32)), .val (.int k0)] [(.int k1)]))) (own_ldI X0 hx hZ e0 V_ky (j := (1 : Int32)) (i := 1) (by decide) rfl (by decide) (v := (.int k1)) rfl (g := (mkF m 25 #[.val (.ref a), .val (.ref ky), .val (.int b), .val (.ref en), .val (.ref wd), .val (.int (own_h1 b k0)), .val (.ref ky), .val (.int (2 : Int32)), .val (.int (1 : Int32)), .val (.int k0)] [(.int (1 : Int32)), (.ref ky)])) rfl rfl (hb hby d9_25)) ?_
  refine own_st (U' := (s₁.setTop (mkF m 28 #[.val (.ref a), .val (.ref ky), .val (.int b), .val (.ref en), .val (.ref wd), .val (.int (own_h1 b k0)), .val (.ref ky), .val (.int (2 : Int32)), .val (.int (1 : Int32)), .val (.int k1)] []))) (fun _ k => XS.istore X0.here hx rfl (hb hby d9_26) rfl (l' := #[.val (.ref a), .val (.ref ky), .val (.int b), .val (.ref en), .val (.ref wd), .val (.int (own_h1 b k0)), .val (.ref ky), .val (.int (2 : Int32)), .val (.int (1 : Int32)), .val (.int k1)]) rfl k) ?_
  refine own_st (U' := (s₁.setTop (mkF m 30 #[.val (.ref a), .val (.ref ky), .val (.int b), .val (.ref en), .val (.ref wd), .val (.int (own_h1 b k0)), .val (.ref ky), .val (.int (2 : Int32)), .val (.int (1 : Int32)), .val (.int k1)] [(.int (own_h1 b k0))]))) (fun _ k => XS.iload X0.here hx rfl (hb hby d9_28) rfl k) ?_
  refine own_st (U' := (s₁.setTop (mkF m 32 #[.val (.ref a), .val (.ref ky), .val (.int b), .val (.ref en), .val (.ref wd), .val (.int (own_h1 b k0)), .val (.ref ky), .val (.int (2 : Int32)), .val (.int (1 : Int32)), .val (.int k1)] [(.int k1), (.int (own_h1 b k0))]))) (fun _ k => XS.iload X0.here hx rfl (hb hby d9_30) rfl k) ?_
  refine own_st (U' := (s₁.setTop (mkF m 33 #[.val (.ref a), .val (.ref ky), .val (.int b), .val (.ref en), .val (.ref wd), .val (.int (own_h1 b k0)), .val (.ref ky), .val (.int (2 : Int32)), .val (.int (1 : Int32)), .val (.int k1)] [(.int ((own_h1 b k0) ^^^ k1))]))) (fun _ k => XS.ixor X0.here hx rfl (hb hby d9_32) rfl k) ?_
  refine own_st (U' := (s₁.setTop (mkF m 35 #[.val (.ref a), .val (.ref ky), .val (.int b), .val (.ref en), .val (.ref wd), .val (.int (own_h1 b k0)), .val (.ref ky), .val (.int (2 : Int32)), .val (.int (1 : Int32)), .val (.int k1)] [(.int (-1640531527 : Int32)), (.int ((own_h1 b k0) ^^^ k1))]))) (fun _ k => Jvm.Stand.ldcI X0 hx hown (mvT hZ (hw _ (List.mem_of_getElem? (i := 46) rfl))) rfl (hb hby d9_33) k) ?_
  refine own_st (U' := (s₁.setTop (mkF m 36 #[.val (.ref a), .val (.ref ky), .val (.int b), .val (.ref en), .val (.ref wd), .val (.int (own_h1 b k0)), .val (.ref ky), .val (.int (2 : Int32)), .val (.int (1 : Int32)), .val (.int k1)] [(.int (own_h1 (own_h1 b k0) k1))]))) (fun _ k => XS.imul X0.here hx rfl (hb hby d9_35) rfl k) ?_
  refine own_st (U' := (s₁.setTop (mkF m 38 #[.val (.ref a), .val (.ref ky), .val (.int b), .val (.ref en), .val (.ref wd), .val (.int (own_h1 (own_h1 b k0) k1)), .val (.ref ky), .val (.int (2 : Int32)), .val (.int (1 : Int32)), .val (.int k1)] []))) (fun _ k => XS.istore X0.here hx rfl (hb hby d9_36) rfl (l' := #[.val (.ref a), .val (.ref ky), .val (.int b), .val (.ref en), .val (.ref wd), .val (.int (own_h1 (own_h1 b k0) k1)), .val (.ref ky), .val (.int (2 : Int32)), .val (.int (1 : Int32)), .val (.int k1)]) rfl k) ?_
  refine own_st (U' := (s₁.setTop (mkF m 41 #[.val (.ref a), .val (.ref ky), .val (.int b), .val (.ref en), .val (.ref wd), .val (.int (own_h1 (own_h1 b k0) k1)), .val (.ref ky), .val (.int (2 : Int32)), .val (.int (2 : Int32)), .val (.int k1)] []))) (fun _ k => XS.iinc X0.here hx rfl (hb hby d9_38) rfl (l' := #[.val (.ref a), .val (.ref ky), .val (.int b), .val (.ref en), .val (.ref wd), .val (.int (own_h1 (own_h1 b k0) k1)), .val (.ref ky), .val (.int (2 : Int32)), .val (.int (2 : Int32)), .val (.int k1)]) rfl k) ?_
  refine own_st (U' := (s₁.setTop (mkF m 14 #[.val (.ref a), .val (.ref ky), .val (.int b), .val (.ref en), .val (.ref wd), .val (.int (own_h1 (own_h1 b k0) k1)), .val (.ref ky), .val (.int (2 : Int32)), .val (.int (2 : Int32)), .val (.int k1)] []))) (fun _ k => XS.goto X0.here hx rfl (pc0 := 41) (pc' := 14) rfl (hb hby d9_41) (by decide) (by decide) k) ?_
  refine own_st (U' := (s₁.setTop (mkF m 16 #[.val (.ref a), .val (.ref ky), .val (.int b), .val (.ref en), .val (.ref wd), .val (.int (own_h1 (own_h1 b k0) k1)), .val (.ref ky), .val (.int (2 : Int32)), .val (.int (2 : Int32)), .val (.int k1)] [(.int (2 : Int32))]))) (fun _ k => XS.iload X0.here hx rfl (hb hby d9_14) rfl k) ?_
  refine own_st (U' := (s₁.setTop (mkF m 18 #[.val (.ref a), .val (.ref ky), .val (.int b), .val (.ref en), .val (.ref wd), .val (.int (own_h1 (own_h1 b k0) k1)), .val (.ref ky), .val (.int (2 : Int32)), .val (.int (2 : Int32)), .val (.int k1)] [(.int (2 : Int32)), (.int (2 : Int32))]))) (fun _ k => XS.iload X0.here hx rfl (hb hby d9_16) rfl k) ?_
  refine own_st (U' := (s₁.setTop (mkF m 44 #[.val (.ref a), .val (.ref ky), .val (.int b), .val (.ref en), .val (.ref wd), .val (.int (own_h1 (own_h1 b k0) k1)), .val (.ref ky), .val (.int (2 : Int32)), .val (.int (2 : Int32)), .val (.int k1)] []))) (fun _ k => XS.icmpYes X0.here hx rfl (pc0 := 18) (pc' := 44) rfl (hb hby d9_18) rfl (flt (by decide)).2.1 (by decide) (by decide) k) ?_
  refine own_st (U' := (s₁.setTop (mkF m 46 #[.val (.ref a), .val (.ref ky), .val (.int b), .val (.ref en), .val (.ref wd), .val (.int (own_h1 (own_h1 b k0) k1)), .val (.ref ky), .val (.int (2 : Int32)), .val (.int (2 : Int32)), .val (.int k1)] [(.ref wd)]))) (fun _ k => XS.aload X0.here hx rfl (hb hby d9_44) rfl rfl k) ?_
  refine own_st (U' := (s₁.setTop (mkF m 47 #[.val (.ref a), .val (.ref ky), .val (.int b), .val (.ref en), .val (.ref wd), .val (.int (own_h1 (own_h1 b k0) k1)), .val (.ref ky), .val (.int (2 : Int32)), .val (.int (2 : Int32)), .val (.int k1)] [(.int (16 : Int32))]))) (own_len X0 hx hZ e0 V_wd (z := (16 : Int32)) rfl (g := (mkF m 46 #[.val (.ref a), .val (.ref ky), .val (.int b), .val (.ref en), .val (.ref wd), .val (.int (own_h1 (own_h1 b k0) k1)), .val (.ref ky), .val (.int (2 : Int32)), .val (.int (2 : Int32)), .val (.int k1)] [(.ref wd)])) rfl rfl (hb hby d9_46)) ?_
  refine own_st (U' := (s₁.setTop (mkF m 48 #[.val (.ref a), .val (.ref ky), .val (.int b), .val (.ref en), .val (.ref wd), .val (.int (own_h1 (own_h1 b k0) k1)), .val (.ref ky), .val (.int (2 : Int32)), .val (.int (2 : Int32)), .val (.int k1)] [(.int (1 : Int32)), (.int (16 : Int32))]))) (fun _ k => XS.iconst X0.here hx rfl (hb hby d9_47) k) ?_
  refine own_st (U' := (s₁.setTop (mkF m 49 #[.val (.ref a), .val (.ref ky), .val (.int b), .val (.ref en), .val (.ref wd), .val (.int (own_h1 (own_h1 b k0) k1)), .val (.ref ky), .val (.int (2 : Int32)), .val (.int (2 : Int32)), .val (.int k1)] [(.int (15 : Int32))]))) (fun _ k => XS.isub X0.here hx rfl (hb hby d9_48) rfl k) ?_
  refine own_st (U' := (s₁.setTop (mkF m 51 #[.val (.ref a), .val (.ref ky), .val (.int b), .val (.ref en), .val (.ref wd), .val (.int (own_h1 (own_h1 b k0) k1)), .val (.int (15 : Int32)), .val (.int (2 : Int32)), .val (.int (2 : Int32)), .val (.int k1)] []))) (fun _ k => XS.istore X0.here hx rfl (hb hby d9_49) rfl (l' := #[.val (.ref a), .val (.ref ky), .val (.int b), .val (.ref en), .val (.ref wd), .val (.int (own_h1 (own_h1 b k0) k1)), .val (.int (15 : Int32)), .val (.int (2 : Int32)), .val (.int (2 : Int32)), .val (.int k1)]) rfl k) ?_
  refine own_st (U' := (s₁.setTop (mkF m 53 #[.val (.ref a), .val (.ref ky), .val (.int b), .val (.ref en), .val (.ref wd), .val (.int (own_h1 (own_h1 b k0) k1)), .val (.int (15 : Int32)), .val (.int (2 : Int32)), .val (.int (2 : Int32)), .val (.int k1)] [(.int (own_h1 (own_h1 b k0) k1))]))) (fun _ k => XS.iload X0.here hx rfl (hb hby d9_51) rfl k) ?_
  refine own_st (U' := (s₁.setTop (mkF m 55 #[.val (.ref a), .val (.ref ky), .val (.int b), .val (.ref en), .val (.ref wd), .val (.int (own_h1 (own_h1 b k0) k1)), .val (.int (15 : Int32)), .val (.int (2 : Int32)), .val (.int (2 : Int32)), .val (.int k1)] [(.int (own_h1 (own_h1 b k0) k1)), (.int (own_h1 (own_h1 b k0) k1))]))) (fun _ k => XS.iload X0.here hx rfl (hb hby d9_53) rfl k) ?_
  refine own_st (U' := (s₁.setTop (mkF m 57 #[.val (.ref a), .val (.ref ky), .val (.int b), .val (.ref en), .val (.ref wd), .val (.int (own_h1 (own_h1 b k0) k1)), .val (.int (15 : Int32)), .val (.int (2 : Int32)), .val (.int (2 : Int32)), .val (.int k1)] [(.int (16 : Int32)), (.int (own_h1 (own_h1 b k0) k1)), (.int (own_h1 (own_h1 b k0) k1))]))) (fun _ k => XS.bipush X0.here hx rfl (hb hby d9_55) k) ?_
  refine own_st (U' := (s₁.setTop (mkF m 58 #[.val (.ref a), .val (.ref ky), .val (.int b), .val (.ref en), .val (.ref wd), .val (.int (own_h1 (own_h1 b k0) k1)), .val (.int (15 : Int32)), .val (.int (2 : Int32)), .val (.int (2 : Int32)), .val (.int k1)] [(.int (((own_h1 (own_h1 b k0) k1).toUInt32 >>> ((16 : Int32) &&& 31).toUInt32).toInt32)), (.int (own_h1 (own_h1 b k0) k1))]))) (fun _ k => XS.iushr X0.here hx rfl (hb hby d9_57) rfl k) ?_
  refine own_st (U' := (s₁.setTop (mkF m 59 #[.val (.ref a), .val (.ref ky), .val (.int b), .val (.ref en), .val (.ref wd), .val (.int (own_h1 (own_h1 b k0) k1)), .val (.int (15 : Int32)), .val (.int (2 : Int32)), .val (.int (2 : Int32)), .val (.int k1)] [(.int ((own_h1 (own_h1 b k0) k1) ^^^ (((own_h1 (own_h1 b k0) k1).toUInt32 >>> ((16 : Int32) &&& 31).toUInt32).toInt32)))]))) (fun _ k => XS.ixor X0.here hx rfl (hb hby d9_58) rfl k) ?_
  refine own_st (U' := (s₁.setTop (mkF m 61 #[.val (.ref a), .val (.ref ky), .val (.int b), .val (.ref en), .val (.ref wd), .val (.int (own_h1 (own_h1 b k0) k1)), .val (.int (15 : Int32)), .val (.int (2 : Int32)), .val (.int (2 : Int32)), .val (.int k1)] [(.int (15 : Int32)), (.int ((own_h1 (own_h1 b k0) k1) ^^^ (((own_h1 (own_h1 b k0) k1).toUInt32 >>> ((16 : Int32) &&& 31).toUInt32).toInt32)))]))) (fun _ k => XS.iload X0.here hx rfl (hb hby d9_59) rfl k) ?_
  refine own_st (U' := (s₁.setTop (mkF m 62 #[.val (.ref a), .val (.ref ky), .val (.int b), .val (.ref en), .val (.ref wd), .val (.int (own_h1 (own_h1 b k0) k1)), .val (.int (15 : Int32)), .val (.int (2 : Int32)), .val (.int (2 : Int32)), .val (.int k1)] [(.int (own_mix (own_h1 (own_h1 b k0) k1)))]))) (fun _ k => XS.iand X0.here hx rfl (hb hby d9_61) rfl k) ?_
  rw [own_hash_eq]
  refine own_st (U' := (s₁.setTop (mkF m 64 #[.val (.ref a), .val (.ref ky), .val (.int b), .val (.ref en), .val (.ref wd), .val (.int (own_h1 (own_h1 b k0) k1)), .val (.int (15 : Int32)), .val (.int (Int32.ofNat (own_hash k0 k1 b))), .val (.int (2 : Int32)), .val (.int k1)] []))) (fun _ k => XS.istore X0.here hx rfl (hb hby d9_62) rfl (l' := #[.val (.ref a), .val (.ref ky), .val (.int b), .val (.ref en), .val (.ref wd), .val (.int (own_h1 (own_h1 b k0) k1)), .val (.int (15 : Int32)), .val (.int (Int32.ofNat (own_hash k0 k1 b))), .val (.int (2 : Int32)), .val (.int k1)]) rfl k) ?_
  exact loop 16 _ _ _ (own_hash_lt _ _ _) hst X0 N0 e0
theorem d8_0 : decode prog_45_method_4_code 0 = .ok (.aload_n 0, 1) := by decide +kernel
theorem d8_1 : decode prog_45_method_4_code 1 = .ok (.getfield 7, 3) := by decide +kernel
theorem d8_4 : decode prog_45_method_4_code 4 = .ok (.ifCond .lt 28, 3) := by decide +kernel
theorem d8_7 : decode prog_45_method_4_code 7 = .ok (.aload_n 0, 1) := by decide +kernel
theorem d8_8 : decode prog_45_method_4_code 8 = .ok (.aload_n 0, 1) := by decide +kernel
theorem d8_9 : decode prog_45_method_4_code 9 = .ok (.getfield 16, 3) := by decide +kernel
theorem d8_12 : decode prog_45_method_4_code 12 = .ok (.aload_n 0, 1) := by decide +kernel
theorem d8_13 : decode prog_45_method_4_code 13 = .ok (.getfield 7, 3) := by decide +kernel
theorem d8_16 : decode prog_45_method_4_code 16 = .ok (.aload_n 1, 1) := by decide +kernel
theorem d8_17 : decode prog_45_method_4_code 17 = .ok (.iload_n 2, 1) := by decide +kernel
theorem d8_18 : decode prog_45_method_4_code 18 = .ok (.invokevirtual 44, 3) := by decide +kernel
theorem d8_21 : decode prog_45_method_4_code 21 = .ok (.ifCond .eq 11, 3) := by decide +kernel
theorem d8_24 : decode prog_45_method_4_code 24 = .ok (.aload_n 0, 1) := by decide +kernel
theorem d8_25 : decode prog_45_method_4_code 25 = .ok (.getfield 7, 3) := by decide +kernel
theorem d8_28 : decode prog_45_method_4_code 28 = .ok (.istore_n 3, 1) := by decide +kernel
theorem d8_29 : decode prog_45_method_4_code 29 = .ok (.goto 34, 3) := by decide +kernel
theorem d8_32 : decode prog_45_method_4_code 32 = .ok (.aload_n 0, 1) := by decide +kernel
theorem d8_33 : decode prog_45_method_4_code 33 = .ok (.aload_n 1, 1) := by decide +kernel
theorem d8_34 : decode prog_45_method_4_code 34 = .ok (.iload_n 2, 1) := by decide +kernel
theorem d8_35 : decode prog_45_method_4_code 35 = .ok (.aload_n 0, 1) := by decide +kernel
theorem d8_36 : decode prog_45_method_4_code 36 = .ok (.getfield 16, 3) := by decide +kernel
theorem d8_39 : decode prog_45_method_4_code 39 = .ok (.aload_n 0, 1) := by decide +kernel
theorem d8_40 : decode prog_45_method_4_code 40 = .ok (.getfield 20, 3) := by decide +kernel
theorem d8_43 : decode prog_45_method_4_code 43 = .ok (.invokevirtual 48, 3) := by decide +kernel
theorem d8_46 : decode prog_45_method_4_code 46 = .ok (.istore_n 3, 1) := by decide +kernel
theorem d8_47 : decode prog_45_method_4_code 47 = .ok (.aload_n 0, 1) := by decide +kernel
theorem d8_48 : decode prog_45_method_4_code 48 = .ok (.getfield 20, 3) := by decide +kernel
theorem d8_51 : decode prog_45_method_4_code 51 = .ok (.iload_n 3, 1) := by decide +kernel
theorem d8_52 : decode prog_45_method_4_code 52 = .ok (.laload, 1) := by decide +kernel
theorem d8_53 : decode prog_45_method_4_code 53 = .ok (.lconst 0, 1) := by decide +kernel
theorem d8_54 : decode prog_45_method_4_code 54 = .ok (.lcmp, 1) := by decide +kernel
theorem d8_55 : decode prog_45_method_4_code 55 = .ok (.ifCond .eq 8, 3) := by decide +kernel
theorem d8_58 : decode prog_45_method_4_code 58 = .ok (.aload_n 0, 1) := by decide +kernel
theorem d8_59 : decode prog_45_method_4_code 59 = .ok (.iload_n 3, 1) := by decide +kernel
theorem d8_60 : decode prog_45_method_4_code 60 = .ok (.putfield 7, 3) := by decide +kernel
theorem d8_63 : decode prog_45_method_4_code 63 = .ok (.iload_n 3, 1) := by decide +kernel
theorem d8_64 : decode prog_45_method_4_code 64 = .ok (.ireturn, 1) := by decide +kernel
theorem pn_rmFind : plainName "com/example/quorum/quorum/FailedStates" = true := by first | (simp [plainName, overriddenIn]; done) | decide +kernel
theorem pd_d8 : parseMethodDescriptor "([II)I" = some ⟨[(.array .int), .int], some .int⟩ := by decide +kernel
theorem ef_rmFind (m : MethodId) (x0 : Addr) (x1 : Addr) (x2 : Int32) : entryFrame m #[(.ref x0), (.ref x1), (.int x2)] 4 = mkF m 0 #[.val (.ref x0), .val (.ref x1), .val (.int x2), .unset] [] := by first | (simp [entryFrame, mkF, argsToLocals, Value.category, maxLocals]; done) | rfl
def Q_rmFind (Z : State) (a : Addr) (ky : Addr) (b : Int32) (en : Addr) (wd : Addr) (fe : Nat → Int32) (fw : Nat → Int64) (used : Int32) (last : Int32) (cnt : Nat) (M : Int32 → Int32 → Int32 → Bool) (k0 : Int32) (k1 : Int32) (h0 : Heap) (n0 : Nat) (v : Option Value) (h : Heap) (L : List Loc) : Prop := ∃ last', v = some (.int (Int32.ofNat (own_find fe fw k0 k1 b))) ∧ Fr n0 L ∧ Keep h0 h [a] ∧ own_FS Z h a en wd fe fw used last' ∧ own_Inv fe fw used last' cnt M
set_option maxRecDepth 65536 in
set_option maxHeartbeats 40000000 in
theorem rmFind (l : Launch) (Z : State) (a0 : Array Value) (hw : ∀ d ∈ tables_1, d.before a0 Z = true) (ws : List Jvm.Cond) (a : Addr) (ky : Addr) (b : Int32) (en : Addr) (wd : Addr) (fe : Nat → Int32) (fw : Nat → Int64) (used : Int32) (last : Int32) (cnt : Nat) (M : Int32 → Int32 → Int32 → Bool) (k0 : Int32) (k1 : Int32) (h0 : Heap) (n0 : Nat) (Z0 : n0 ≤ h0.size) (FS : own_FS Z h0 a en wd fe fw used last) (I : own_Inv fe fw used last cnt M) (hc : cnt ≤ 3) (V_ky : own_A Z h0 ky .int 2 (own_L [k0, k1])) (g_a : n0 ≤ a) :
    MetFree l (⟨"com/example/quorum/quorum/FailedStates", "find", "([II)I"⟩ : MethodName) (head1 (Jvm.Cond.code (⟨"com/example/quorum/quorum/FailedStates", "find", "([II)I"⟩ : MethodName) prog_45_method_4_code 4 (some .int) :: ws) ({ frames := 2, cells := 0, slots := 0, locals := 39 } : Room)) (fun as1 U => as1 = #[(.ref a), (.ref ky), (.int b)] ∧ Z.Warmed39 U.vm ∧ U.heap = h0) (fun _ _ _ _ _ => True) (fun _ U o U' => ∃ v L, o = .returned v ∧ Q_rmFind Z a ky b en wd fe fw used last cnt M k0 k1 h0 n0 v U'.heap L ∧ FrameEnd U o U' L ({ frames := 2, cells := 0, slots := 0, locals := 39 } : Room).cells ({ frames := 2, cells := 0, slots := 0, locals := 39 } : Room).slots) := by
  refine MetFree.of_bodySF (plainFor_of_name pn_rmFind) hisR ?_
  intro p e s m args below meth c s₁ Bd hml0 hP hK
  obtain ⟨rfl, hZ, hh⟩ := hP
  have hx := Bd.exec
  have hby := Bd.bytes
  have hml : c.maxLocals = 4 := hml0
  have hown : s.vm.findClass "com/example/quorum/quorum/FailedStates" = some m.cls := findClass_of_methodNamed Bd.named
  have hnm := (name_of_methodNamed Bd.named Bd.method).1
  have X0 : Stand p l e ({ frames := 2, cells := 0, slots := 0, locals := 39 } : Room) s m #[(.ref a), (.ref ky), (.int b)] below meth c s₁ [] 0 0 := Stand.of_body Bd
  have e0 : s₁.heap = h0 := by rw [← hh, Bd.state]; rfl
  have N0 := Fr.nil n0
  show own_Ends p e s below (Q_rmFind Z a ky b en wd fe fw used last cnt M k0 k1 h0 n0) ({ frames := 2, cells := 0, slots := 0, locals := 39 } : Room).cells ({ frames := 2, cells := 0, slots := 0, locals := 39 } : Room).slots (s₁.setTop (entryFrame m #[(.ref a), (.ref ky), (.int b)] 4))
  refine own_st (U' := (s₁.setTop (mkF m 0 #[.val (.ref a), .val (.ref ky), .val (.int b), .unset] []))) (fun _ k => castTop (ef_rmFind m a ky b) k) ?_
  have hst := own_find_stop I hc k0 k1 b
  have hr := own_find_lt fe fw k0 k1 b
  have FS0 := FS
  obtain ⟨E_a, F_width, F_entries, F_words, F_used, F_last, V_en, V_wd, ne_a_en, ne_a_wd, ne_en_wd⟩ := FS
  obtain ⟨j1, j2⟩ := own_ofN (show (own_find fe fw k0 k1 b) < 48 by omega)
  have tail : ∀ (T : State) (locs : List Loc), Stand p l e ({ frames := 2, cells := 0, slots := 0, locals := 39 } : Room) s m #[(.ref a), (.ref ky), (.int b)] below meth c T locs 0 0 → Fr n0 locs → T.heap = h0 → own_Ends p e s below (Q_rmFind Z a ky b en wd fe fw used last cnt M k0 k1 h0 n0) ({ frames := 2, cells := 0, slots := 0, locals := 39 } : Room).cells ({ frames := 2, cells := 0, slots := 0, locals := 39 } : Room).slots (T.setTop (mkF m 32 #[.val (.ref a), .val (.ref ky), .val (.int b), .unset] [])) := by
    intro T locs XL NL eL
    refine own_st (U' := (T.setTop (mkF m 33 #[.val (.ref a), .val (.ref ky), .val (.int b), .unset] [(.ref a)]))) (fun _ k => XS.aloadN XL.here hx rfl (hb hby d8_32) rfl rfl k) ?_
    refine own_st (U' := (T.setTop (mkF m 34 #[.val (.ref a), .val (.ref ky), .val (.int b), .unset] [(.ref ky), (.ref a)]))) (fun _ k => XS.aloadN XL.here hx rfl (hb hby d8_33) rfl rfl k) ?_
    refine own_st (U' := (T.setTop (mkF m 35 #[.val (.ref a), .val (.ref ky), .val (.int b), .unset] [(.int b), (.ref ky), (.ref a)]))) (fun _ k => XS.iloadN XL.here hx rfl (hb hby d8_34) rfl k) ?_
    refine own_st (U' := (T.setTop (mkF m 36 #[.val (.ref a), .val (.ref ky), .val (.int b), .unset] [(.ref a), (.int b), (.ref ky), (.ref a)]))) (fun _ k => XS.aloadN XL.here hx rfl (hb hby d8_35) rfl rfl k) ?_
    obtain ⟨T4, X4, e4, st4⟩ := getF XL hx hZ hown (host := "") (Or.inl (hw _ (List.mem_of_getElem? (i := 28) rfl))) Via.refl eL F_entries (g := (mkF m 36 #[.val (.ref a), .val (.ref ky), .val (.int b), .unset] [(.ref a), (.int b), (.ref ky), (.ref a)])) rfl rfl (hb hby d8_36)
    refine own_st (U' := (T4.setTop (mkF m 39 #[.val (.ref a), .val (.ref ky), .val (.int b), .unset] [(.ref en), (.int b), (.ref ky), (.ref a)]))) st4 ?_
    refine own_st (U' := (T4.setTop (mkF m 40 #[.val (.ref a), .val (.ref ky), .val (.int b), .unset] [(.ref a), (.ref en), (.int b), (.ref ky), (.ref a)]))) (fun _ k => XS.aloadN X4.here hx rfl (hb hby d8_39) rfl rfl k) ?_
    obtain ⟨T5, X5, e5, st5⟩ := getF X4 hx hZ hown (host := "") (Or.inl (hw _ (List.mem_of_getElem? (i := 31) rfl))) Via.refl e4 F_words (g := (mkF m 40 #[.val (.ref a), .val (.ref ky), .val (.int b), .unset] [(.ref a), (.ref en), (.int b), (.ref ky), (.ref a)])) rfl rfl (hb hby d8_40)
    refine own_st (U' := (T5.setTop (mkF m 43 #[.val (.ref a), .val (.ref ky), .val (.int b), .unset] [(.ref wd), (.ref en), (.int b), (.ref ky), (.ref a)]))) st5 ?_
    obtain ⟨cq6, q6, q6'⟩ := E_a.cell
    obtain ⟨_, _, ⟨T6, L6, k6, n6⟩, -, X6, ⟨Lc6, hQ6, l6, y6, z6⟩, st6⟩ := X5.privateBack hx (y := (⟨"com/example/quorum/quorum/FailedStates", "slot", "([II[I[J)I"⟩ : MethodName)) hown (mvT hZ (hw _ (List.mem_of_getElem? (i := 42) rfl))) (mvT hZ (hw _ (List.mem_of_getElem? (i := 43) rfl))) (own_selp (z := (⟨"com/example/quorum/quorum/FailedStates", "add", "([II)V"⟩ : MethodName)) rfl (mvT hZ (hw _ (List.mem_of_getElem? (i := 36) rfl))) (Cond.privateMethod_at (mvP hZ (hw _ (List.mem_of_getElem? (i := 44) rfl)) (args := #[]))) (mvT hZ (hw _ (List.mem_of_getElem? (i := 43) rfl))) (by decide)) (Cond.privateMethod_at (mvP hZ (hw _ (List.mem_of_getElem? (i := 44) rfl)) (args := #[]))) (mvT hZ (hw _ (List.mem_of_getElem? (i := 45) rfl))) (by decide) (backOf (W := 0) (rmSlot l Z a0 hw [] a ky b en wd fe fw k0 k1 h0 n0 Z0 hst E_a F_width V_en V_wd V_ky) hZ (hw _ (List.mem_of_getElem? (i := 45) rfl)) (hw _ (List.mem_of_getElem? (i := 17) rfl)) (by decide) (by decide)) (g := (mkF m 43 #[.val (.ref a), .val (.ref ky), .val (.int b), .unset] [(.ref wd), (.ref en), (.int b), (.ref ky), (.ref a)])) rfl (by rw [hml]; rfl) (Steps.refl _) (a := a) (by rw [e5]; exact q6) q6' (argsL := [(.ref ky), (.int b), (.ref en), (.ref wd)]) (rest := []) (lenOf (pd_d9) rfl) rfl (by show 2 * 0 + _ ≤ _; exact Nat.le_of_eq rfl) (hb hby d8_43) (fun _ _ => ⟨rfl, e5, (Nat.le_of_ble_eq_true rfl), (Nat.le_of_ble_eq_true rfl)⟩)
    dsimp only [Pt.U, Pt.locs, Pt.cells, Pt.slots] at X6 l6 y6 z6 st6 hQ6
    subst l6 y6 z6
    obtain ⟨rfl, Nq6, eq6⟩ := hQ6
    have N6 := Fr.app NL Nq6
    refine own_tr (U' := (T6.setTop (mkF m 46 #[.val (.ref a), .val (.ref ky), .val (.int b), .unset] [(.int (Int32.ofNat (own_find fe fw k0 k1 b)))]))) st6 ?_
    refine own_st (U' := (T6.setTop (mkF m 47 #[.val (.ref a), .val (.ref ky), .val (.int b), .val (.int (Int32.ofNat (own_find fe fw k0 k1 b)))] []))) (fun _ k => XS.istoreN X6.here hx rfl (hb hby d8_46) rfl (l' := #[.val (.ref a), .val (.ref ky), .val (.int b), .val (.int (Int32.ofNat (own_find fe fw k0 k1 b)))]) rfl k) ?_
    refine own_st (U' := (T6.setTop (mkF m 48 #[.val (.ref a), .val (.ref ky), .val (.int b), .val (.int (Int32.ofNat (own_find fe fw k0 k1 b)))] [(.ref a)]))) (fun _ k => XS.aloadN X6.here hx rfl (hb hby d8_47) rfl rfl k) ?_
    obtain ⟨T7, X7, e7, st7⟩ := getF X6 hx hZ hown (host := "") (Or.inl (hw _ (List.mem_of_getElem? (i := 31) rfl))) Via.refl eq6 F_words (g := (mkF m 48 #[.val (.ref a), .val (.ref ky), .val (.int b), .val (.int (Int32.ofNat (own_find fe fw k0 k1 b)))] [(.ref a)])) rfl rfl (hb hby d8_48)
    refine own_st (U' := (T7.setTop (mkF m 51 #[.val (.ref a), .val (.ref ky), .val (.int b), .val (.int (Int32.ofNat (own_find fe fw k0 k1 b)))] [(.ref wd)]))) st7 ?_
    refine own_st (U' := (T7.setTop (mkF m 52 #[.val (.ref a), .val (.ref ky), .val (.int b), .val (.int (Int32.ofNat (own_find fe fw k0 k1 b)))] [(.int (Int32.ofNat (own_find fe fw k0 k1 b))), (.ref wd)]))) (fun _ k => XS.iloadN X7.here hx rfl (hb hby d8_51) rfl k) ?_
    refine own_st (U' := (T7.setTop (mkF m 53 #[.val (.ref a), .val (.ref ky), .val (.int b), .val (.int (Int32.ofNat (own_find fe fw k0 k1 b)))] [(.long (fw (own_find fe fw k0 k1 b)))]))) (own_ldJ X7 hx hZ e7 V_wd (j := (Int32.ofNat (own_find fe fw k0 k1 b))) (i := (own_find fe fw k0 k1 b)) j1 j2 hr (v := (.long (fw (own_find fe fw k0 k1 b)))) rfl (g := (mkF m 52 #[.val (.ref a), .val (.ref ky), .val (.int b), .val (.int (Int32.ofNat (own_find fe fw k0 k1 b)))] [(.int (Int32.ofNat (own_find fe fw k0 k1 b))), (.ref wd)])) rfl rfl (hb hby d8_52)) ?_
    refine own_st (U' := (T7.setTop (mkF m 54 #[.val (.ref a), .val (.ref ky), .val (.int b), .val (.int (Int32.ofNat (own_find fe fw k0 k1 b)))] [(.long (0 : Int64)), (.long (fw (own_find fe fw k0 k1 b)))]))) (fun _ k => XS.lconst X7.here hx rfl (hb hby d8_53) k) ?_
    refine own_st (U' := (T7.setTop (mkF m 55 #[.val (.ref a), .val (.ref ky), .val (.int b), .val (.int (Int32.ofNat (own_find fe fw k0 k1 b)))] [(.int (lcmpW (fw (own_find fe fw k0 k1 b)) (0 : Int64)))]))) (fun _ k => XS.lcmp X7.here hx rfl (hb hby d8_54) rfl k) ?_
    by_cases c1 : fw (own_find fe fw k0 k1 b) = 0
    · skip
      refine own_st (U' := (T7.setTop (mkF m 63 #[.val (.ref a), .val (.ref ky), .val (.int b), .val (.int (Int32.ofNat (own_find fe fw k0 k1 b)))] []))) (fun _ k => XS.ifYes X7.here hx rfl (pc0 := 55) (pc' := 63) rfl (hb hby d8_55) rfl ((if0 _ _).trans (teq ((own_lc _).mpr c1)).1) (by decide) (by decide) k) ?_
      refine own_st (U' := (T7.setTop (mkF m 64 #[.val (.ref a), .val (.ref ky), .val (.int b), .val (.int (Int32.ofNat (own_find fe fw k0 k1 b)))] [(.int (Int32.ofNat (own_find fe fw k0 k1 b)))]))) (fun _ k => XS.iloadN X7.here hx rfl (hb hby d8_63) rfl k) ?_
      exact own_retI X7 hx Bd.returns Bd.notSynchronized (hb hby d8_64) (by decide) (by decide) (⟨last, rfl, N6, by rw [e7]; exact Keep.refl h0 [a], by rw [e7]; exact FS0, I⟩)
    · skip
      refine own_st (U' := (T7.setTop (mkF m 58 #[.val (.ref a), .val (.ref ky), .val (.int b), .val (.int (Int32.ofNat (own_find fe fw k0 k1 b)))] []))) (fun _ k => XS.ifNo X7.here hx rfl (hb hby d8_55) rfl ((if0 _ _).trans (feq (fun q => c1 ((own_lc _).mp q))).1) k) ?_
      refine own_st (U' := (T7.setTop (mkF m 59 #[.val (.ref a), .val (.ref ky), .val (.int b), .val (.int (Int32.ofNat (own_find fe fw k0 k1 b)))] [(.ref a)]))) (fun _ k => XS.aloadN X7.here hx rfl (hb hby d8_58) rfl rfl k) ?_
      refine own_st (U' := (T7.setTop (mkF m 60 #[.val (.ref a), .val (.ref ky), .val (.int b), .val (.int (Int32.ofNat (own_find fe fw k0 k1 b)))] [(.int (Int32.ofNat (own_find fe fw k0 k1 b))), (.ref a)]))) (fun _ k => XS.iloadN X7.here hx rfl (hb hby d8_59) rfl k) ?_
      obtain ⟨T8, h8, X8, e8, W8, st8⟩ := putF X7 hx hZ hown (host := "") (Or.inl (hw _ (List.mem_of_getElem? (i := 24) rfl))) Via.refl e7 F_last E_a (Or.inl (hw _ (List.mem_of_getElem? (i := 25) rfl))) (hw _ (List.mem_of_getElem? (i := 16) rfl)) (ty := .int) (by decide) rfl rfl (g := (mkF m 60 #[.val (.ref a), .val (.ref ky), .val (.int b), .val (.int (Int32.ofNat (own_find fe fw k0 k1 b)))] [(.int (Int32.ofNat (own_find fe fw k0 k1 b))), (.ref a)])) rfl rfl (hb hby d8_60)
      have F_last := F_last.same W8
      have E_a := E_a.wr W8
      have F_width := F_width.other W8 (Or.inr (slot_ne (Or.inr (hw _ (List.mem_of_getElem? (i := 27) rfl))) (Or.inl (hw _ (List.mem_of_getElem? (i := 25) rfl))) (by decide) (t := .int) (t' := .int) (by decide) (by decide)))
      have F_entries := F_entries.other W8 (Or.inr (slot_ne (Or.inl (hw _ (List.mem_of_getElem? (i := 29) rfl))) (Or.inl (hw _ (List.mem_of_getElem? (i := 25) rfl))) (by decide) (t := (.array .int)) (t' := .int) (by decide) (by decide)))
      have F_words := F_words.other W8 (Or.inr (slot_ne (Or.inl (hw _ (List.mem_of_getElem? (i := 32) rfl))) (Or.inl (hw _ (List.mem_of_getElem? (i := 25) rfl))) (by decide) (t := (.array .long)) (t' := .int) (by decide) (by decide)))
      have F_used := F_used.other W8 (Or.inr (slot_ne (Or.inl (hw _ (List.mem_of_getElem? (i := 52) rfl))) (Or.inl (hw _ (List.mem_of_getElem? (i := 25) rfl))) (by decide) (t := .int) (t' := .int) (by decide) (by decide)))
      have V_en := V_en.other W8 (Ne.symm ne_a_en)
      have V_wd := V_wd.other W8 (Ne.symm ne_a_wd)
      have N8 := Fr.snoc X8 N6 g_a
      have Z8 : n0 ≤ h8.size := Nat.le_trans Z0 (Nat.le_of_eq W8.size.symm)
      have K8 := (Keep.refl h0 [a]).wr W8 (Or.inl (List.mem_of_getElem? (i := 0) rfl))
      refine own_st (U' := (T8.setTop (mkF m 63 #[.val (.ref a), .val (.ref ky), .val (.int b), .val (.int (Int32.ofNat (own_find fe fw k0 k1 b)))] []))) st8 ?_
      refine own_st (U' := (T8.setTop (mkF m 64 #[.val (.ref a), .val (.ref ky), .val (.int b), .val (.int (Int32.ofNat (own_find fe fw k0 k1 b)))] [(.int (Int32.ofNat (own_find fe fw k0 k1 b)))]))) (fun _ k => XS.iloadN X8.here hx rfl (hb hby d8_63) rfl k) ?_
      exact own_retI X8 hx Bd.returns Bd.notSynchronized (hb hby d8_64) (by decide) (by decide) (⟨_, rfl, N8, by rw [e8]; exact K8, ⟨by rw [e8]; exact E_a, by rw [e8]; exact F_width, by rw [e8]; exact F_entries, by rw [e8]; exact F_words, by rw [e8]; exact F_used, by rw [e8]; exact F_last, by rw [e8]; exact V_en, by rw [e8]; exact V_wd, ne_a_en, ne_a_wd, ne_en_wd⟩, I.last hr c1⟩)
  refine own_st (U' := (s₁.setTop (mkF m 1 #[.val (.ref a), .val (.ref ky), .val (.int b), .unset] [(.ref a)]))) (fun _ k => XS.aloadN X0.here hx rfl (hb hby d8_0) rfl rfl k) ?_
  obtain ⟨T9, X9, e9, st9⟩ := getF X0 hx hZ hown (host := "") (Or.inl (hw _ (List.mem_of_getElem? (i := 24) rfl))) Via.refl e0 F_last (g := (mkF m 1 #[.val (.ref a), .val (.ref ky), .val (.int b), .unset] [(.ref a)])) rfl rfl (hb hby d8_1)
  refine own_st (U' := (T9.setTop (mkF m 4 #[.val (.ref a), .val (.ref ky), .val (.int b), .unset] [(.int last)]))) st9 ?_
  rcases I.2.2.2.1 with hl | ⟨t, ht, hl, hf⟩
  · skip
    refine own_st (U' := (T9.setTop (mkF m 32 #[.val (.ref a), .val (.ref ky), .val (.int b), .unset] []))) (fun _ k => XS.ifYes X9.here hx rfl (pc0 := 4) (pc' := 32) rfl (hb hby d8_4) rfl ((if0 _ _).trans (tlt (by rw [hl]; decide)).1) (by decide) (by decide) k) ?_
    exact tail _ _ X9 N0 e9
  · skip
    obtain ⟨i1, i2⟩ := own_ofN (show t < 48 by omega)
    refine own_st (U' := (T9.setTop (mkF m 7 #[.val (.ref a), .val (.ref ky), .val (.int b), .unset] []))) (fun _ k => XS.ifNo X9.here hx rfl (hb hby d8_4) rfl ((if0 _ _).trans (flt (by rw [hl]; exact i1)).1) k) ?_
    refine own_st (U' := (T9.setTop (mkF m 8 #[.val (.ref a), .val (.ref ky), .val (.int b), .unset] [(.ref a)]))) (fun _ k => XS.aloadN X9.here hx rfl (hb hby d8_7) rfl rfl k) ?_
    refine own_st (U' := (T9.setTop (mkF m 9 #[.val (.ref a), .val (.ref ky), .val (.int b), .unset] [(.ref a), (.ref a)]))) (fun _ k => XS.aloadN X9.here hx rfl (hb hby d8_8) rfl rfl k) ?_
    obtain ⟨T10, X10, e10, st10⟩ := getF X9 hx hZ hown (host := "") (Or.inl (hw _ (List.mem_of_getElem? (i := 28) rfl))) Via.refl e9 F_entries (g := (mkF m 9 #[.val (.ref a), .val (.ref ky), .val (.int b), .unset] [(.ref a), (.ref a)])) rfl rfl (hb hby d8_9)
    refine own_st (U' := (T10.setTop (mkF m 12 #[.val (.ref a), .val (.ref ky), .val (.int b), .unset] [(.ref en), (.ref a)]))) st10 ?_
    refine own_st (U' := (T10.setTop (mkF m 13 #[.val (.ref a), .val (.ref ky), .val (.int b), .unset] [(.ref a), (.ref en), (.ref a)]))) (fun _ k => XS.aloadN X10.here hx rfl (hb hby d8_12) rfl rfl k) ?_
    obtain ⟨T11, X11, e11, st11⟩ := getF X10 hx hZ hown (host := "") (Or.inl (hw _ (List.mem_of_getElem? (i := 24) rfl))) Via.refl e10 F_last (g := (mkF m 13 #[.val (.ref a), .val (.ref ky), .val (.int b), .unset] [(.ref a), (.ref en), (.ref a)])) rfl rfl (hb hby d8_13)
    refine own_st (U' := (T11.setTop (mkF m 16 #[.val (.ref a), .val (.ref ky), .val (.int b), .unset] [(.int last), (.ref en), (.ref a)]))) st11 ?_
    rw [hl]
    refine own_st (U' := (T11.setTop (mkF m 17 #[.val (.ref a), .val (.ref ky), .val (.int b), .unset] [(.ref ky), (.int (Int32.ofNat t)), (.ref en), (.ref a)]))) (fun _ k => XS.aloadN X11.here hx rfl (hb hby d8_16) rfl rfl k) ?_
    refine own_st (U' := (T11.setTop (mkF m 18 #[.val (.ref a), .val (.ref ky), .val (.int b), .unset] [(.int b), (.ref ky), (.int (Int32.ofNat t)), (.ref en), (.ref a)]))) (fun _ k => XS.iloadN X11.here hx rfl (hb hby d8_17) rfl k) ?_
    obtain ⟨cq12, q12, q12'⟩ := E_a.cell
    obtain ⟨_, _, ⟨T12, L12, k12, n12⟩, -, X12, ⟨Lc12, hQ12, l12, y12, z12⟩, st12⟩ := X11.privateBack hx (y := (⟨"com/example/quorum/quorum/FailedStates", "holds", "([II[II)Z"⟩ : MethodName)) hown (mvT hZ (hw _ (List.mem_of_getElem? (i := 61) rfl))) (mvT hZ (hw _ (List.mem_of_getElem? (i := 62) rfl))) (own_selp (z := (⟨"com/example/quorum/quorum/FailedStates", "add", "([II)V"⟩ : MethodName)) rfl (mvT hZ (hw _ (List.mem_of_getElem? (i := 36) rfl))) (Cond.privateMethod_at (mvP hZ (hw _ (List.mem_of_getElem? (i := 63) rfl)) (args := #[]))) (mvT hZ (hw _ (List.mem_of_getElem? (i := 62) rfl))) (by decide)) (Cond.privateMethod_at (mvP hZ (hw _ (List.mem_of_getElem? (i := 63) rfl)) (args := #[]))) (mvT hZ (hw _ (List.mem_of_getElem? (i := 64) rfl))) (by decide) (backOf (W := 0) (rmHolds l Z a0 hw [] a en t ky b fe k0 k1 h0 n0 Z0 ht F_width V_en V_ky) hZ (hw _ (List.mem_of_getElem? (i := 64) rfl)) (hw _ (List.mem_of_getElem? (i := 17) rfl)) (by decide) (by decide)) (g := (mkF m 18 #[.val (.ref a), .val (.ref ky), .val (.int b), .unset] [(.int b), (.ref ky), (.int (Int32.ofNat t)), (.ref en), (.ref a)])) rfl (by rw [hml]; rfl) (Steps.refl _) (a := a) (by rw [e11]; exact q12) q12' (argsL := [(.ref en), (.int (Int32.ofNat t)), (.ref ky), (.int b)]) (rest := []) (lenOf (pd_d12) rfl) rfl (by show 2 * 0 + _ ≤ _; exact Nat.le_of_eq rfl) (hb hby d8_18) (fun _ _ => ⟨rfl, e11, (Nat.le_of_ble_eq_true rfl), (Nat.le_of_ble_eq_true rfl)⟩)
    dsimp only [Pt.U, Pt.locs, Pt.cells, Pt.slots] at X12 l12 y12 z12 st12 hQ12
    subst l12 y12 z12
    obtain ⟨rfl, Nq12, eq12⟩ := hQ12
    have N12 := Fr.app N0 Nq12
    refine own_tr (U' := (T12.setTop (mkF m 21 #[.val (.ref a), .val (.ref ky), .val (.int b), .unset] [(.int (own_b (own_hd fe t k0 k1 b)))]))) st12 ?_
    by_cases c2 : own_hd fe t k0 k1 b = true
    · skip
      refine own_st (U' := (T12.setTop (mkF m 24 #[.val (.ref a), .val (.ref ky), .val (.int b), .unset] []))) (fun _ k => XS.ifNo X12.here hx rfl (hb hby d8_21) rfl ((if0 _ _).trans (feq (fun q => by rw [(own_b0 _).mp q] at c2; cases c2)).1) k) ?_
      refine own_st (U' := (T12.setTop (mkF m 25 #[.val (.ref a), .val (.ref ky), .val (.int b), .unset] [(.ref a)]))) (fun _ k => XS.aloadN X12.here hx rfl (hb hby d8_24) rfl rfl k) ?_
      obtain ⟨T13, X13, e13, st13⟩ := getF X12 hx hZ hown (host := "") (Or.inl (hw _ (List.mem_of_getElem? (i := 24) rfl))) Via.refl eq12 F_last (g := (mkF m 25 #[.val (.ref a), .val (.ref ky), .val (.int b), .unset] [(.ref a)])) rfl rfl (hb hby d8_25)
      refine own_st (U' := (T13.setTop (mkF m 28 #[.val (.ref a), .val (.ref ky), .val (.int b), .unset] [(.int last)]))) st13 ?_
      refine own_st (U' := (T13.setTop (mkF m 29 #[.val (.ref a), .val (.ref ky), .val (.int b), .val (.int last)] []))) (fun _ k => XS.istoreN X13.here hx rfl (hb hby d8_28) rfl (l' := #[.val (.ref a), .val (.ref ky), .val (.int b), .val (.int last)]) rfl k) ?_
      refine own_st (U' := (T13.setTop (mkF m 63 #[.val (.ref a), .val (.ref ky), .val (.int b), .val (.int last)] []))) (fun _ k => XS.goto X13.here hx rfl (pc0 := 29) (pc' := 63) rfl (hb hby d8_29) (by decide) (by decide) k) ?_
      refine own_st (U' := (T13.setTop (mkF m 64 #[.val (.ref a), .val (.ref ky), .val (.int b), .val (.int last)] [(.int last)]))) (fun _ k => XS.iloadN X13.here hx rfl (hb hby d8_63) rfl k) ?_
      exact own_retI X13 hx Bd.returns Bd.notSynchronized (hb hby d8_64) (by decide) (by decide) (⟨last, by rw [hl, own_find_last I ht hf c2], N12, by rw [e13]; exact Keep.refl h0 [a], by rw [e13]; exact FS0, I⟩)
    · skip
      refine own_st (U' := (T12.setTop (mkF m 32 #[.val (.ref a), .val (.ref ky), .val (.int b), .unset] []))) (fun _ k => XS.ifYes X12.here hx rfl (pc0 := 21) (pc' := 32) rfl (hb hby d8_21) rfl ((if0 _ _).trans (teq ((own_b0 _).mpr (by simpa using c2))).1) (by decide) (by decide) k) ?_
      exact tail _ _ X12 N12 eq12
theorem d11_0 : decode prog_45_method_2_code 0 = .ok (.aload_n 0, 1) := by decide +kernel
theorem d11_1 : decode prog_45_method_2_code 1 = .ok (.aload_n 1, 1) := by decide +kernel
theorem d11_2 : decode prog_45_method_2_code 2 = .ok (.iload_n 2, 1) := by decide +kernel
theorem d11_3 : decode prog_45_method_2_code 3 = .ok (.bipush 64, 2) := by decide +kernel
theorem d11_5 : decode prog_45_method_2_code 5 = .ok (.idiv, 1) := by decide +kernel
theorem d11_6 : decode prog_45_method_2_code 6 = .ok (.invokevirtual 24, 3) := by decide +kernel
theorem d11_9 : decode prog_45_method_2_code 9 = .ok (.istore_n 3, 1) := by decide +kernel
theorem d11_10 : decode prog_45_method_2_code 10 = .ok (.aload_n 0, 1) := by decide +kernel
theorem d11_11 : decode prog_45_method_2_code 11 = .ok (.getfield 20, 3) := by decide +kernel
theorem d11_14 : decode prog_45_method_2_code 14 = .ok (.iload_n 3, 1) := by decide +kernel
theorem d11_15 : decode prog_45_method_2_code 15 = .ok (.laload, 1) := by decide +kernel
theorem d11_16 : decode prog_45_method_2_code 16 = .ok (.iload_n 2, 1) := by decide +kernel
theorem d11_17 : decode prog_45_method_2_code 17 = .ok (.invokestatic 28, 3) := by decide +kernel
theorem d11_20 : decode prog_45_method_2_code 20 = .ok (.land, 1) := by decide +kernel
theorem d11_21 : decode prog_45_method_2_code 21 = .ok (.lconst 0, 1) := by decide +kernel
theorem d11_22 : decode prog_45_method_2_code 22 = .ok (.lcmp, 1) := by decide +kernel
theorem d11_23 : decode prog_45_method_2_code 23 = .ok (.ifCond .eq 7, 3) := by decide +kernel
theorem d11_26 : decode prog_45_method_2_code 26 = .ok (.iconst 1, 1) := by decide +kernel
theorem d11_27 : decode prog_45_method_2_code 27 = .ok (.goto 4, 3) := by decide +kernel
theorem d11_30 : decode prog_45_method_2_code 30 = .ok (.iconst 0, 1) := by decide +kernel
theorem d11_31 : decode prog_45_method_2_code 31 = .ok (.ireturn, 1) := by decide +kernel
theorem pn_rmCon : plainName "com/example/quorum/quorum/FailedStates" = true := by first | (simp [plainName, overriddenIn]; done) | decide +kernel
theorem pd_d11 : parseMethodDescriptor "([II)Z" = some ⟨[(.array .int), .int], some .boolean⟩ := by decide +kernel
theorem ef_rmCon (m : MethodId) (x0 : Addr) (x1 : Addr) (x2 : Int32) : entryFrame m #[(.ref x0), (.ref x1), (.int x2)] 4 = mkF m 0 #[.val (.ref x0), .val (.ref x1), .val (.int x2), .unset] [] := by first | (simp [entryFrame, mkF, argsToLocals, Value.category, maxLocals]; done) | rfl
def Q_rmCon (Z : State) (a : Addr) (ky : Addr) (p1 : Int32) (en : Addr) (wd : Addr) (fe : Nat → Int32) (fw : Nat → Int64) (used : Int32) (last : Int32) (cnt : Nat) (M : Int32 → Int32 → Int32 → Bool) (k0 : Int32) (k1 : Int32) (h0 : Heap) (n0 : Nat) (v : Option Value) (h : Heap) (L : List Loc) : Prop := ∃ last', v = some (.int (own_b (M k0 k1 p1))) ∧ Fr n0 L ∧ Keep h0 h [a] ∧ own_FS Z h a en wd fe fw used last' ∧ own_Inv fe fw used last' cnt M
set_option maxRecDepth 65536 in
set_option maxHeartbeats 40000000 in
theorem rmCon (l : Launch) (Z : State) (a0 : Array Value) (hw : ∀ d ∈ tables_1, d.before a0 Z = true) (ws : List Jvm.Cond) (a : Addr) (ky : Addr) (p1 : Int32) (en : Addr) (wd : Addr) (fe : Nat → Int32) (fw : Nat → Int64) (used : Int32) (last : Int32) (cnt : Nat) (M : Int32 → Int32 → Int32 → Bool) (k0 : Int32) (k1 : Int32) (h0 : Heap) (n0 : Nat) (Z0 : n0 ≤ h0.size) (FS : own_FS Z h0 a en wd fe fw used last) (I : own_Inv fe fw used last cnt M) (hc : cnt ≤ 3) (V_ky : own_A Z h0 ky .int 2 (own_L [k0, k1])) (g_a : n0 ≤ a) (hp : ¬ p1 < 0) :
    MetFree l (⟨"com/example/quorum/quorum/FailedStates", "contains", "([II)Z"⟩ : MethodName) (head1 (Jvm.Cond.code (⟨"com/example/quorum/quorum/FailedStates", "contains", "([II)Z"⟩ : MethodName) prog_45_method_2_code 4 (some .boolean) :: ws) ({ frames := 3, cells := 0, slots := 0, locals := 56 } : Room)) (fun as1 U => as1 = #[(.ref a), (.ref ky), (.int p1)] ∧ Z.Warmed39 U.vm ∧ U.heap = h0) (fun _ _ _ _ _ => True) (fun _ U o U' => ∃ v L, o = .returned v ∧ Q_rmCon Z a ky p1 en wd fe fw used last cnt M k0 k1 h0 n0 v U'.heap L ∧ FrameEnd U o U' L ({ frames := 3, cells := 0, slots := 0, locals := 56 } : Room).cells ({ frames := 3, cells := 0, slots := 0, locals := 56 } : Room).slots) := by
  refine MetFree.of_bodySF (plainFor_of_name pn_rmCon) hisR ?_
  intro p e s m args below meth c s₁ Bd hml0 hP hK
  obtain ⟨rfl, hZ, hh⟩ := hP
  have hx := Bd.exec
  have hby := Bd.bytes
  have hml : c.maxLocals = 4 := hml0
  have hown : s.vm.findClass "com/example/quorum/quorum/FailedStates" = some m.cls := findClass_of_methodNamed Bd.named
  have hnm := (name_of_methodNamed Bd.named Bd.method).1
  have X0 : Stand p l e ({ frames := 3, cells := 0, slots := 0, locals := 56 } : Room) s m #[(.ref a), (.ref ky), (.int p1)] below meth c s₁ [] 0 0 := Stand.of_body Bd
  have e0 : s₁.heap = h0 := by rw [← hh, Bd.state]; rfl
  have N0 := Fr.nil n0
  show own_Ends p e s below (Q_rmCon Z a ky p1 en wd fe fw used last cnt M k0 k1 h0 n0) ({ frames := 3, cells := 0, slots := 0, locals := 56 } : Room).cells ({ frames := 3, cells := 0, slots := 0, locals := 56 } : Room).slots (s₁.setTop (entryFrame m #[(.ref a), (.ref ky), (.int p1)] 4))
  refine own_st (U' := (s₁.setTop (mkF m 0 #[.val (.ref a), .val (.ref ky), .val (.int p1), .unset] []))) (fun _ k => castTop (ef_rmCon m a ky p1) k) ?_
  have hr := own_find_lt fe fw k0 k1 (own_blk p1)
  obtain ⟨j1, j2⟩ := own_ofN (show (own_find fe fw k0 k1 (own_blk p1)) < 48 by omega)
  refine own_st (U' := (s₁.setTop (mkF m 1 #[.val (.ref a), .val (.ref ky), .val (.int p1), .unset] [(.ref a)]))) (fun _ k => XS.aloadN X0.here hx rfl (hb hby d11_0) rfl rfl k) ?_
  refine own_st (U' := (s₁.setTop (mkF m 2 #[.val (.ref a), .val (.ref ky), .val (.int p1), .unset] [(.ref ky), (.ref a)]))) (fun _ k => XS.aloadN X0.here hx rfl (hb hby d11_1) rfl rfl k) ?_
  refine own_st (U' := (s₁.setTop (mkF m 3 #[.val (.ref a), .val (.ref ky), .val (.int p1), .unset] [(.int p1), (.ref ky), (.ref a)]))) (fun _ k => XS.iloadN X0.here hx rfl (hb hby d11_2) rfl k) ?_
  refine own_st (U' := (s₁.setTop (mkF m 5 #[.val (.ref a), .val (.ref ky), .val (.int p1), .unset] [(.int (64 : Int32)), (.int p1), (.ref ky), (.ref a)]))) (fun _ k => XS.bipush X0.here hx rfl (hb hby d11_3) k) ?_
  refine own_st (U' := (s₁.setTop (mkF m 6 #[.val (.ref a), .val (.ref ky), .val (.int p1), .unset] [(.int (own_blk p1)), (.ref ky), (.ref a)]))) (fun _ k => XS.idiv X0.here hx rfl (hb hby d11_5) rfl (by decide) k) ?_
  obtain ⟨cq14, q14, q14'⟩ := FS.1.cell
  obtain ⟨_, _, ⟨T14, L14, k14, n14⟩, -, X14, ⟨Lc14, hQ14, l14, y14, z14⟩, st14⟩ := X0.privateBack hx (y := (⟨"com/example/quorum/quorum/FailedStates", "find", "([II)I"⟩ : MethodName)) hown (mvT hZ (hw _ (List.mem_of_getElem? (i := 38) rfl))) (mvT hZ (hw _ (List.mem_of_getElem? (i := 39) rfl))) (own_selp (z := (⟨"com/example/quorum/quorum/FailedStates", "add", "([II)V"⟩ : MethodName)) rfl (mvT hZ (hw _ (List.mem_of_getElem? (i := 36) rfl))) (Cond.privateMethod_at (mvP hZ (hw _ (List.mem_of_getElem? (i := 40) rfl)) (args := #[]))) (mvT hZ (hw _ (List.mem_of_getElem? (i := 39) rfl))) (by decide)) (Cond.privateMethod_at (mvP hZ (hw _ (List.mem_of_getElem? (i := 40) rfl)) (args := #[]))) (mvT hZ (hw _ (List.mem_of_getElem? (i := 41) rfl))) (by decide) (backOf (W := 0) (rmFind l Z a0 hw [] a ky (own_blk p1) en wd fe fw used last cnt M k0 k1 h0 n0 Z0 FS I hc V_ky g_a) hZ (hw _ (List.mem_of_getElem? (i := 41) rfl)) (hw _ (List.mem_of_getElem? (i := 17) rfl)) (by decide) (by decide)) (g := (mkF m 6 #[.val (.ref a), .val (.ref ky), .val (.int p1), .unset] [(.int (own_blk p1)), (.ref ky), (.ref a)])) rfl (by rw [hml]; rfl) (Steps.refl _) (a := a) (by rw [e0]; exact q14) q14' (argsL := [(.ref ky), (.int (own_blk p1))]) (rest := []) (lenOf (pd_d8) rfl) rfl (by show 2 * 0 + _ ≤ _; exact Nat.le_of_eq rfl) (hb hby d11_6) (fun _ _ => ⟨rfl, e0, (Nat.le_of_ble_eq_true rfl), (Nat.le_of_ble_eq_true rfl)⟩)
  dsimp only [Pt.U, Pt.locs, Pt.cells, Pt.slots] at X14 l14 y14 z14 st14 hQ14
  subst l14 y14 z14
  obtain ⟨last', rfl, Nq14, Kq14, FS', I'⟩ := hQ14
  have N14 := Fr.app N0 Nq14
  have Z14 : n0 ≤ T14.heap.size := Nat.le_trans Z0 Kq14.1
  refine own_tr (U' := (T14.setTop (mkF m 9 #[.val (.ref a), .val (.ref ky), .val (.int p1), .unset] [(.int (Int32.ofNat (own_find fe fw k0 k1 (own_blk p1))))]))) st14 ?_
  have FS1 := FS'
  obtain ⟨E_a, F_width, F_entries, F_words, F_used, F_last, V_en, V_wd, ne_a_en, ne_a_wd, ne_en_wd⟩ := FS1
  refine own_st (U' := (T14.setTop (mkF m 10 #[.val (.ref a), .val (.ref ky), .val (.int p1), .val (.int (Int32.ofNat (own_find fe fw k0 k1 (own_blk p1))))] []))) (fun _ k => XS.istoreN X14.here hx rfl (hb hby d11_9) rfl (l' := #[.val (.ref a), .val (.ref ky), .val (.int p1), .val (.int (Int32.ofNat (own_find fe fw k0 k1 (own_blk p1))))]) rfl k) ?_
  refine own_st (U' := (T14.setTop (mkF m 11 #[.val (.ref a), .val (.ref ky), .val (.int p1), .val (.int (Int32.ofNat (own_find fe fw k0 k1 (own_blk p1))))] [(.ref a)]))) (fun _ k => XS.aloadN X14.here hx rfl (hb hby d11_10) rfl rfl k) ?_
  obtain ⟨T15, X15, e15, st15⟩ := getF X14 hx hZ hown (host := "") (Or.inl (hw _ (List.mem_of_getElem? (i := 31) rfl))) Via.refl rfl F_words (g := (mkF m 11 #[.val (.ref a), .val (.ref ky), .val (.int p1), .val (.int (Int32.ofNat (own_find fe fw k0 k1 (own_blk p1))))] [(.ref a)])) rfl rfl (hb hby d11_11)
  refine own_st (U' := (T15.setTop (mkF m 14 #[.val (.ref a), .val (.ref ky), .val (.int p1), .val (.int (Int32.ofNat (own_find fe fw k0 k1 (own_blk p1))))] [(.ref wd)]))) st15 ?_
  refine own_st (U' := (T15.setTop (mkF m 15 #[.val (.ref a), .val (.ref ky), .val (.int p1), .val (.int (Int32.ofNat (own_find fe fw k0 k1 (own_blk p1))))] [(.int (Int32.ofNat (own_find fe fw k0 k1 (own_blk p1)))), (.ref wd)]))) (fun _ k => XS.iloadN X15.here hx rfl (hb hby d11_14) rfl k) ?_
  refine own_st (U' := (T15.setTop (mkF m 16 #[.val (.ref a), .val (.ref ky), .val (.int p1), .val (.int (Int32.ofNat (own_find fe fw k0 k1 (own_blk p1))))] [(.long (fw (own_find fe fw k0 k1 (own_blk p1))))]))) (own_ldJ X15 hx hZ e15 V_wd (j := (Int32.ofNat (own_find fe fw k0 k1 (own_blk p1)))) (i := (own_find fe fw k0 k1 (own_blk p1))) j1 j2 hr (v := (.long (fw (own_find fe fw k0 k1 (own_blk p1))))) rfl (g := (mkF m 15 #[.val (.ref a), .val (.ref ky), .val (.int p1), .val (.int (Int32.ofNat (own_find fe fw k0 k1 (own_blk p1))))] [(.int (Int32.ofNat (own_find fe fw k0 k1 (own_blk p1)))), (.ref wd)])) rfl rfl (hb hby d11_15)) ?_
  refine own_st (U' := (T15.setTop (mkF m 17 #[.val (.ref a), .val (.ref ky), .val (.int p1), .val (.int (Int32.ofNat (own_find fe fw k0 k1 (own_blk p1))))] [(.int p1), (.long (fw (own_find fe fw k0 k1 (own_blk p1))))]))) (fun _ k => XS.iloadN X15.here hx rfl (hb hby d11_16) rfl k) ?_
  obtain ⟨_, _, ⟨T16, L16, k16, n16⟩, -, X16, ⟨Lc16, hQ16, l16, y16, z16⟩, st16⟩ := Jvm.LawKit.callS X15 hx (y := (⟨"com/example/quorum/quorum/FailedStates", "bit", "(I)J"⟩ : MethodName)) hown (mvT hZ (hw _ (List.mem_of_getElem? (i := 53) rfl))) (mvT hZ (hw _ (List.mem_of_getElem? (i := 54) rfl))) (mvT hZ (hw _ (List.mem_of_getElem? (i := 17) rfl))) (mvT hZ (hw _ (List.mem_of_getElem? (i := 55) rfl))) (by decide) (backOf (W := 2) (rmBit l Z a0 hw [] p1 T14.heap n0 Z14) hZ (hw _ (List.mem_of_getElem? (i := 55) rfl)) (hw _ (List.mem_of_getElem? (i := 17) rfl)) (by decide) (by decide)) (g := (mkF m 17 #[.val (.ref a), .val (.ref ky), .val (.int p1), .val (.int (Int32.ofNat (own_find fe fw k0 k1 (own_blk p1))))] [(.int p1), (.long (fw (own_find fe fw k0 k1 (own_blk p1))))])) rfl (by rw [hml]; rfl) (argsL := [(.int p1)]) (rest := [(.long (fw (own_find fe fw k0 k1 (own_blk p1))))]) (lenOf (pd_d10) rfl) rfl (by show 2 * 0 + _ ≤ _; exact Nat.le_of_eq rfl) (hb hby d11_17) (fun _ _ => ⟨rfl, e15, (Nat.le_of_ble_eq_true rfl), (Nat.le_of_ble_eq_true rfl)⟩)
  dsimp only [Pt.U, Pt.locs, Pt.cells, Pt.slots] at X16 l16 y16 z16 st16 hQ16
  subst l16 y16 z16
  obtain ⟨rfl, Nq16, eq16⟩ := hQ16
  have N16 := Fr.app N14 Nq16
  refine own_st (U' := (T16.setTop (mkF m 20 #[.val (.ref a), .val (.ref ky), .val (.int p1), .val (.int (Int32.ofNat (own_find fe fw k0 k1 (own_blk p1))))] [(.long (own_bit p1)), (.long (fw (own_find fe fw k0 k1 (own_blk p1))))]))) st16 ?_
  refine own_st (U' := (T16.setTop (mkF m 21 #[.val (.ref a), .val (.ref ky), .val (.int p1), .val (.int (Int32.ofNat (own_find fe fw k0 k1 (own_blk p1))))] [(.long ((fw (own_find fe fw k0 k1 (own_blk p1))) &&& (own_bit p1)))]))) (fun _ k => XS.land X16.here hx rfl (hb hby d11_20) rfl k) ?_
  refine own_st (U' := (T16.setTop (mkF m 22 #[.val (.ref a), .val (.ref ky), .val (.int p1), .val (.int (Int32.ofNat (own_find fe fw k0 k1 (own_blk p1))))] [(.long (0 : Int64)), (.long ((fw (own_find fe fw k0 k1 (own_blk p1))) &&& (own_bit p1)))]))) (fun _ k => XS.lconst X16.here hx rfl (hb hby d11_21) k) ?_
  refine own_st (U' := (T16.setTop (mkF m 23 #[.val (.ref a), .val (.ref ky), .val (.int p1), .val (.int (Int32.ofNat (own_find fe fw k0 k1 (own_blk p1))))] [(.int (lcmpW ((fw (own_find fe fw k0 k1 (own_blk p1))) &&& (own_bit p1)) (0 : Int64)))]))) (fun _ k => XS.lcmp X16.here hx rfl (hb hby d11_22) rfl k) ?_
  have hM := I.has hc (k0 := k0) (k1 := k1) hp
  by_cases c1 : (fw (own_find fe fw k0 k1 (own_blk p1)) &&& own_bit p1) = 0
  · skip
    refine own_st (U' := (T16.setTop (mkF m 30 #[.val (.ref a), .val (.ref ky), .val (.int p1), .val (.int (Int32.ofNat (own_find fe fw k0 k1 (own_blk p1))))] []))) (fun _ k => XS.ifYes X16.here hx rfl (pc0 := 23) (pc' := 30) rfl (hb hby d11_23) rfl ((if0 _ _).trans (teq ((own_lc _).mpr c1)).1) (by decide) (by decide) k) ?_
    have q : own_b (M k0 k1 p1) = 0 := (own_b0 _).mpr (by cases z : M k0 k1 p1 with | false => rfl | true => exact absurd c1 (hM.mpr z))
    refine own_st (U' := (T16.setTop (mkF m 31 #[.val (.ref a), .val (.ref ky), .val (.int p1), .val (.int (Int32.ofNat (own_find fe fw k0 k1 (own_blk p1))))] [(.int (0 : Int32))]))) (fun _ k => XS.iconst X16.here hx rfl (hb hby d11_30) k) ?_
    exact own_retN X16 hx (t := .boolean) Bd.returns Bd.notSynchronized (by simp) rfl (hb hby d11_31) (by decide) (by decide) (⟨last', by rw [q], N16, by rw [eq16]; exact Kq14, by rw [eq16]; exact FS', I'⟩)
  · skip
    refine own_st (U' := (T16.setTop (mkF m 26 #[.val (.ref a), .val (.ref ky), .val (.int p1), .val (.int (Int32.ofNat (own_find fe fw k0 k1 (own_blk p1))))] []))) (fun _ k => XS.ifNo X16.here hx rfl (hb hby d11_23) rfl ((if0 _ _).trans (feq (fun q => c1 ((own_lc _).mp q))).1) k) ?_
    have q : own_b (M k0 k1 p1) = 1 := by rw [hM.mp c1]; rfl
    refine own_st (U' := (T16.setTop (mkF m 27 #[.val (.ref a), .val (.ref ky), .val (.int p1), .val (.int (Int32.ofNat (own_find fe fw k0 k1 (own_blk p1))))] [(.int (1 : Int32))]))) (fun _ k => XS.iconst X16.here hx rfl (hb hby d11_26) k) ?_
    refine own_st (U' := (T16.setTop (mkF m 31 #[.val (.ref a), .val (.ref ky), .val (.int p1), .val (.int (Int32.ofNat (own_find fe fw k0 k1 (own_blk p1))))] [(.int (1 : Int32))]))) (fun _ k => XS.goto X16.here hx rfl (pc0 := 27) (pc' := 31) rfl (hb hby d11_27) (by decide) (by decide) k) ?_
    exact own_retN X16 hx (t := .boolean) Bd.returns Bd.notSynchronized (by simp) rfl (hb hby d11_31) (by decide) (by decide) (⟨last', by rw [q], N16, by rw [eq16]; exact Kq14, by rw [eq16]; exact FS', I'⟩)
theorem own_put_copy (fe : Nat → Int32) (r : Nat) (k0 k1 b : Int32) (j : Nat) : own_upd (fun j => .int (if 3 * r ≤ j ∧ j < 3 * r + 2 then [k0, k1].getD (j - 3 * r) 0 else fe j)) (3 * r + 2) (.int b) j = .int (own_put fe r k0 k1 b j) := by
  unfold own_upd own_put
  dsimp only
  by_cases h0 : j = 3 * r
  · subst h0
    have a1 : ¬ (3 * r = 3 * r + 2) := by omega
    have a2 : 3 * r ≤ 3 * r ∧ 3 * r < 3 * r + 2 := by omega
    rw [if_neg a1, if_pos a2, if_pos (rfl : 3 * r = 3 * r), Nat.sub_self]
    rfl
  · by_cases h1 : j = 3 * r + 1
    · subst h1
      have a1 : ¬ (3 * r + 1 = 3 * r + 2) := by omega
      have a2 : 3 * r ≤ 3 * r + 1 ∧ 3 * r + 1 < 3 * r + 2 := by omega
      rw [if_neg a1, if_pos a2, if_neg h0, if_pos (rfl : 3 * r + 1 = 3 * r + 1), show 3 * r + 1 - 3 * r = 1 by omega]
      rfl
    · by_cases h2 : j = 3 * r + 2
      · rw [if_pos h2, if_neg h0, if_neg h1, if_pos h2]
      · have a2 : ¬ (3 * r ≤ j ∧ j < 3 * r + 2) := by omega
        rw [if_neg h2, if_neg a2, if_neg h0, if_neg h1, if_neg h2]
theorem d7_0 : decode prog_45_method_3_code 0 = .ok (.iload_n 2, 1) := by decide +kernel
theorem d7_1 : decode prog_45_method_3_code 1 = .ok (.bipush 64, 2) := by decide +kernel
theorem d7_3 : decode prog_45_method_3_code 3 = .ok (.idiv, 1) := by decide +kernel
theorem d7_4 : decode prog_45_method_3_code 4 = .ok (.istore_n 3, 1) := by decide +kernel
theorem d7_5 : decode prog_45_method_3_code 5 = .ok (.aload_n 0, 1) := by decide +kernel
theorem d7_6 : decode prog_45_method_3_code 6 = .ok (.aload_n 1, 1) := by decide +kernel
theorem d7_7 : decode prog_45_method_3_code 7 = .ok (.iload_n 3, 1) := by decide +kernel
theorem d7_8 : decode prog_45_method_3_code 8 = .ok (.invokevirtual 24, 3) := by decide +kernel
theorem d7_11 : decode prog_45_method_3_code 11 = .ok (.istore 4, 2) := by decide +kernel
theorem d7_13 : decode prog_45_method_3_code 13 = .ok (.aload_n 0, 1) := by decide +kernel
theorem d7_14 : decode prog_45_method_3_code 14 = .ok (.getfield 20, 3) := by decide +kernel
theorem d7_17 : decode prog_45_method_3_code 17 = .ok (.iload 4, 2) := by decide +kernel
theorem d7_19 : decode prog_45_method_3_code 19 = .ok (.laload, 1) := by decide +kernel
theorem d7_20 : decode prog_45_method_3_code 20 = .ok (.lconst 0, 1) := by decide +kernel
theorem d7_21 : decode prog_45_method_3_code 21 = .ok (.lcmp, 1) := by decide +kernel
theorem d7_22 : decode prog_45_method_3_code 22 = .ok (.ifCond .ne 47, 3) := by decide +kernel
theorem d7_25 : decode prog_45_method_3_code 25 = .ok (.aload_n 1, 1) := by decide +kernel
theorem d7_26 : decode prog_45_method_3_code 26 = .ok (.iconst 0, 1) := by decide +kernel
theorem d7_27 : decode prog_45_method_3_code 27 = .ok (.aload_n 0, 1) := by decide +kernel
theorem d7_28 : decode prog_45_method_3_code 28 = .ok (.getfield 16, 3) := by decide +kernel
theorem d7_31 : decode prog_45_method_3_code 31 = .ok (.iload 4, 2) := by decide +kernel
theorem d7_33 : decode prog_45_method_3_code 33 = .ok (.aload_n 0, 1) := by decide +kernel
theorem d7_34 : decode prog_45_method_3_code 34 = .ok (.getfield 13, 3) := by decide +kernel
theorem d7_37 : decode prog_45_method_3_code 37 = .ok (.imul, 1) := by decide +kernel
theorem d7_38 : decode prog_45_method_3_code 38 = .ok (.aload_n 1, 1) := by decide +kernel
theorem d7_39 : decode prog_45_method_3_code 39 = .ok (.arraylength, 1) := by decide +kernel
theorem d7_40 : decode prog_45_method_3_code 40 = .ok (.invokestatic 32, 3) := by decide +kernel
theorem d7_43 : decode prog_45_method_3_code 43 = .ok (.aload_n 0, 1) := by decide +kernel
theorem d7_44 : decode prog_45_method_3_code 44 = .ok (.getfield 16, 3) := by decide +kernel
theorem d7_47 : decode prog_45_method_3_code 47 = .ok (.iload 4, 2) := by decide +kernel
theorem d7_49 : decode prog_45_method_3_code 49 = .ok (.aload_n 0, 1) := by decide +kernel
theorem d7_50 : decode prog_45_method_3_code 50 = .ok (.getfield 13, 3) := by decide +kernel
theorem d7_53 : decode prog_45_method_3_code 53 = .ok (.imul, 1) := by decide +kernel
theorem d7_54 : decode prog_45_method_3_code 54 = .ok (.aload_n 1, 1) := by decide +kernel
theorem d7_55 : decode prog_45_method_3_code 55 = .ok (.arraylength, 1) := by decide +kernel
theorem d7_56 : decode prog_45_method_3_code 56 = .ok (.iadd, 1) := by decide +kernel
theorem d7_57 : decode prog_45_method_3_code 57 = .ok (.iload_n 3, 1) := by decide +kernel
theorem d7_58 : decode prog_45_method_3_code 58 = .ok (.iastore, 1) := by decide +kernel
theorem d7_59 : decode prog_45_method_3_code 59 = .ok (.aload_n 0, 1) := by decide +kernel
theorem d7_60 : decode prog_45_method_3_code 60 = .ok (.dup, 1) := by decide +kernel
theorem d7_61 : decode prog_45_method_3_code 61 = .ok (.getfield 38, 3) := by decide +kernel
theorem d7_64 : decode prog_45_method_3_code 64 = .ok (.iconst 1, 1) := by decide +kernel
theorem d7_65 : decode prog_45_method_3_code 65 = .ok (.iadd, 1) := by decide +kernel
theorem d7_66 : decode prog_45_method_3_code 66 = .ok (.putfield 38, 3) := by decide +kernel
theorem d7_69 : decode prog_45_method_3_code 69 = .ok (.aload_n 0, 1) := by decide +kernel
theorem d7_70 : decode prog_45_method_3_code 70 = .ok (.getfield 20, 3) := by decide +kernel
theorem d7_73 : decode prog_45_method_3_code 73 = .ok (.iload 4, 2) := by decide +kernel
theorem d7_75 : decode prog_45_method_3_code 75 = .ok (.dup2, 1) := by decide +kernel
theorem d7_76 : decode prog_45_method_3_code 76 = .ok (.laload, 1) := by decide +kernel
theorem d7_77 : decode prog_45_method_3_code 77 = .ok (.iload_n 2, 1) := by decide +kernel
theorem d7_78 : decode prog_45_method_3_code 78 = .ok (.invokestatic 28, 3) := by decide +kernel
theorem d7_81 : decode prog_45_method_3_code 81 = .ok (.lor, 1) := by decide +kernel
theorem d7_82 : decode prog_45_method_3_code 82 = .ok (.lastore, 1) := by decide +kernel
theorem d7_83 : decode prog_45_method_3_code 83 = .ok (.aload_n 0, 1) := by decide +kernel
theorem d7_84 : decode prog_45_method_3_code 84 = .ok (.iload 4, 2) := by decide +kernel
theorem d7_86 : decode prog_45_method_3_code 86 = .ok (.putfield 7, 3) := by decide +kernel
theorem d7_89 : decode prog_45_method_3_code 89 = .ok (.iconst 2, 1) := by decide +kernel
theorem d7_90 : decode prog_45_method_3_code 90 = .ok (.aload_n 0, 1) := by decide +kernel
theorem d7_91 : decode prog_45_method_3_code 91 = .ok (.getfield 38, 3) := by decide +kernel
theorem d7_94 : decode prog_45_method_3_code 94 = .ok (.imul, 1) := by decide +kernel
theorem d7_95 : decode prog_45_method_3_code 95 = .ok (.aload_n 0, 1) := by decide +kernel
theorem d7_96 : decode prog_45_method_3_code 96 = .ok (.getfield 20, 3) := by decide +kernel
theorem d7_99 : decode prog_45_method_3_code 99 = .ok (.arraylength, 1) := by decide +kernel
theorem d7_100 : decode prog_45_method_3_code 100 = .ok (.if_icmp .le 7, 3) := by decide +kernel
theorem d7_103 : decode prog_45_method_3_code 103 = .ok (.aload_n 0, 1) := by decide +kernel
theorem d7_104 : decode prog_45_method_3_code 104 = .ok (.invokevirtual 41, 3) := by decide +kernel
theorem d7_107 : decode prog_45_method_3_code 107 = .ok (.return_, 1) := by decide +kernel
theorem pn_rmAdd : plainName "com/example/quorum/quorum/FailedStates" = true := by first | (simp [plainName, overriddenIn]; done) | decide +kernel
theorem pd_d7 : parseMethodDescriptor "([II)V" = some ⟨[(.array .int), .int], none⟩ := by decide +kernel
theorem ef_rmAdd (m : MethodId) (x0 : Addr) (x1 : Addr) (x2 : Int32) : entryFrame m #[(.ref x0), (.ref x1), (.int x2)] 5 = mkF m 0 #[.val (.ref x0), .val (.ref x1), .val (.int x2), .unset, .unset] [] := by first | (simp [entryFrame, mkF, argsToLocals, Value.category, maxLocals]; done) | rfl
def Q_rmAdd (Z : State) (a : Addr) (ky : Addr) (p1 : Int32) (en : Addr) (wd : Addr) (fe : Nat → Int32) (fw : Nat → Int64) (used : Int32) (last : Int32) (cnt : Nat) (M : Int32 → Int32 → Int32 → Bool) (k0 : Int32) (k1 : Int32) (h0 : Heap) (n0 : Nat) (v : Option Value) (h : Heap) (L : List Loc) : Prop := ∃ fe' fw' used' last', v = none ∧ Fr n0 L ∧ Keep h0 h [a, en, wd] ∧ own_FS Z h a en wd fe' fw' used' last' ∧ own_Inv fe' fw' used' last' (cnt + 1) (own_ins M k0 k1 p1)
set_option maxRecDepth 65536 in
set_option maxHeartbeats 40000000 in
theorem rmAdd (l : Launch) (Z : State) (a0 : Array Value) (hw : ∀ d ∈ tables_1, d.before a0 Z = true) (ws : List Jvm.Cond) (a : Addr) (ky : Addr) (p1 : Int32) (en : Addr) (wd : Addr) (fe : Nat → Int32) (fw : Nat → Int64) (used : Int32) (last : Int32) (cnt : Nat) (M : Int32 → Int32 → Int32 → Bool) (k0 : Int32) (k1 : Int32) (h0 : Heap) (n0 : Nat) (Z0 : n0 ≤ h0.size) (FS : own_FS Z h0 a en wd fe fw used last) (I : own_Inv fe fw used last cnt M) (hc : cnt ≤ 3) (V_ky : own_A Z h0 ky .int 2 (own_L [k0, k1])) (g_a : n0 ≤ a) (g_en : n0 ≤ en) (g_wd : n0 ≤ wd) (hp : ¬ p1 < 0) (ne_ky_a : ky ≠ a) (ne_ky_en : ky ≠ en) (ne_ky_wd : ky ≠ wd) :
    MetFree l (⟨"com/example/quorum/quorum/FailedStates", "add", "([II)V"⟩ : MethodName) (head1 (Jvm.Cond.code (⟨"com/example/quorum/quorum/FailedStates", "add", "([II)V"⟩ : MethodName) prog_45_method_3_code 5 none :: ws) ({ frames := 3, cells := 0, slots := 0, locals := 56 } : Room)) (fun as1 U => as1 = #[(.ref a), (.ref ky), (.int p1)] ∧ Z.Warmed39 U.vm ∧ U.heap = h0) (fun _ _ _ _ _ => True) (fun _ U o U' => ∃ v L, o = .returned v ∧ Q_rmAdd Z a ky p1 en wd fe fw used last cnt M k0 k1 h0 n0 v U'.heap L ∧ FrameEnd U o U' L ({ frames := 3, cells := 0, slots := 0, locals := 56 } : Room).cells ({ frames := 3, cells := 0, slots := 0, locals := 56 } : Room).slots) := by
  refine MetFree.of_bodySF (plainFor_of_name pn_rmAdd) hisR ?_
  intro p e s m args below meth c s₁ Bd hml0 hP hK
  obtain ⟨rfl, hZ, hh⟩ := hP
  have hx := Bd.exec
  have hby := Bd.bytes
  have hml : c.maxLocals = 5 := hml0
  have hown : s.vm.findClass "com/example/quorum/quorum/FailedStates" = some m.cls := findClass_of_methodNamed Bd.named
  have hnm := (name_of_methodNamed Bd.named Bd.method).1
  have X0 : Stand p l e ({ frames := 3, cells := 0, slots := 0, locals := 56 } : Room) s m #[(.ref a), (.ref ky), (.int p1)] below meth c s₁ [] 0 0 := Stand.of_body Bd
  have e0 : s₁.heap = h0 := by rw [← hh, Bd.state]; rfl
  have N0 := Fr.nil n0
  show own_Ends p e s below (Q_rmAdd Z a ky p1 en wd fe fw used last cnt M k0 k1 h0 n0) ({ frames := 3, cells := 0, slots := 0, locals := 56 } : Room).cells ({ frames := 3, cells := 0, slots := 0, locals := 56 } : Room).slots (s₁.setTop (entryFrame m #[(.ref a), (.ref ky), (.int p1)] 5))
  refine own_st (U' := (s₁.setTop (mkF m 0 #[.val (.ref a), .val (.ref ky), .val (.int p1), .unset, .unset] []))) (fun _ k => castTop (ef_rmAdd m a ky p1) k) ?_
  have hr := own_find_lt fe fw k0 k1 (own_blk p1)
  obtain ⟨j1, j2⟩ := own_ofN (show (own_find fe fw k0 k1 (own_blk p1)) < 48 by omega)
  have hst := own_find_stop I hc k0 k1 (own_blk p1)
  have g_list : ∀ x ∈ [a], x ∈ [a, en, wd] ∨ h0.size ≤ x := fun x hx => Or.inl (by cases List.mem_singleton.mp hx; exact List.mem_cons_self ..)
  refine own_st (U' := (s₁.setTop (mkF m 1 #[.val (.ref a), .val (.ref ky), .val (.int p1), .unset, .unset] [(.int p1)]))) (fun _ k => XS.iloadN X0.here hx rfl (hb hby d7_0) rfl k) ?_
  refine own_st (U' := (s₁.setTop (mkF m 3 #[.val (.ref a), .val (.ref ky), .val (.int p1), .unset, .unset] [(.int (64 : Int32)), (.int p1)]))) (fun _ k => XS.bipush X0.here hx rfl (hb hby d7_1) k) ?_
  refine own_st (U' := (s₁.setTop (mkF m 4 #[.val (.ref a), .val (.ref ky), .val (.int p1), .unset, .unset] [(.int (own_blk p1))]))) (fun _ k => XS.idiv X0.here hx rfl (hb hby d7_3) rfl (by decide) k) ?_
  refine own_st (U' := (s₁.setTop (mkF m 5 #[.val (.ref a), .val (.ref ky), .val (.int p1), .val (.int (own_blk p1)), .unset] []))) (fun _ k => XS.istoreN X0.here hx rfl (hb hby d7_4) rfl (l' := #[.val (.ref a), .val (.ref ky), .val (.int p1), .val (.int (own_blk p1)), .unset]) rfl k) ?_
  refine own_st (U' := (s₁.setTop (mkF m 6 #[.val (.ref a), .val (.ref ky), .val (.int p1), .val (.int (own_blk p1)), .unset] [(.ref a)]))) (fun _ k => XS.aloadN X0.here hx rfl (hb hby d7_5) rfl rfl k) ?_
  refine own_st (U' := (s₁.setTop (mkF m 7 #[.val (.ref a), .val (.ref ky), .val (.int p1), .val (.int (own_blk p1)), .unset] [(.ref ky), (.ref a)]))) (fun _ k => XS.aloadN X0.here hx rfl (hb hby d7_6) rfl rfl k) ?_
  refine own_st (U' := (s₁.setTop (mkF m 8 #[.val (.ref a), .val (.ref ky), .val (.int p1), .val (.int (own_blk p1)), .unset] [(.int (own_blk p1)), (.ref ky), (.ref a)]))) (fun _ k => XS.iloadN X0.here hx rfl (hb hby d7_7) rfl k) ?_
  obtain ⟨cq17, q17, q17'⟩ := FS.1.cell
  obtain ⟨_, _, ⟨T17, L17, k17, n17⟩, -, X17, ⟨Lc17, hQ17, l17, y17, z17⟩, st17⟩ := X0.privateBack hx (y := (⟨"com/example/quorum/quorum/FailedStates", "find", "([II)I"⟩ : MethodName)) hown (mvT hZ (hw _ (List.mem_of_getElem? (i := 38) rfl))) (mvT hZ (hw _ (List.mem_of_getElem? (i := 39) rfl))) (own_selp (z := (⟨"com/example/quorum/quorum/FailedStates", "add", "([II)V"⟩ : MethodName)) rfl (mvT hZ (hw _ (List.mem_of_getElem? (i := 36) rfl))) (Cond.privateMethod_at (mvP hZ (hw _ (List.mem_of_getElem? (i := 40) rfl)) (args := #[]))) (mvT hZ (hw _ (List.mem_of_getElem? (i := 39) rfl))) (by decide)) (Cond.privateMethod_at (mvP hZ (hw _ (List.mem_of_getElem? (i := 40) rfl)) (args := #[]))) (mvT hZ (hw _ (List.mem_of_getElem? (i := 41) rfl))) (by decide) (backOf (W := 0) (rmFind l Z a0 hw [] a ky (own_blk p1) en wd fe fw used last cnt M k0 k1 h0 n0 Z0 FS I hc V_ky g_a) hZ (hw _ (List.mem_of_getElem? (i := 41) rfl)) (hw _ (List.mem_of_getElem? (i := 17) rfl)) (by decide) (by decide)) (g := (mkF m 8 #[.val (.ref a), .val (.ref ky), .val (.int p1), .val (.int (own_blk p1)), .unset] [(.int (own_blk p1)), (.ref ky), (.ref a)])) rfl (by rw [hml]; rfl) (Steps.refl _) (a := a) (by rw [e0]; exact q17) q17' (argsL := [(.ref ky), (.int (own_blk p1))]) (rest := []) (lenOf (pd_d8) rfl) rfl (by show 2 * 0 + _ ≤ _; exact Nat.le_of_eq rfl) (hb hby d7_8) (fun _ _ => ⟨rfl, e0, (Nat.le_of_ble_eq_true rfl), (Nat.le_of_ble_eq_true rfl)⟩)
  dsimp only [Pt.U, Pt.locs, Pt.cells, Pt.slots] at X17 l17 y17 z17 st17 hQ17
  subst l17 y17 z17
  obtain ⟨last', rfl, Nq17, Kq17, FS', I'⟩ := hQ17
  have V_ky := V_ky.keep Kq17 (ninS ne_ky_a nin0)
  have N17 := Fr.app N0 Nq17
  have Z17 : n0 ≤ T17.heap.size := Nat.le_trans Z0 Kq17.1
  have K17 : Keep h0 T17.heap [a, en, wd] := (Keep.refl h0 [a, en, wd]).trans Kq17 g_list
  refine own_tr (U' := (T17.setTop (mkF m 11 #[.val (.ref a), .val (.ref ky), .val (.int p1), .val (.int (own_blk p1)), .unset] [(.int (Int32.ofNat (own_find fe fw k0 k1 (own_blk p1))))]))) st17 ?_
  obtain ⟨E_a, F_width, F_entries, F_words, F_used, F_last, V_en, V_wd, ne_a_en, ne_a_wd, ne_en_wd⟩ := FS'
  refine own_st (U' := (T17.setTop (mkF m 13 #[.val (.ref a), .val (.ref ky), .val (.int p1), .val (.int (own_blk p1)), .val (.int (Int32.ofNat (own_find fe fw k0 k1 (own_blk p1))))] []))) (fun _ k => XS.istore X17.here hx rfl (hb hby d7_11) rfl (l' := #[.val (.ref a), .val (.ref ky), .val (.int p1), .val (.int (own_blk p1)), .val (.int (Int32.ofNat (own_find fe fw k0 k1 (own_blk p1))))]) rfl k) ?_
  refine own_st (U' := (T17.setTop (mkF m 14 #[.val (.ref a), .val (.ref ky), .val (.int p1), .val (.int (own_blk p1)), .val (.int (Int32.ofNat (own_find fe fw k0 k1 (own_blk p1))))] [(.ref a)]))) (fun _ k => XS.aloadN X17.here hx rfl (hb hby d7_13) rfl rfl k) ?_
  obtain ⟨T18, X18, e18, st18⟩ := getF X17 hx hZ hown (host := "") (Or.inl (hw _ (List.mem_of_getElem? (i := 31) rfl))) Via.refl rfl F_words (g := (mkF m 14 #[.val (.ref a), .val (.ref ky), .val (.int p1), .val (.int (own_blk p1)), .val (.int (Int32.ofNat (own_find fe fw k0 k1 (own_blk p1))))] [(.ref a)])) rfl rfl (hb hby d7_14)
  refine own_st (U' := (T18.setTop (mkF m 17 #[.val (.ref a), .val (.ref ky), .val (.int p1), .val (.int (own_blk p1)), .val (.int (Int32.ofNat (own_find fe fw k0 k1 (own_blk p1))))] [(.ref wd)]))) st18 ?_
  refine own_st (U' := (T18.setTop (mkF m 19 #[.val (.ref a), .val (.ref ky), .val (.int p1), .val (.int (own_blk p1)), .val (.int (Int32.ofNat (own_find fe fw k0 k1 (own_blk p1))))] [(.int (Int32.ofNat (own_find fe fw k0 k1 (own_blk p1)))), (.ref wd)]))) (fun _ k => XS.iload X18.here hx rfl (hb hby d7_17) rfl k) ?_
  refine own_st (U' := (T18.setTop (mkF m 20 #[.val (.ref a), .val (.ref ky), .val (.int p1), .val (.int (own_blk p1)), .val (.int (Int32.ofNat (own_find fe fw k0 k1 (own_blk p1))))] [(.long (fw (own_find fe fw k0 k1 (own_blk p1))))]))) (own_ldJ X18 hx hZ e18 V_wd (j := (Int32.ofNat (own_find fe fw k0 k1 (own_blk p1)))) (i := (own_find fe fw k0 k1 (own_blk p1))) j1 j2 hr (v := (.long (fw (own_find fe fw k0 k1 (own_blk p1))))) rfl (g := (mkF m 19 #[.val (.ref a), .val (.ref ky), .val (.int p1), .val (.int (own_blk p1)), .val (.int (Int32.ofNat (own_find fe fw k0 k1 (own_blk p1))))] [(.int (Int32.ofNat (own_find fe fw k0 k1 (own_blk p1)))), (.ref wd)])) rfl rfl (hb hby d7_19)) ?_
  refine own_st (U' := (T18.setTop (mkF m 21 #[.val (.ref a), .val (.ref ky), .val (.int p1), .val (.int (own_blk p1)), .val (.int (Int32.ofNat (own_find fe fw k0 k1 (own_blk p1))))] [(.long (0 : Int64)), (.long (fw (own_find fe fw k0 k1 (own_blk p1))))]))) (fun _ k => XS.lconst X18.here hx rfl (hb hby d7_20) k) ?_
  refine own_st (U' := (T18.setTop (mkF m 22 #[.val (.ref a), .val (.ref ky), .val (.int p1), .val (.int (own_blk p1)), .val (.int (Int32.ofNat (own_find fe fw k0 k1 (own_blk p1))))] [(.int (lcmpW (fw (own_find fe fw k0 k1 (own_blk p1))) (0 : Int64)))]))) (fun _ k => XS.lcmp X18.here hx rfl (hb hby d7_21) rfl k) ?_
  have tail : ∀ (T : State) (h : Heap) (locs : List Loc) (used2 : Int32), (∃ u, u ≤ cnt + 1 ∧ used2 = Int32.ofNat u) → Stand p l e ({ frames := 3, cells := 0, slots := 0, locals := 56 } : Room) s m #[(.ref a), (.ref ky), (.int p1)] below meth c T locs 0 0 → T.heap = h → Fr n0 locs → n0 ≤ h.size → Keep h0 h [a, en, wd] → Exa Z h a "com/example/quorum/quorum/FailedStates" → Fld Z h a "com/example/quorum/quorum/FailedStates" "width" "I" (.int 3) → Fld Z h a "com/example/quorum/quorum/FailedStates" "entries" "[I" (.ref en) → Fld Z h a "com/example/quorum/quorum/FailedStates" "words" "[J" (.ref wd) → Fld Z h a "com/example/quorum/quorum/FailedStates" "used" "I" (.int used2) → Fld Z h a "com/example/quorum/quorum/FailedStates" "lastSlot" "I" (.int last') → own_A Z h en .int 48 (fun j => .int ((own_put fe (own_find fe fw k0 k1 (own_blk p1)) k0 k1 (own_blk p1)) j)) → own_A Z h wd .long 16 (fun j => .long (fw j)) → own_Ends p e s below (Q_rmAdd Z a ky p1 en wd fe fw used last cnt M k0 k1 h0 n0) ({ frames := 3, cells := 0, slots := 0, locals := 56 } : Room).cells ({ frames := 3, cells := 0, slots := 0, locals := 56 } : Room).slots (T.setTop (mkF m 69 #[.val (.ref a), .val (.ref ky), .val (.int p1), .val (.int (own_blk p1)), .val (.int (Int32.ofNat (own_find fe fw k0 k1 (own_blk p1))))] [])) := by
    intro T h locs used2 hu XL eL NL ZL KL E_a F_width F_entries F_words F_used F_last V_en V_wd
    refine own_st (U' := (T.setTop (mkF m 70 #[.val (.ref a), .val (.ref ky), .val (.int p1), .val (.int (own_blk p1)), .val (.int (Int32.ofNat (own_find fe fw k0 k1 (own_blk p1))))] [(.ref a)]))) (fun _ k => XS.aloadN XL.here hx rfl (hb hby d7_69) rfl rfl k) ?_
    obtain ⟨T19, X19, e19, st19⟩ := getF XL hx hZ hown (host := "") (Or.inl (hw _ (List.mem_of_getElem? (i := 31) rfl))) Via.refl eL F_words (g := (mkF m 70 #[.val (.ref a), .val (.ref ky), .val (.int p1), .val (.int (own_blk p1)), .val (.int (Int32.ofNat (own_find fe fw k0 k1 (own_blk p1))))] [(.ref a)])) rfl rfl (hb hby d7_70)
    refine own_st (U' := (T19.setTop (mkF m 73 #[.val (.ref a), .val (.ref ky), .val (.int p1), .val (.int (own_blk p1)), .val (.int (Int32.ofNat (own_find fe fw k0 k1 (own_blk p1))))] [(.ref wd)]))) st19 ?_
    refine own_st (U' := (T19.setTop (mkF m 75 #[.val (.ref a), .val (.ref ky), .val (.int p1), .val (.int (own_blk p1)), .val (.int (Int32.ofNat (own_find fe fw k0 k1 (own_blk p1))))] [(.int (Int32.ofNat (own_find fe fw k0 k1 (own_blk p1)))), (.ref wd)]))) (fun _ k => XS.iload X19.here hx rfl (hb hby d7_73) rfl k) ?_
    refine own_st (U' := (T19.setTop (mkF m 76 #[.val (.ref a), .val (.ref ky), .val (.int p1), .val (.int (own_blk p1)), .val (.int (Int32.ofNat (own_find fe fw k0 k1 (own_blk p1))))] [(.int (Int32.ofNat (own_find fe fw k0 k1 (own_blk p1)))), (.ref wd), (.int (Int32.ofNat (own_find fe fw k0 k1 (own_blk p1)))), (.ref wd)]))) (fun _ k => XT.dup2 X19.here hx rfl (hb hby d7_75) rfl rfl rfl k) ?_
    refine own_st (U' := (T19.setTop (mkF m 77 #[.val (.ref a), .val (.ref ky), .val (.int p1), .val (.int (own_blk p1)), .val (.int (Int32.ofNat (own_find fe fw k0 k1 (own_blk p1))))] [(.long (fw (own_find fe fw k0 k1 (own_blk p1)))), (.int (Int32.ofNat (own_find fe fw k0 k1 (own_blk p1)))), (.ref wd)]))) (own_ldJ X19 hx hZ e19 V_wd (j := (Int32.ofNat (own_find fe fw k0 k1 (own_blk p1)))) (i := (own_find fe fw k0 k1 (own_blk p1))) j1 j2 hr (v := (.long (fw (own_find fe fw k0 k1 (own_blk p1))))) rfl (g := (mkF m 76 #[.val (.ref a), .val (.ref ky), .val (.int p1), .val (.int (own_blk p1)), .val (.int (Int32.ofNat (own_find fe fw k0 k1 (own_blk p1))))] [(.int (Int32.ofNat (own_find fe fw k0 k1 (own_blk p1)))), (.ref wd), (.int (Int32.ofNat (own_find fe fw k0 k1 (own_blk p1)))), (.ref wd)])) rfl rfl (hb hby d7_76)) ?_
    refine own_st (U' := (T19.setTop (mkF m 78 #[.val (.ref a), .val (.ref ky), .val (.int p1), .val (.int (own_blk p1)), .val (.int (Int32.ofNat (own_find fe fw k0 k1 (own_blk p1))))] [(.int p1), (.long (fw (own_find fe fw k0 k1 (own_blk p1)))), (.int (Int32.ofNat (own_find fe fw k0 k1 (own_blk p1)))), (.ref wd)]))) (fun _ k => XS.iloadN X19.here hx rfl (hb hby d7_77) rfl k) ?_
    obtain ⟨_, _, ⟨T20, L20, k20, n20⟩, -, X20, ⟨Lc20, hQ20, l20, y20, z20⟩, st20⟩ := Jvm.LawKit.callS X19 hx (y := (⟨"com/example/quorum/quorum/FailedStates", "bit", "(I)J"⟩ : MethodName)) hown (mvT hZ (hw _ (List.mem_of_getElem? (i := 53) rfl))) (mvT hZ (hw _ (List.mem_of_getElem? (i := 54) rfl))) (mvT hZ (hw _ (List.mem_of_getElem? (i := 17) rfl))) (mvT hZ (hw _ (List.mem_of_getElem? (i := 55) rfl))) (by decide) (backOf (W := 4) (rmBit l Z a0 hw [] p1 h n0 ZL) hZ (hw _ (List.mem_of_getElem? (i := 55) rfl)) (hw _ (List.mem_of_getElem? (i := 17) rfl)) (by decide) (by decide)) (g := (mkF m 78 #[.val (.ref a), .val (.ref ky), .val (.int p1), .val (.int (own_blk p1)), .val (.int (Int32.ofNat (own_find fe fw k0 k1 (own_blk p1))))] [(.int p1), (.long (fw (own_find fe fw k0 k1 (own_blk p1)))), (.int (Int32.ofNat (own_find fe fw k0 k1 (own_blk p1)))), (.ref wd)])) rfl (by rw [hml]; rfl) (argsL := [(.int p1)]) (rest := [(.long (fw (own_find fe fw k0 k1 (own_blk p1)))), (.int (Int32.ofNat (own_find fe fw k0 k1 (own_blk p1)))), (.ref wd)]) (lenOf (pd_d10) rfl) rfl (by show 2 * 0 + _ ≤ _; exact Nat.le_of_eq rfl) (hb hby d7_78) (fun _ _ => ⟨rfl, e19, (Nat.le_of_ble_eq_true rfl), (Nat.le_of_ble_eq_true rfl)⟩)
    dsimp only [Pt.U, Pt.locs, Pt.cells, Pt.slots] at X20 l20 y20 z20 st20 hQ20
    subst l20 y20 z20
    obtain ⟨rfl, Nq20, eq20⟩ := hQ20
    have N20 := Fr.app NL Nq20
    refine own_st (U' := (T20.setTop (mkF m 81 #[.val (.ref a), .val (.ref ky), .val (.int p1), .val (.int (own_blk p1)), .val (.int (Int32.ofNat (own_find fe fw k0 k1 (own_blk p1))))] [(.long (own_bit p1)), (.long (fw (own_find fe fw k0 k1 (own_blk p1)))), (.int (Int32.ofNat (own_find fe fw k0 k1 (own_blk p1)))), (.ref wd)]))) st20 ?_
    refine own_st (U' := (T20.setTop (mkF m 82 #[.val (.ref a), .val (.ref ky), .val (.int p1), .val (.int (own_blk p1)), .val (.int (Int32.ofNat (own_find fe fw k0 k1 (own_blk p1))))] [(.long ((fw (own_find fe fw k0 k1 (own_blk p1))) ||| (own_bit p1))), (.int (Int32.ofNat (own_find fe fw k0 k1 (own_blk p1)))), (.ref wd)]))) (fun _ k => XS.lor X20.here hx rfl (hb hby d7_81) rfl k) ?_
    obtain ⟨T21, h21, X21, e21, W21, V21, st21⟩ := own_stJ X20 hx hZ eq20 V_wd (j := (Int32.ofNat (own_find fe fw k0 k1 (own_blk p1)))) (i := (own_find fe fw k0 k1 (own_blk p1))) j1 j2 hr (g := (mkF m 82 #[.val (.ref a), .val (.ref ky), .val (.int p1), .val (.int (own_blk p1)), .val (.int (Int32.ofNat (own_find fe fw k0 k1 (own_blk p1))))] [(.long ((fw (own_find fe fw k0 k1 (own_blk p1))) ||| (own_bit p1))), (.int (Int32.ofNat (own_find fe fw k0 k1 (own_blk p1)))), (.ref wd)])) rfl rfl (hb hby d7_82)
    have E_a := E_a.wr W21
    have F_width := F_width.other W21 (Or.inl ne_a_wd)
    have F_entries := F_entries.other W21 (Or.inl ne_a_wd)
    have F_words := F_words.other W21 (Or.inl ne_a_wd)
    have F_used := F_used.other W21 (Or.inl ne_a_wd)
    have F_last := F_last.other W21 (Or.inl ne_a_wd)
    have V_en := V_en.other W21 ne_en_wd
    have V_wd := V21
    have N21 := Fr.snoc X21 N20 g_wd
    have Z21 : n0 ≤ h21.size := Nat.le_trans ZL (Nat.le_of_eq W21.size.symm)
    have K21 := KL.wr W21 (Or.inl (List.mem_of_getElem? (i := 2) rfl))
    refine own_st (U' := (T21.setTop (mkF m 83 #[.val (.ref a), .val (.ref ky), .val (.int p1), .val (.int (own_blk p1)), .val (.int (Int32.ofNat (own_find fe fw k0 k1 (own_blk p1))))] []))) st21 ?_
    have V_wd : own_A Z h21 wd .long 16 (fun j => .long (own_or fw (own_find fe fw k0 k1 (own_blk p1)) p1 j)) := V_wd.congr (fun j _ => by unfold own_upd own_or; split <;> rfl)
    refine own_st (U' := (T21.setTop (mkF m 84 #[.val (.ref a), .val (.ref ky), .val (.int p1), .val (.int (own_blk p1)), .val (.int (Int32.ofNat (own_find fe fw k0 k1 (own_blk p1))))] [(.ref a)]))) (fun _ k => XS.aloadN X21.here hx rfl (hb hby d7_83) rfl rfl k) ?_
    refine own_st (U' := (T21.setTop (mkF m 86 #[.val (.ref a), .val (.ref ky), .val (.int p1), .val (.int (own_blk p1)), .val (.int (Int32.ofNat (own_find fe fw k0 k1 (own_blk p1))))] [(.int (Int32.ofNat (own_find fe fw k0 k1 (own_blk p1)))), (.ref a)]))) (fun _ k => XS.iload X21.here hx rfl (hb hby d7_84) rfl k) ?_
    obtain ⟨T22, h22, X22, e22, W22, st22⟩ := putF X21 hx hZ hown (host := "") (Or.inl (hw _ (List.mem_of_getElem? (i := 24) rfl))) Via.refl e21 F_last E_a (Or.inl (hw _ (List.mem_of_getElem? (i := 25) rfl))) (hw _ (List.mem_of_getElem? (i := 16) rfl)) (ty := .int) (by decide) rfl rfl (g := (mkF m 86 #[.val (.ref a), .val (.ref ky), .val (.int p1), .val (.int (own_blk p1)), .val (.int (Int32.ofNat (own_find fe fw k0 k1 (own_blk p1))))] [(.int (Int32.ofNat (own_find fe fw k0 k1 (own_blk p1)))), (.ref a)])) rfl rfl (hb hby d7_86)
    have F_last := F_last.same W22
    have E_a := E_a.wr W22
    have F_width := F_width.other W22 (Or.inr (slot_ne (Or.inr (hw _ (List.mem_of_getElem? (i := 27) rfl))) (Or.inl (hw _ (List.mem_of_getElem? (i := 25) rfl))) (by decide) (t := .int) (t' := .int) (by decide) (by decide)))
    have F_entries := F_entries.other W22 (Or.inr (slot_ne (Or.inl (hw _ (List.mem_of_getElem? (i := 29) rfl))) (Or.inl (hw _ (List.mem_of_getElem? (i := 25) rfl))) (by decide) (t := (.array .int)) (t' := .int) (by decide) (by decide)))
    have F_words := F_words.other W22 (Or.inr (slot_ne (Or.inl (hw _ (List.mem_of_getElem? (i := 32) rfl))) (Or.inl (hw _ (List.mem_of_getElem? (i := 25) rfl))) (by decide) (t := (.array .long)) (t' := .int) (by decide) (by decide)))
    have F_used := F_used.other W22 (Or.inr (slot_ne (Or.inl (hw _ (List.mem_of_getElem? (i := 52) rfl))) (Or.inl (hw _ (List.mem_of_getElem? (i := 25) rfl))) (by decide) (t := .int) (t' := .int) (by decide) (by decide)))
    have V_en := V_en.other W22 (Ne.symm ne_a_en)
    have V_wd := V_wd.other W22 (Ne.symm ne_a_wd)
    have N22 := Fr.snoc X22 N21 g_a
    have Z22 : n0 ≤ h22.size := Nat.le_trans Z21 (Nat.le_of_eq W22.size.symm)
    have K22 := K21.wr W22 (Or.inl (List.mem_of_getElem? (i := 0) rfl))
    refine own_st (U' := (T22.setTop (mkF m 89 #[.val (.ref a), .val (.ref ky), .val (.int p1), .val (.int (own_blk p1)), .val (.int (Int32.ofNat (own_find fe fw k0 k1 (own_blk p1))))] []))) st22 ?_
    refine own_st (U' := (T22.setTop (mkF m 90 #[.val (.ref a), .val (.ref ky), .val (.int p1), .val (.int (own_blk p1)), .val (.int (Int32.ofNat (own_find fe fw k0 k1 (own_blk p1))))] [(.int (2 : Int32))]))) (fun _ k => XS.iconst X22.here hx rfl (hb hby d7_89) k) ?_
    refine own_st (U' := (T22.setTop (mkF m 91 #[.val (.ref a), .val (.ref ky), .val (.int p1), .val (.int (own_blk p1)), .val (.int (Int32.ofNat (own_find fe fw k0 k1 (own_blk p1))))] [(.ref a), (.int (2 : Int32))]))) (fun _ k => XS.aloadN X22.here hx rfl (hb hby d7_90) rfl rfl k) ?_
    obtain ⟨T23, X23, e23, st23⟩ := getF X22 hx hZ hown (host := "") (Or.inl (hw _ (List.mem_of_getElem? (i := 51) rfl))) Via.refl e22 F_used (g := (mkF m 91 #[.val (.ref a), .val (.ref ky), .val (.int p1), .val (.int (own_blk p1)), .val (.int (Int32.ofNat (own_find fe fw k0 k1 (own_blk p1))))] [(.ref a), (.int (2 : Int32))])) rfl rfl (hb hby d7_91)
    refine own_st (U' := (T23.setTop (mkF m 94 #[.val (.ref a), .val (.ref ky), .val (.int p1), .val (.int (own_blk p1)), .val (.int (Int32.ofNat (own_find fe fw k0 k1 (own_blk p1))))] [(.int used2), (.int (2 : Int32))]))) st23 ?_
    refine own_st (U' := (T23.setTop (mkF m 95 #[.val (.ref a), .val (.ref ky), .val (.int p1), .val (.int (own_blk p1)), .val (.int (Int32.ofNat (own_find fe fw k0 k1 (own_blk p1))))] [(.int ((2 : Int32) * used2))]))) (fun _ k => XS.imul X23.here hx rfl (hb hby d7_94) rfl k) ?_
    refine own_st (U' := (T23.setTop (mkF m 96 #[.val (.ref a), .val (.ref ky), .val (.int p1), .val (.int (own_blk p1)), .val (.int (Int32.ofNat (own_find fe fw k0 k1 (own_blk p1))))] [(.ref a), (.int ((2 : Int32) * used2))]))) (fun _ k => XS.aloadN X23.here hx rfl (hb hby d7_95) rfl rfl k) ?_
    obtain ⟨T24, X24, e24, st24⟩ := getF X23 hx hZ hown (host := "") (Or.inl (hw _ (List.mem_of_getElem? (i := 31) rfl))) Via.refl e23 F_words (g := (mkF m 96 #[.val (.ref a), .val (.ref ky), .val (.int p1), .val (.int (own_blk p1)), .val (.int (Int32.ofNat (own_find fe fw k0 k1 (own_blk p1))))] [(.ref a), (.int ((2 : Int32) * used2))])) rfl rfl (hb hby d7_96)
    refine own_st (U' := (T24.setTop (mkF m 99 #[.val (.ref a), .val (.ref ky), .val (.int p1), .val (.int (own_blk p1)), .val (.int (Int32.ofNat (own_find fe fw k0 k1 (own_blk p1))))] [(.ref wd), (.int ((2 : Int32) * used2))]))) st24 ?_
    refine own_st (U' := (T24.setTop (mkF m 100 #[.val (.ref a), .val (.ref ky), .val (.int p1), .val (.int (own_blk p1)), .val (.int (Int32.ofNat (own_find fe fw k0 k1 (own_blk p1))))] [(.int (16 : Int32)), (.int ((2 : Int32) * used2))]))) (own_len X24 hx hZ e24 V_wd (z := (16 : Int32)) rfl (g := (mkF m 99 #[.val (.ref a), .val (.ref ky), .val (.int p1), .val (.int (own_blk p1)), .val (.int (Int32.ofNat (own_find fe fw k0 k1 (own_blk p1))))] [(.ref wd), (.int ((2 : Int32) * used2))])) rfl rfl (hb hby d7_99)) ?_
    have hle : ¬ (16 : Int32) < (2 : Int32) * used2 := by
      obtain ⟨u, hu1, rfl⟩ := hu
      have q : ∀ m : Fin 5, ¬ (16 : Int32) < (2 : Int32) * Int32.ofNat m.1 := by decide +kernel
      exact q ⟨u, by omega⟩
    refine own_st (U' := (T24.setTop (mkF m 107 #[.val (.ref a), .val (.ref ky), .val (.int p1), .val (.int (own_blk p1)), .val (.int (Int32.ofNat (own_find fe fw k0 k1 (own_blk p1))))] []))) (fun _ k => XS.icmpYes X24.here hx rfl (pc0 := 100) (pc' := 107) rfl (hb hby d7_100) rfl (flt hle).2.2.2 (by decide) (by decide) k) ?_
    exact own_retV X24 hx Bd.returns Bd.notSynchronized (hb hby d7_107) (by decide) (by decide) (⟨_, _, _, _, rfl, N22, by rw [e24]; exact K22, ⟨by rw [e24]; exact E_a, by rw [e24]; exact F_width, by rw [e24]; exact F_entries, by rw [e24]; exact F_words, by rw [e24]; exact F_used, by rw [e24]; exact F_last, by rw [e24]; exact V_en, by rw [e24]; exact V_wd, ne_a_en, ne_a_wd, ne_en_wd⟩, I.add hc hp hu rfl⟩)
  by_cases c1 : fw (own_find fe fw k0 k1 (own_blk p1)) = 0
  · skip
    refine own_st (U' := (T18.setTop (mkF m 25 #[.val (.ref a), .val (.ref ky), .val (.int p1), .val (.int (own_blk p1)), .val (.int (Int32.ofNat (own_find fe fw k0 k1 (own_blk p1))))] []))) (fun _ k => XS.ifNo X18.here hx rfl (hb hby d7_22) rfl ((if0 _ _).trans (teq ((own_lc _).mpr c1)).2) k) ?_
    refine own_st (U' := (T18.setTop (mkF m 26 #[.val (.ref a), .val (.ref ky), .val (.int p1), .val (.int (own_blk p1)), .val (.int (Int32.ofNat (own_find fe fw k0 k1 (own_blk p1))))] [(.ref ky)]))) (fun _ k => XS.aloadN X18.here hx rfl (hb hby d7_25) rfl rfl k) ?_
    refine own_st (U' := (T18.setTop (mkF m 27 #[.val (.ref a), .val (.ref ky), .val (.int p1), .val (.int (own_blk p1)), .val (.int (Int32.ofNat (own_find fe fw k0 k1 (own_blk p1))))] [(.int (0 : Int32)), (.ref ky)]))) (fun _ k => XS.iconst X18.here hx rfl (hb hby d7_26) k) ?_
    refine own_st (U' := (T18.setTop (mkF m 28 #[.val (.ref a), .val (.ref ky), .val (.int p1), .val (.int (own_blk p1)), .val (.int (Int32.ofNat (own_find fe fw k0 k1 (own_blk p1))))] [(.ref a), (.int (0 : Int32)), (.ref ky)]))) (fun _ k => XS.aloadN X18.here hx rfl (hb hby d7_27) rfl rfl k) ?_
    obtain ⟨T25, X25, e25, st25⟩ := getF X18 hx hZ hown (host := "") (Or.inl (hw _ (List.mem_of_getElem? (i := 28) rfl))) Via.refl e18 F_entries (g := (mkF m 28 #[.val (.ref a), .val (.ref ky), .val (.int p1), .val (.int (own_blk p1)), .val (.int (Int32.ofNat (own_find fe fw k0 k1 (own_blk p1))))] [(.ref a), (.int (0 : Int32)), (.ref ky)])) rfl rfl (hb hby d7_28)
    refine own_st (U' := (T25.setTop (mkF m 31 #[.val (.ref a), .val (.ref ky), .val (.int p1), .val (.int (own_blk p1)), .val (.int (Int32.ofNat (own_find fe fw k0 k1 (own_blk p1))))] [(.ref en), (.int (0 : Int32)), (.ref ky)]))) st25 ?_
    refine own_st (U' := (T25.setTop (mkF m 33 #[.val (.ref a), .val (.ref ky), .val (.int p1), .val (.int (own_blk p1)), .val (.int (Int32.ofNat (own_find fe fw k0 k1 (own_blk p1))))] [(.int (Int32.ofNat (own_find fe fw k0 k1 (own_blk p1)))), (.ref en), (.int (0 : Int32)), (.ref ky)]))) (fun _ k => XS.iload X25.here hx rfl (hb hby d7_31) rfl k) ?_
    refine own_st (U' := (T25.setTop (mkF m 34 #[.val (.ref a), .val (.ref ky), .val (.int p1), .val (.int (own_blk p1)), .val (.int (Int32.ofNat (own_find fe fw k0 k1 (own_blk p1))))] [(.ref a), (.int (Int32.ofNat (own_find fe fw k0 k1 (own_blk p1)))), (.ref en), (.int (0 : Int32)), (.ref ky)]))) (fun _ k => XS.aloadN X25.here hx rfl (hb hby d7_33) rfl rfl k) ?_
    obtain ⟨T26, X26, e26, st26⟩ := getF X25 hx hZ hown (host := "") (Or.inl (hw _ (List.mem_of_getElem? (i := 26) rfl))) Via.refl e25 F_width (g := (mkF m 34 #[.val (.ref a), .val (.ref ky), .val (.int p1), .val (.int (own_blk p1)), .val (.int (Int32.ofNat (own_find fe fw k0 k1 (own_blk p1))))] [(.ref a), (.int (Int32.ofNat (own_find fe fw k0 k1 (own_blk p1)))), (.ref en), (.int (0 : Int32)), (.ref ky)])) rfl rfl (hb hby d7_34)
    refine own_st (U' := (T26.setTop (mkF m 37 #[.val (.ref a), .val (.ref ky), .val (.int p1), .val (.int (own_blk p1)), .val (.int (Int32.ofNat (own_find fe fw k0 k1 (own_blk p1))))] [(.int (3 : Int32)), (.int (Int32.ofNat (own_find fe fw k0 k1 (own_blk p1)))), (.ref en), (.int (0 : Int32)), (.ref ky)]))) st26 ?_
    refine own_st (U' := (T26.setTop (mkF m 38 #[.val (.ref a), .val (.ref ky), .val (.int p1), .val (.int (own_blk p1)), .val (.int (Int32.ofNat (own_find fe fw k0 k1 (own_blk p1))))] [(.int ((Int32.ofNat (own_find fe fw k0 k1 (own_blk p1))) * (3 : Int32))), (.ref en), (.int (0 : Int32)), (.ref ky)]))) (fun _ k => XS.imul X26.here hx rfl (hb hby d7_37) rfl k) ?_
    rw [own_pl1 hr]
    refine own_st (U' := (T26.setTop (mkF m 39 #[.val (.ref a), .val (.ref ky), .val (.int p1), .val (.int (own_blk p1)), .val (.int (Int32.ofNat (own_find fe fw k0 k1 (own_blk p1))))] [(.ref ky), (.int (Int32.ofNat (3 * (own_find fe fw k0 k1 (own_blk p1))))), (.ref en), (.int (0 : Int32)), (.ref ky)]))) (fun _ k => XS.aloadN X26.here hx rfl (hb hby d7_38) rfl rfl k) ?_
    refine own_st (U' := (T26.setTop (mkF m 40 #[.val (.ref a), .val (.ref ky), .val (.int p1), .val (.int (own_blk p1)), .val (.int (Int32.ofNat (own_find fe fw k0 k1 (own_blk p1))))] [(.int (2 : Int32)), (.int (Int32.ofNat (3 * (own_find fe fw k0 k1 (own_blk p1))))), (.ref en), (.int (0 : Int32)), (.ref ky)]))) (own_len X26 hx hZ e26 V_ky (z := (2 : Int32)) rfl (g := (mkF m 39 #[.val (.ref a), .val (.ref ky), .val (.int p1), .val (.int (own_blk p1)), .val (.int (Int32.ofNat (own_find fe fw k0 k1 (own_blk p1))))] [(.ref ky), (.int (Int32.ofNat (3 * (own_find fe fw k0 k1 (own_blk p1))))), (.ref en), (.int (0 : Int32)), (.ref ky)])) rfl rfl (hb hby d7_39)) ?_
    obtain ⟨T27, h27, X27, e27, K27q, V27, st27⟩ := own_copy (q := 3 * (own_find fe fw k0 k1 (own_blk p1))) (k := 2) (f := fun j => [k0, k1].getD j 0) X26 hx hZ hown (hw _ (List.mem_of_getElem? (i := 47) rfl)) (hw _ (List.mem_of_getElem? (i := 50) rfl)) (hw _ (List.mem_of_getElem? (i := 48) rfl)) (hw _ (List.mem_of_getElem? (i := 49) rfl)) e26 V_ky V_en (by decide) (by decide) (by omega) rfl rfl (g := (mkF m 40 #[.val (.ref a), .val (.ref ky), .val (.int p1), .val (.int (own_blk p1)), .val (.int (Int32.ofNat (own_find fe fw k0 k1 (own_blk p1))))] [(.int (2 : Int32)), (.int (Int32.ofNat (3 * (own_find fe fw k0 k1 (own_blk p1))))), (.ref en), (.int (0 : Int32)), (.ref ky)])) rfl (by rw [hml]; rfl) (rest := []) rfl (hb hby d7_40) (W := 0) (by show 2 * 0 + _ ≤ _; exact Nat.le_of_eq rfl) (by decide) (by decide)
    have V_ky := V_ky.keep K27q (ninS ne_ky_en nin0)
    have E_a := E_a.keep K27q
    have F_width := F_width.keep K27q (ninS ne_a_en nin0)
    have F_entries := F_entries.keep K27q (ninS ne_a_en nin0)
    have F_words := F_words.keep K27q (ninS ne_a_en nin0)
    have F_used := F_used.keep K27q (ninS ne_a_en nin0)
    have F_last := F_last.keep K27q (ninS ne_a_en nin0)
    have V_wd := V_wd.keep K27q (ninS (Ne.symm ne_en_wd) nin0)
    have V_en := V27
    have N27 := own_copyFr (b := en) (q := 3 * (own_find fe fw k0 k1 (own_blk p1))) (k := 2) N17 g_en
    have Z27 : n0 ≤ h27.size := Nat.le_trans Z17 K27q.1
    have K27 : Keep h0 h27 [a, en, wd] := K17.trans K27q (fun x hx => Or.inl (by cases List.mem_singleton.mp hx; exact List.mem_cons_of_mem _ (List.mem_cons_self ..)))
    refine own_st (U' := (T27.setTop (mkF m 43 #[.val (.ref a), .val (.ref ky), .val (.int p1), .val (.int (own_blk p1)), .val (.int (Int32.ofNat (own_find fe fw k0 k1 (own_blk p1))))] []))) st27 ?_
    refine own_st (U' := (T27.setTop (mkF m 44 #[.val (.ref a), .val (.ref ky), .val (.int p1), .val (.int (own_blk p1)), .val (.int (Int32.ofNat (own_find fe fw k0 k1 (own_blk p1))))] [(.ref a)]))) (fun _ k => XS.aloadN X27.here hx rfl (hb hby d7_43) rfl rfl k) ?_
    obtain ⟨T28, X28, e28, st28⟩ := getF X27 hx hZ hown (host := "") (Or.inl (hw _ (List.mem_of_getElem? (i := 28) rfl))) Via.refl e27 F_entries (g := (mkF m 44 #[.val (.ref a), .val (.ref ky), .val (.int p1), .val (.int (own_blk p1)), .val (.int (Int32.ofNat (own_find fe fw k0 k1 (own_blk p1))))] [(.ref a)])) rfl rfl (hb hby d7_44)
    refine own_st (U' := (T28.setTop (mkF m 47 #[.val (.ref a), .val (.ref ky), .val (.int p1), .val (.int (own_blk p1)), .val (.int (Int32.ofNat (own_find fe fw k0 k1 (own_blk p1))))] [(.ref en)]))) st28 ?_
    refine own_st (U' := (T28.setTop (mkF m 49 #[.val (.ref a), .val (.ref ky), .val (.int p1), .val (.int (own_blk p1)), .val (.int (Int32.ofNat (own_find fe fw k0 k1 (own_blk p1))))] [(.int (Int32.ofNat (own_find fe fw k0 k1 (own_blk p1)))), (.ref en)]))) (fun _ k => XS.iload X28.here hx rfl (hb hby d7_47) rfl k) ?_
    refine own_st (U' := (T28.setTop (mkF m 50 #[.val (.ref a), .val (.ref ky), .val (.int p1), .val (.int (own_blk p1)), .val (.int (Int32.ofNat (own_find fe fw k0 k1 (own_blk p1))))] [(.ref a), (.int (Int32.ofNat (own_find fe fw k0 k1 (own_blk p1)))), (.ref en)]))) (fun _ k => XS.aloadN X28.here hx rfl (hb hby d7_49) rfl rfl k) ?_
    obtain ⟨T29, X29, e29, st29⟩ := getF X28 hx hZ hown (host := "") (Or.inl (hw _ (List.mem_of_getElem? (i := 26) rfl))) Via.refl e28 F_width (g := (mkF m 50 #[.val (.ref a), .val (.ref ky), .val (.int p1), .val (.int (own_blk p1)), .val (.int (Int32.ofNat (own_find fe fw k0 k1 (own_blk p1))))] [(.ref a), (.int (Int32.ofNat (own_find fe fw k0 k1 (own_blk p1)))), (.ref en)])) rfl rfl (hb hby d7_50)
    refine own_st (U' := (T29.setTop (mkF m 53 #[.val (.ref a), .val (.ref ky), .val (.int p1), .val (.int (own_blk p1)), .val (.int (Int32.ofNat (own_find fe fw k0 k1 (own_blk p1))))] [(.int (3 : Int32)), (.int (Int32.ofNat (own_find fe fw k0 k1 (own_blk p1)))), (.ref en)]))) st29 ?_
    refine own_st (U' := (T29.setTop (mkF m 54 #[.val (.ref a), .val (.ref ky), .val (.int p1), .val (.int (own_blk p1)), .val (.int (Int32.ofNat (own_find fe fw k0 k1 (own_blk p1))))] [(.int ((Int32.ofNat (own_find fe fw k0 k1 (own_blk p1))) * (3 : Int32))), (.ref en)]))) (fun _ k => XS.imul X29.here hx rfl (hb hby d7_53) rfl k) ?_
    rw [own_pl1 hr]
    refine own_st (U' := (T29.setTop (mkF m 55 #[.val (.ref a), .val (.ref ky), .val (.int p1), .val (.int (own_blk p1)), .val (.int (Int32.ofNat (own_find fe fw k0 k1 (own_blk p1))))] [(.ref ky), (.int (Int32.ofNat (3 * (own_find fe fw k0 k1 (own_blk p1))))), (.ref en)]))) (fun _ k => XS.aloadN X29.here hx rfl (hb hby d7_54) rfl rfl k) ?_
    refine own_st (U' := (T29.setTop (mkF m 56 #[.val (.ref a), .val (.ref ky), .val (.int p1), .val (.int (own_blk p1)), .val (.int (Int32.ofNat (own_find fe fw k0 k1 (own_blk p1))))] [(.int (2 : Int32)), (.int (Int32.ofNat (3 * (own_find fe fw k0 k1 (own_blk p1))))), (.ref en)]))) (own_len X29 hx hZ e29 V_ky (z := (2 : Int32)) rfl (g := (mkF m 55 #[.val (.ref a), .val (.ref ky), .val (.int p1), .val (.int (own_blk p1)), .val (.int (Int32.ofNat (own_find fe fw k0 k1 (own_blk p1))))] [(.ref ky), (.int (Int32.ofNat (3 * (own_find fe fw k0 k1 (own_blk p1))))), (.ref en)])) rfl rfl (hb hby d7_55)) ?_
    refine own_st (U' := (T29.setTop (mkF m 57 #[.val (.ref a), .val (.ref ky), .val (.int p1), .val (.int (own_blk p1)), .val (.int (Int32.ofNat (own_find fe fw k0 k1 (own_blk p1))))] [(.int ((Int32.ofNat (3 * (own_find fe fw k0 k1 (own_blk p1)))) + (2 : Int32))), (.ref en)]))) (fun _ k => XS.iadd X29.here hx rfl (hb hby d7_56) rfl k) ?_
    rw [own_pl2 hr]
    refine own_st (U' := (T29.setTop (mkF m 58 #[.val (.ref a), .val (.ref ky), .val (.int p1), .val (.int (own_blk p1)), .val (.int (Int32.ofNat (own_find fe fw k0 k1 (own_blk p1))))] [(.int (own_blk p1)), (.int (Int32.ofNat (3 * (own_find fe fw k0 k1 (own_blk p1)) + 2))), (.ref en)]))) (fun _ k => XS.iloadN X29.here hx rfl (hb hby d7_57) rfl k) ?_
    obtain ⟨T30, h30, X30, e30, W30, V30, st30⟩ := own_stI X29 hx hZ e29 V_en (j := (Int32.ofNat (3 * (own_find fe fw k0 k1 (own_blk p1)) + 2))) (i := (3 * (own_find fe fw k0 k1 (own_blk p1)) + 2)) (own_ofN (by omega)).1 (own_ofN (by omega)).2 (by omega) (g := (mkF m 58 #[.val (.ref a), .val (.ref ky), .val (.int p1), .val (.int (own_blk p1)), .val (.int (Int32.ofNat (own_find fe fw k0 k1 (own_blk p1))))] [(.int (own_blk p1)), (.int (Int32.ofNat (3 * (own_find fe fw k0 k1 (own_blk p1)) + 2))), (.ref en)])) rfl rfl (hb hby d7_58)
    have V_ky := V_ky.other W30 ne_ky_en
    have E_a := E_a.wr W30
    have F_width := F_width.other W30 (Or.inl ne_a_en)
    have F_entries := F_entries.other W30 (Or.inl ne_a_en)
    have F_words := F_words.other W30 (Or.inl ne_a_en)
    have F_used := F_used.other W30 (Or.inl ne_a_en)
    have F_last := F_last.other W30 (Or.inl ne_a_en)
    have V_wd := V_wd.other W30 (Ne.symm ne_en_wd)
    have V_en := V30
    have N30 := Fr.snoc X30 N27 g_en
    have Z30 : n0 ≤ h30.size := Nat.le_trans Z27 (Nat.le_of_eq W30.size.symm)
    have K30 := K27.wr W30 (Or.inl (List.mem_of_getElem? (i := 1) rfl))
    refine own_st (U' := (T30.setTop (mkF m 59 #[.val (.ref a), .val (.ref ky), .val (.int p1), .val (.int (own_blk p1)), .val (.int (Int32.ofNat (own_find fe fw k0 k1 (own_blk p1))))] []))) st30 ?_
    have V_en : own_A Z h30 en .int 48 (fun j => .int ((own_put fe (own_find fe fw k0 k1 (own_blk p1)) k0 k1 (own_blk p1)) j)) := V_en.congr (fun j hj => own_put_copy fe _ k0 k1 _ j)
    refine own_st (U' := (T30.setTop (mkF m 60 #[.val (.ref a), .val (.ref ky), .val (.int p1), .val (.int (own_blk p1)), .val (.int (Int32.ofNat (own_find fe fw k0 k1 (own_blk p1))))] [(.ref a)]))) (fun _ k => XS.aloadN X30.here hx rfl (hb hby d7_59) rfl rfl k) ?_
    refine own_st (U' := (T30.setTop (mkF m 61 #[.val (.ref a), .val (.ref ky), .val (.int p1), .val (.int (own_blk p1)), .val (.int (Int32.ofNat (own_find fe fw k0 k1 (own_blk p1))))] [(.ref a), (.ref a)]))) (fun _ k => XS.dup X30.here hx rfl (hb hby d7_60) rfl rfl k) ?_
    obtain ⟨T31, X31, e31, st31⟩ := getF X30 hx hZ hown (host := "") (Or.inl (hw _ (List.mem_of_getElem? (i := 51) rfl))) Via.refl e30 F_used (g := (mkF m 61 #[.val (.ref a), .val (.ref ky), .val (.int p1), .val (.int (own_blk p1)), .val (.int (Int32.ofNat (own_find fe fw k0 k1 (own_blk p1))))] [(.ref a), (.ref a)])) rfl rfl (hb hby d7_61)
    refine own_st (U' := (T31.setTop (mkF m 64 #[.val (.ref a), .val (.ref ky), .val (.int p1), .val (.int (own_blk p1)), .val (.int (Int32.ofNat (own_find fe fw k0 k1 (own_blk p1))))] [(.int used), (.ref a)]))) st31 ?_
    refine own_st (U' := (T31.setTop (mkF m 65 #[.val (.ref a), .val (.ref ky), .val (.int p1), .val (.int (own_blk p1)), .val (.int (Int32.ofNat (own_find fe fw k0 k1 (own_blk p1))))] [(.int (1 : Int32)), (.int used), (.ref a)]))) (fun _ k => XS.iconst X31.here hx rfl (hb hby d7_64) k) ?_
    refine own_st (U' := (T31.setTop (mkF m 66 #[.val (.ref a), .val (.ref ky), .val (.int p1), .val (.int (own_blk p1)), .val (.int (Int32.ofNat (own_find fe fw k0 k1 (own_blk p1))))] [(.int (used + (1 : Int32))), (.ref a)]))) (fun _ k => XS.iadd X31.here hx rfl (hb hby d7_65) rfl k) ?_
    obtain ⟨T32, h32, X32, e32, W32, st32⟩ := putF X31 hx hZ hown (host := "") (Or.inl (hw _ (List.mem_of_getElem? (i := 51) rfl))) Via.refl e31 F_used E_a (Or.inl (hw _ (List.mem_of_getElem? (i := 52) rfl))) (hw _ (List.mem_of_getElem? (i := 16) rfl)) (ty := .int) (by decide) rfl rfl (g := (mkF m 66 #[.val (.ref a), .val (.ref ky), .val (.int p1), .val (.int (own_blk p1)), .val (.int (Int32.ofNat (own_find fe fw k0 k1 (own_blk p1))))] [(.int (used + (1 : Int32))), (.ref a)])) rfl rfl (hb hby d7_66)
    have F_used := F_used.same W32
    have V_ky := V_ky.other W32 ne_ky_a
    have E_a := E_a.wr W32
    have F_width := F_width.other W32 (Or.inr (slot_ne (Or.inr (hw _ (List.mem_of_getElem? (i := 27) rfl))) (Or.inl (hw _ (List.mem_of_getElem? (i := 52) rfl))) (by decide) (t := .int) (t' := .int) (by decide) (by decide)))
    have F_entries := F_entries.other W32 (Or.inr (slot_ne (Or.inl (hw _ (List.mem_of_getElem? (i := 29) rfl))) (Or.inl (hw _ (List.mem_of_getElem? (i := 52) rfl))) (by decide) (t := (.array .int)) (t' := .int) (by decide) (by decide)))
    have F_words := F_words.other W32 (Or.inr (slot_ne (Or.inl (hw _ (List.mem_of_getElem? (i := 32) rfl))) (Or.inl (hw _ (List.mem_of_getElem? (i := 52) rfl))) (by decide) (t := (.array .long)) (t' := .int) (by decide) (by decide)))
    have F_last := F_last.other W32 (Or.inr (slot_ne (Or.inl (hw _ (List.mem_of_getElem? (i := 25) rfl))) (Or.inl (hw _ (List.mem_of_getElem? (i := 52) rfl))) (by decide) (t := .int) (t' := .int) (by decide) (by decide)))
    have V_en := V_en.other W32 (Ne.symm ne_a_en)
    have V_wd := V_wd.other W32 (Ne.symm ne_a_wd)
    have N32 := Fr.snoc X32 N30 g_a
    have Z32 : n0 ≤ h32.size := Nat.le_trans Z30 (Nat.le_of_eq W32.size.symm)
    have K32 := K30.wr W32 (Or.inl (List.mem_of_getElem? (i := 0) rfl))
    refine own_st (U' := (T32.setTop (mkF m 69 #[.val (.ref a), .val (.ref ky), .val (.int p1), .val (.int (own_blk p1)), .val (.int (Int32.ofNat (own_find fe fw k0 k1 (own_blk p1))))] []))) st32 ?_
    obtain ⟨u0, hu1, hu2⟩ := I.1
    exact tail _ _ _ _ ⟨u0 + 1, by omega, by rw [hu2]; exact (Int32.ofNat_add u0 1).symm⟩ X32 e32 N32 Z32 K32 E_a F_width F_entries F_words F_used F_last V_en V_wd
  · skip
    refine own_st (U' := (T18.setTop (mkF m 69 #[.val (.ref a), .val (.ref ky), .val (.int p1), .val (.int (own_blk p1)), .val (.int (Int32.ofNat (own_find fe fw k0 k1 (own_blk p1))))] []))) (fun _ k => XS.ifYes X18.here hx rfl (pc0 := 22) (pc' := 69) rfl (hb hby d7_22) rfl ((if0 _ _).trans (feq (fun q => c1 ((own_lc _).mp q))).2) (by decide) (by decide) k) ?_
    have hd : own_hd fe (own_find fe fw k0 k1 (own_blk p1)) k0 k1 (own_blk p1) = true := by simpa [own_stop, c1] using hst
    obtain ⟨u0, hu1, hu2⟩ := I.1
    exact tail _ _ _ _ ⟨u0, by omega, hu2⟩ X18 e18 N17 Z17 K17 E_a F_width F_entries F_words F_used F_last (V_en.congr (fun j _ => by rw [own_put_same _ _ _ _ _ hd j])) V_wd
theorem d5_0 : decode prog_45_method_1_code 0 = .ok (.aload_n 0, 1) := by decide +kernel
theorem d5_1 : decode prog_45_method_1_code 1 = .ok (.invokespecial 1, 3) := by decide +kernel
theorem d5_4 : decode prog_45_method_1_code 4 = .ok (.aload_n 0, 1) := by decide +kernel
theorem d5_5 : decode prog_45_method_1_code 5 = .ok (.iconst (-1), 1) := by decide +kernel
theorem d5_6 : decode prog_45_method_1_code 6 = .ok (.putfield 7, 3) := by decide +kernel
theorem d5_9 : decode prog_45_method_1_code 9 = .ok (.aload_n 0, 1) := by decide +kernel
theorem d5_10 : decode prog_45_method_1_code 10 = .ok (.iload_n 1, 1) := by decide +kernel
theorem d5_11 : decode prog_45_method_1_code 11 = .ok (.iconst 1, 1) := by decide +kernel
theorem d5_12 : decode prog_45_method_1_code 12 = .ok (.iadd, 1) := by decide +kernel
theorem d5_13 : decode prog_45_method_1_code 13 = .ok (.putfield 13, 3) := by decide +kernel
theorem d5_16 : decode prog_45_method_1_code 16 = .ok (.aload_n 0, 1) := by decide +kernel
theorem d5_17 : decode prog_45_method_1_code 17 = .ok (.bipush 16, 2) := by decide +kernel
theorem d5_19 : decode prog_45_method_1_code 19 = .ok (.aload_n 0, 1) := by decide +kernel
theorem d5_20 : decode prog_45_method_1_code 20 = .ok (.getfield 13, 3) := by decide +kernel
theorem d5_23 : decode prog_45_method_1_code 23 = .ok (.imul, 1) := by decide +kernel
theorem d5_24 : decode prog_45_method_1_code 24 = .ok (.newarray .int, 2) := by decide +kernel
theorem d5_26 : decode prog_45_method_1_code 26 = .ok (.putfield 16, 3) := by decide +kernel
theorem d5_29 : decode prog_45_method_1_code 29 = .ok (.aload_n 0, 1) := by decide +kernel
theorem d5_30 : decode prog_45_method_1_code 30 = .ok (.bipush 16, 2) := by decide +kernel
theorem d5_32 : decode prog_45_method_1_code 32 = .ok (.newarray .long, 2) := by decide +kernel
theorem d5_34 : decode prog_45_method_1_code 34 = .ok (.putfield 20, 3) := by decide +kernel
theorem d5_37 : decode prog_45_method_1_code 37 = .ok (.return_, 1) := by decide +kernel
theorem pn_rmInit : plainName "com/example/quorum/quorum/FailedStates" = true := by first | (simp [plainName, overriddenIn]; done) | decide +kernel
theorem pd_d5 : parseMethodDescriptor "(I)V" = some ⟨[.int], none⟩ := by decide +kernel
theorem ef_rmInit (m : MethodId) (x0 : Addr) (x1 : Int32) : entryFrame m #[(.ref x0), (.int x1)] 2 = mkF m 0 #[.val (.ref x0), .val (.int x1)] [] := by first | (simp [entryFrame, mkF, argsToLocals, Value.category, maxLocals]; done) | rfl
def Q_rmInit (Z : State) (a : Addr) (h0 : Heap) (n0 : Nat) (v : Option Value) (h : Heap) (L : List Loc) : Prop := v = none ∧ Fr n0 L ∧ Keep h0 h [a] ∧ ∃ en wd, h0.size ≤ en ∧ h0.size ≤ wd ∧ own_FS Z h a en wd (fun _ => 0) (fun _ => 0) 0 (-1)
set_option maxRecDepth 65536 in
set_option maxHeartbeats 40000000 in
theorem rmInit (l : Launch) (Z : State) (a0 : Array Value) (hw : ∀ d ∈ tables_1, d.before a0 Z = true) (ws : List Jvm.Cond) (a : Addr) (h0 : Heap) (n0 : Nat) (Z0 : n0 ≤ h0.size) (E_a : Exa Z h0 a "com/example/quorum/quorum/FailedStates") (F_width : Fld Z h0 a "com/example/quorum/quorum/FailedStates" "width" "I" (.int 0)) (F_entries : Fld Z h0 a "com/example/quorum/quorum/FailedStates" "entries" "[I" .null) (F_words : Fld Z h0 a "com/example/quorum/quorum/FailedStates" "words" "[J" .null) (F_used : Fld Z h0 a "com/example/quorum/quorum/FailedStates" "used" "I" (.int 0)) (F_last : Fld Z h0 a "com/example/quorum/quorum/FailedStates" "lastSlot" "I" (.int 0)) (g_a : n0 ≤ a) :
    MetFree l (⟨"com/example/quorum/quorum/FailedStates", "<init>", "(I)V"⟩ : MethodName) (head1 (Jvm.Cond.code (⟨"com/example/quorum/quorum/FailedStates", "<init>", "(I)V"⟩ : MethodName) prog_45_method_1_code 2 none :: ws) ({ frames := 1, cells := 2, slots := 64, locals := 13 } : Room)) (fun as1 U => as1 = #[(.ref a), (.int (2 : Int32))] ∧ Z.Warmed39 U.vm ∧ U.heap = h0) (fun _ _ _ _ _ => True) (fun _ U o U' => ∃ v L, o = .returned v ∧ Q_rmInit Z a h0 n0 v U'.heap L ∧ FrameEnd U o U' L ({ frames := 1, cells := 2, slots := 64, locals := 13 } : Room).cells ({ frames := 1, cells := 2, slots := 64, locals := 13 } : Room).slots) := by
  refine MetFree.of_bodySF (plainFor_of_name pn_rmInit) hisR ?_
  intro p e s m args below meth c s₁ Bd hml0 hP hK
  obtain ⟨rfl, hZ, hh⟩ := hP
  have hx := Bd.exec
  have hby := Bd.bytes
  have hml : c.maxLocals = 2 := hml0
  have hown : s.vm.findClass "com/example/quorum/quorum/FailedStates" = some m.cls := findClass_of_methodNamed Bd.named
  have hnm := (name_of_methodNamed Bd.named Bd.method).1
  have X0 : Stand p l e ({ frames := 1, cells := 2, slots := 64, locals := 13 } : Room) s m #[(.ref a), (.int (2 : Int32))] below meth c s₁ [] 0 0 := Stand.of_body Bd
  have e0 : s₁.heap = h0 := by rw [← hh, Bd.state]; rfl
  have N0 := Fr.nil n0
  show own_Ends p e s below (Q_rmInit Z a h0 n0) ({ frames := 1, cells := 2, slots := 64, locals := 13 } : Room).cells ({ frames := 1, cells := 2, slots := 64, locals := 13 } : Room).slots (s₁.setTop (entryFrame m #[(.ref a), (.int (2 : Int32))] 2))
  refine own_st (U' := (s₁.setTop (mkF m 0 #[.val (.ref a), .val (.int (2 : Int32))] []))) (fun _ k => castTop (ef_rmInit m a (2 : Int32)) k) ?_
  refine own_st (U' := (s₁.setTop (mkF m 1 #[.val (.ref a), .val (.int (2 : Int32))] [(.ref a)]))) (fun _ k => XS.aloadN X0.here hx rfl (hb hby d5_0) rfl rfl k) ?_
  obtain ⟨T33, X33, e33, st33⟩ := initO X0 hx hZ hown (hw _ (List.mem_of_getElem? (i := 21) rfl)) (hw _ (List.mem_of_getElem? (i := 22) rfl)) (hw _ (List.mem_of_getElem? (i := 23) rfl)) e0 (g := (mkF m 1 #[.val (.ref a), .val (.int (2 : Int32))] [(.ref a)])) rfl (by rw [hml]; rfl) rfl (hb hby d5_1) (by decide) (W := 0) (by show 2 * 0 + _ ≤ _; exact Nat.le_of_eq rfl) (by decide)
  refine own_st (U' := (T33.setTop (mkF m 4 #[.val (.ref a), .val (.int (2 : Int32))] []))) st33 ?_
  refine own_st (U' := (T33.setTop (mkF m 5 #[.val (.ref a), .val (.int (2 : Int32))] [(.ref a)]))) (fun _ k => XS.aloadN X33.here hx rfl (hb hby d5_4) rfl rfl k) ?_
  refine own_st (U' := (T33.setTop (mkF m 6 #[.val (.ref a), .val (.int (2 : Int32))] [(.int (-1 : Int32)), (.ref a)]))) (fun _ k => XS.iconst X33.here hx rfl (hb hby d5_5) k) ?_
  obtain ⟨T34, h34, X34, e34, W34, st34⟩ := putF X33 hx hZ hown (host := "") (Or.inl (hw _ (List.mem_of_getElem? (i := 24) rfl))) Via.refl e33 F_last E_a (Or.inl (hw _ (List.mem_of_getElem? (i := 25) rfl))) (hw _ (List.mem_of_getElem? (i := 16) rfl)) (ty := .int) (by decide) rfl rfl (g := (mkF m 6 #[.val (.ref a), .val (.int (2 : Int32))] [(.int (-1 : Int32)), (.ref a)])) rfl rfl (hb hby d5_6)
  have F_last := F_last.same W34
  have E_a := E_a.wr W34
  have F_width := F_width.other W34 (Or.inr (slot_ne (Or.inr (hw _ (List.mem_of_getElem? (i := 27) rfl))) (Or.inl (hw _ (List.mem_of_getElem? (i := 25) rfl))) (by decide) (t := .int) (t' := .int) (by decide) (by decide)))
  have F_entries := F_entries.other W34 (Or.inr (slot_ne (Or.inl (hw _ (List.mem_of_getElem? (i := 29) rfl))) (Or.inl (hw _ (List.mem_of_getElem? (i := 25) rfl))) (by decide) (t := (.array .int)) (t' := .int) (by decide) (by decide)))
  have F_words := F_words.other W34 (Or.inr (slot_ne (Or.inl (hw _ (List.mem_of_getElem? (i := 32) rfl))) (Or.inl (hw _ (List.mem_of_getElem? (i := 25) rfl))) (by decide) (t := (.array .long)) (t' := .int) (by decide) (by decide)))
  have F_used := F_used.other W34 (Or.inr (slot_ne (Or.inl (hw _ (List.mem_of_getElem? (i := 52) rfl))) (Or.inl (hw _ (List.mem_of_getElem? (i := 25) rfl))) (by decide) (t := .int) (t' := .int) (by decide) (by decide)))
  have N34 := Fr.snoc X34 N0 g_a
  have Z34 : n0 ≤ h34.size := Nat.le_trans Z0 (Nat.le_of_eq W34.size.symm)
  have K34 := (Keep.refl h0 [a]).wr W34 (Or.inl (List.mem_of_getElem? (i := 0) rfl))
  refine own_st (U' := (T34.setTop (mkF m 9 #[.val (.ref a), .val (.int (2 : Int32))] []))) st34 ?_
  refine own_st (U' := (T34.setTop (mkF m 10 #[.val (.ref a), .val (.int (2 : Int32))] [(.ref a)]))) (fun _ k => XS.aloadN X34.here hx rfl (hb hby d5_9) rfl rfl k) ?_
  refine own_st (U' := (T34.setTop (mkF m 11 #[.val (.ref a), .val (.int (2 : Int32))] [(.int (2 : Int32)), (.ref a)]))) (fun _ k => XS.iloadN X34.here hx rfl (hb hby d5_10) rfl k) ?_
  refine own_st (U' := (T34.setTop (mkF m 12 #[.val (.ref a), .val (.int (2 : Int32))] [(.int (1 : Int32)), (.int (2 : Int32)), (.ref a)]))) (fun _ k => XS.iconst X34.here hx rfl (hb hby d5_11) k) ?_
  refine own_st (U' := (T34.setTop (mkF m 13 #[.val (.ref a), .val (.int (2 : Int32))] [(.int (3 : Int32)), (.ref a)]))) (fun _ k => XS.iadd X34.here hx rfl (hb hby d5_12) rfl k) ?_
  obtain ⟨T35, h35, X35, e35, W35, st35⟩ := putF X34 hx hZ hown (host := "") (Or.inl (hw _ (List.mem_of_getElem? (i := 26) rfl))) Via.refl e34 F_width E_a (Or.inr ⟨(hw _ (List.mem_of_getElem? (i := 27) rfl)), rfl, hnm⟩) (hw _ (List.mem_of_getElem? (i := 16) rfl)) (ty := .int) (by decide) rfl rfl (g := (mkF m 13 #[.val (.ref a), .val (.int (2 : Int32))] [(.int (3 : Int32)), (.ref a)])) rfl rfl (hb hby d5_13)
  have F_width := F_width.same W35
  have E_a := E_a.wr W35
  have F_entries := F_entries.other W35 (Or.inr (slot_ne (Or.inl (hw _ (List.mem_of_getElem? (i := 29) rfl))) (Or.inr (hw _ (List.mem_of_getElem? (i := 27) rfl))) (by decide) (t := (.array .int)) (t' := .int) (by decide) (by decide)))
  have F_words := F_words.other W35 (Or.inr (slot_ne (Or.inl (hw _ (List.mem_of_getElem? (i := 32) rfl))) (Or.inr (hw _ (List.mem_of_getElem? (i := 27) rfl))) (by decide) (t := (.array .long)) (t' := .int) (by decide) (by decide)))
  have F_used := F_used.other W35 (Or.inr (slot_ne (Or.inl (hw _ (List.mem_of_getElem? (i := 52) rfl))) (Or.inr (hw _ (List.mem_of_getElem? (i := 27) rfl))) (by decide) (t := .int) (t' := .int) (by decide) (by decide)))
  have F_last := F_last.other W35 (Or.inr (slot_ne (Or.inl (hw _ (List.mem_of_getElem? (i := 25) rfl))) (Or.inr (hw _ (List.mem_of_getElem? (i := 27) rfl))) (by decide) (t := .int) (t' := .int) (by decide) (by decide)))
  have N35 := Fr.snoc X35 N34 g_a
  have Z35 : n0 ≤ h35.size := Nat.le_trans Z34 (Nat.le_of_eq W35.size.symm)
  have K35 := K34.wr W35 (Or.inl (List.mem_of_getElem? (i := 0) rfl))
  refine own_st (U' := (T35.setTop (mkF m 16 #[.val (.ref a), .val (.int (2 : Int32))] []))) st35 ?_
  refine own_st (U' := (T35.setTop (mkF m 17 #[.val (.ref a), .val (.int (2 : Int32))] [(.ref a)]))) (fun _ k => XS.aloadN X35.here hx rfl (hb hby d5_16) rfl rfl k) ?_
  refine own_st (U' := (T35.setTop (mkF m 19 #[.val (.ref a), .val (.int (2 : Int32))] [(.int (16 : Int32)), (.ref a)]))) (fun _ k => XS.bipush X35.here hx rfl (hb hby d5_17) k) ?_
  refine own_st (U' := (T35.setTop (mkF m 20 #[.val (.ref a), .val (.int (2 : Int32))] [(.ref a), (.int (16 : Int32)), (.ref a)]))) (fun _ k => XS.aloadN X35.here hx rfl (hb hby d5_19) rfl rfl k) ?_
  obtain ⟨T36, X36, e36, st36⟩ := getF X35 hx hZ hown (host := "") (Or.inl (hw _ (List.mem_of_getElem? (i := 26) rfl))) Via.refl e35 F_width (g := (mkF m 20 #[.val (.ref a), .val (.int (2 : Int32))] [(.ref a), (.int (16 : Int32)), (.ref a)])) rfl rfl (hb hby d5_20)
  refine own_st (U' := (T36.setTop (mkF m 23 #[.val (.ref a), .val (.int (2 : Int32))] [(.int (3 : Int32)), (.int (16 : Int32)), (.ref a)]))) st36 ?_
  refine own_st (U' := (T36.setTop (mkF m 24 #[.val (.ref a), .val (.int (2 : Int32))] [(.int (48 : Int32)), (.ref a)]))) (fun _ k => XS.imul X36.here hx rfl (hb hby d5_23) rfl k) ?_
  obtain ⟨T37, h37, k37, X37, e37, E37, A37, st37⟩ := newP X36 hx hZ (hw _ (List.mem_of_getElem? (i := 0) rfl)) e36 (g := (mkF m 24 #[.val (.ref a), .val (.int (2 : Int32))] [(.int (48 : Int32)), (.ref a)])) rfl (hb hby d5_24) rfl (by decide) (cap := 48) (by decide) (by decide) (by decide) (by decide)
  obtain ⟨b37, g37⟩ : ∃ z, z = h35.size := ⟨_, rfl⟩
  rw [← g37] at A37 st37
  have ne_a_b37 : a ≠ b37 := Nat.ne_of_lt (Nat.lt_of_lt_of_eq E_a.lt g37.symm)
  have g_b37 : n0 ≤ b37 := Nat.le_trans Z35 (Nat.le_of_eq g37.symm)
  have sz_b37 : h0.size ≤ b37 := Nat.le_trans K35.1 (Nat.le_of_eq g37.symm)
  have E_a := E_a.ext E37
  have F_width := F_width.ext E37
  have F_entries := F_entries.ext E37
  have F_words := F_words.ext E37
  have F_used := F_used.ext E37
  have F_last := F_last.ext E37
  have Z37 : n0 ≤ h37.size := Nat.le_trans Z35 E37.1
  have K37 := K35.ext E37
  have V_b37 : own_A Z h37 b37 .int 48 (fun _ => defaultValue .int) := own_A.new A37 (by decide)
  refine own_st (U' := (T37.setTop (mkF m 26 #[.val (.ref a), .val (.int (2 : Int32))] [(.ref b37), (.ref a)]))) st37 ?_
  obtain ⟨T38, h38, X38, e38, W38, st38⟩ := putF X37 hx hZ hown (host := "") (Or.inl (hw _ (List.mem_of_getElem? (i := 28) rfl))) Via.refl e37 F_entries E_a (Or.inl (hw _ (List.mem_of_getElem? (i := 29) rfl))) (hw _ (List.mem_of_getElem? (i := 16) rfl)) (ty := (.array .int)) (by decide) rfl rfl (g := (mkF m 26 #[.val (.ref a), .val (.int (2 : Int32))] [(.ref b37), (.ref a)])) rfl rfl (hb hby d5_26)
  have F_entries := F_entries.same W38
  have E_a := E_a.wr W38
  have F_width := F_width.other W38 (Or.inr (slot_ne (Or.inr (hw _ (List.mem_of_getElem? (i := 27) rfl))) (Or.inl (hw _ (List.mem_of_getElem? (i := 29) rfl))) (by decide) (t := .int) (t' := (.array .int)) (by decide) (by decide)))
  have F_words := F_words.other W38 (Or.inr (slot_ne (Or.inl (hw _ (List.mem_of_getElem? (i := 32) rfl))) (Or.inl (hw _ (List.mem_of_getElem? (i := 29) rfl))) (by decide) (t := (.array .long)) (t' := (.array .int)) (by decide) (by decide)))
  have F_used := F_used.other W38 (Or.inr (slot_ne (Or.inl (hw _ (List.mem_of_getElem? (i := 52) rfl))) (Or.inl (hw _ (List.mem_of_getElem? (i := 29) rfl))) (by decide) (t := .int) (t' := (.array .int)) (by decide) (by decide)))
  have F_last := F_last.other W38 (Or.inr (slot_ne (Or.inl (hw _ (List.mem_of_getElem? (i := 25) rfl))) (Or.inl (hw _ (List.mem_of_getElem? (i := 29) rfl))) (by decide) (t := .int) (t' := (.array .int)) (by decide) (by decide)))
  have V_b37 := V_b37.other W38 (Ne.symm ne_a_b37)
  have N38 := Fr.snoc X38 N35 g_a
  have Z38 : n0 ≤ h38.size := Nat.le_trans Z37 (Nat.le_of_eq W38.size.symm)
  have K38 := K37.wr W38 (Or.inl (List.mem_of_getElem? (i := 0) rfl))
  refine own_st (U' := (T38.setTop (mkF m 29 #[.val (.ref a), .val (.int (2 : Int32))] []))) st38 ?_
  refine own_st (U' := (T38.setTop (mkF m 30 #[.val (.ref a), .val (.int (2 : Int32))] [(.ref a)]))) (fun _ k => XS.aloadN X38.here hx rfl (hb hby d5_29) rfl rfl k) ?_
  refine own_st (U' := (T38.setTop (mkF m 32 #[.val (.ref a), .val (.int (2 : Int32))] [(.int (16 : Int32)), (.ref a)]))) (fun _ k => XS.bipush X38.here hx rfl (hb hby d5_30) k) ?_
  obtain ⟨T39, h39, k39, X39, e39, E39, A39, st39⟩ := newP X38 hx hZ (hw _ (List.mem_of_getElem? (i := 30) rfl)) e38 (g := (mkF m 32 #[.val (.ref a), .val (.int (2 : Int32))] [(.int (16 : Int32)), (.ref a)])) rfl (hb hby d5_32) rfl (by decide) (cap := 16) (by decide) (by decide) (by decide) (by decide)
  obtain ⟨b39, g39⟩ : ∃ z, z = h38.size := ⟨_, rfl⟩
  rw [← g39] at A39 st39
  have ne_a_b39 : a ≠ b39 := Nat.ne_of_lt (Nat.lt_of_lt_of_eq E_a.lt g39.symm)
  have ne_b37_b39 : b37 ≠ b39 := Nat.ne_of_lt (Nat.lt_of_lt_of_eq V_b37.lt g39.symm)
  have g_b39 : n0 ≤ b39 := Nat.le_trans Z38 (Nat.le_of_eq g39.symm)
  have sz_b39 : h0.size ≤ b39 := Nat.le_trans K38.1 (Nat.le_of_eq g39.symm)
  have E_a := E_a.ext E39
  have F_width := F_width.ext E39
  have F_entries := F_entries.ext E39
  have F_words := F_words.ext E39
  have F_used := F_used.ext E39
  have F_last := F_last.ext E39
  have V_b37 := V_b37.ext E39
  have Z39 : n0 ≤ h39.size := Nat.le_trans Z38 E39.1
  have K39 := K38.ext E39
  have V_b39 : own_A Z h39 b39 .long 16 (fun _ => defaultValue .long) := own_A.new A39 (by decide)
  refine own_st (U' := (T39.setTop (mkF m 34 #[.val (.ref a), .val (.int (2 : Int32))] [(.ref b39), (.ref a)]))) st39 ?_
  obtain ⟨T40, h40, X40, e40, W40, st40⟩ := putF X39 hx hZ hown (host := "") (Or.inl (hw _ (List.mem_of_getElem? (i := 31) rfl))) Via.refl e39 F_words E_a (Or.inl (hw _ (List.mem_of_getElem? (i := 32) rfl))) (hw _ (List.mem_of_getElem? (i := 16) rfl)) (ty := (.array .long)) (by decide) rfl rfl (g := (mkF m 34 #[.val (.ref a), .val (.int (2 : Int32))] [(.ref b39), (.ref a)])) rfl rfl (hb hby d5_34)
  have F_words := F_words.same W40
  have E_a := E_a.wr W40
  have F_width := F_width.other W40 (Or.inr (slot_ne (Or.inr (hw _ (List.mem_of_getElem? (i := 27) rfl))) (Or.inl (hw _ (List.mem_of_getElem? (i := 32) rfl))) (by decide) (t := .int) (t' := (.array .long)) (by decide) (by decide)))
  have F_entries := F_entries.other W40 (Or.inr (slot_ne (Or.inl (hw _ (List.mem_of_getElem? (i := 29) rfl))) (Or.inl (hw _ (List.mem_of_getElem? (i := 32) rfl))) (by decide) (t := (.array .int)) (t' := (.array .long)) (by decide) (by decide)))
  have F_used := F_used.other W40 (Or.inr (slot_ne (Or.inl (hw _ (List.mem_of_getElem? (i := 52) rfl))) (Or.inl (hw _ (List.mem_of_getElem? (i := 32) rfl))) (by decide) (t := .int) (t' := (.array .long)) (by decide) (by decide)))
  have F_last := F_last.other W40 (Or.inr (slot_ne (Or.inl (hw _ (List.mem_of_getElem? (i := 25) rfl))) (Or.inl (hw _ (List.mem_of_getElem? (i := 32) rfl))) (by decide) (t := .int) (t' := (.array .long)) (by decide) (by decide)))
  have V_b37 := V_b37.other W40 (Ne.symm ne_a_b37)
  have V_b39 := V_b39.other W40 (Ne.symm ne_a_b39)
  have N40 := Fr.snoc X40 N38 g_a
  have Z40 : n0 ≤ h40.size := Nat.le_trans Z39 (Nat.le_of_eq W40.size.symm)
  have K40 := K39.wr W40 (Or.inl (List.mem_of_getElem? (i := 0) rfl))
  refine own_st (U' := (T40.setTop (mkF m 37 #[.val (.ref a), .val (.int (2 : Int32))] []))) st40 ?_
  have V_en : own_A Z h40 b37 .int 48 (fun j => .int ((fun _ => (0 : Int32)) j)) := V_b37.congr (fun _ _ => rfl)
  have V_wd : own_A Z h40 b39 .long 16 (fun j => .long ((fun _ => (0 : Int64)) j)) := V_b39.congr (fun _ _ => rfl)
  exact own_retV X40 hx Bd.returns Bd.notSynchronized (hb hby d5_37) (by decide) (by decide) (⟨rfl, N40, by rw [e40]; exact K40, b37, b39, sz_b37, sz_b39, ⟨by rw [e40]; exact E_a, by rw [e40]; exact F_width, by rw [e40]; exact F_entries, by rw [e40]; exact F_words, by rw [e40]; exact F_used, by rw [e40]; exact F_last, by rw [e40]; exact V_en, by rw [e40]; exact V_wd, ne_a_b37, ne_a_b39, ne_b37_b39⟩⟩)
def own_pk0 (c a0 b0 q : Int32) : Int32 := if c = 0 then a0 else if c = 1 then b0 else if c = 2 then q else a0
def own_pk1 (c a1 b1 q : Int32) : Int32 := if c = 0 then a1 else if c = 1 then b1 else if c = 2 then a1 else q
def own_pp (c p1 p2 q : Int32) : Int32 := if c = 0 then p1 else if c = 1 then p2 else if c = 2 then p1 ^^^ 1 else q &&& 2147483647
def own_eq (x0 x1 y0 y1 : Int32) : Bool := decide (x0 = y0) && decide (x1 = y1)
def own_M3 (a0 a1 p1 fB b0 b1 p2 fA : Int32) (x y q : Int32) : Bool := (own_eq x y a0 a1 && decide (q = p1)) || ((decide (¬ fB = 0) && (own_eq x y b0 b1 && decide (q = p2))) || (decide (¬ fA = 0) && (own_eq x y a0 a1 && decide (q = p2))))
theorem own_pos (x : Int32) : ¬ (x &&& 2147483647) < 0 := by
  have h := (c_andS x 2147483647).2.2 (by decide)
  rw [Int32.lt_iff_toInt_lt]
  have e0 : (0 : Int32).toInt = 0 := rfl
  omega
theorem own_xor {x y : Int32} (hx : ¬ x < 0) (hy : ¬ y < 0) : ¬ (x ^^^ y) < 0 := by
  have h := (c_xorS x y).2.2.2 (own_nn hx) (own_nn hy)
  rw [Int32.lt_iff_toInt_lt]
  have e0 : (0 : Int32).toInt = 0 := rfl
  omega
theorem own_low (x : Int32) : ¬ (x &&& 63) < 0 := by
  have h := (c_andS x 63).2.2 (by decide)
  rw [Int32.lt_iff_toInt_lt]
  have e0 : (0 : Int32).toInt = 0 := rfl
  omega
theorem own_pp_pos {c p1 p2 q : Int32} (h1 : ¬ p1 < 0) (h2 : ¬ p2 < 0) : ¬ own_pp c p1 p2 q < 0 := by
  unfold own_pp
  split
  · exact h1
  · split
    · exact h2
    · split
      · exact own_xor h1 (by decide)
      · exact own_pos q
theorem d4_0 : decode method_4_code 0 = .ok (.aload_n 0, 1) := by decide +kernel
theorem d4_1 : decode method_4_code 1 = .ok (.iconst 0, 1) := by decide +kernel
theorem d4_2 : decode method_4_code 2 = .ok (.iaload, 1) := by decide +kernel
theorem d4_3 : decode method_4_code 3 = .ok (.aload_n 1, 1) := by decide +kernel
theorem d4_4 : decode method_4_code 4 = .ok (.iconst 0, 1) := by decide +kernel
theorem d4_5 : decode method_4_code 5 = .ok (.iaload, 1) := by decide +kernel
theorem d4_6 : decode method_4_code 6 = .ok (.if_icmp .ne 16, 3) := by decide +kernel
theorem d4_9 : decode method_4_code 9 = .ok (.aload_n 0, 1) := by decide +kernel
theorem d4_10 : decode method_4_code 10 = .ok (.iconst 1, 1) := by decide +kernel
theorem d4_11 : decode method_4_code 11 = .ok (.iaload, 1) := by decide +kernel
theorem d4_12 : decode method_4_code 12 = .ok (.aload_n 1, 1) := by decide +kernel
theorem d4_13 : decode method_4_code 13 = .ok (.iconst 1, 1) := by decide +kernel
theorem d4_14 : decode method_4_code 14 = .ok (.iaload, 1) := by decide +kernel
theorem d4_15 : decode method_4_code 15 = .ok (.if_icmp .ne 7, 3) := by decide +kernel
theorem d4_18 : decode method_4_code 18 = .ok (.iconst 1, 1) := by decide +kernel
theorem d4_19 : decode method_4_code 19 = .ok (.goto 4, 3) := by decide +kernel
theorem d4_22 : decode method_4_code 22 = .ok (.iconst 0, 1) := by decide +kernel
theorem d4_23 : decode method_4_code 23 = .ok (.ireturn, 1) := by decide +kernel
theorem pn_rmEq : plainName "com/example/quorum/quorum/FailedStatesContainsPinLaw" = true := by first | (simp [plainName, overriddenIn]; done) | decide +kernel
theorem pd_d4 : parseMethodDescriptor "([I[I)Z" = some ⟨[(.array .int), (.array .int)], some .boolean⟩ := by decide +kernel
theorem ef_rmEq (m : MethodId) (x0 : Addr) (x1 : Addr) : entryFrame m #[(.ref x0), (.ref x1)] 2 = mkF m 0 #[.val (.ref x0), .val (.ref x1)] [] := by first | (simp [entryFrame, mkF, argsToLocals, Value.category, maxLocals]; done) | rfl
def Q_rmEq (Z : State) (a : Addr) (b : Addr) (x0 : Int32) (x1 : Int32) (y0 : Int32) (y1 : Int32) (h0 : Heap) (n0 : Nat) (v : Option Value) (h : Heap) (L : List Loc) : Prop := v = some (.int (own_b (own_eq x0 x1 y0 y1))) ∧ Fr n0 L ∧ h = h0
set_option maxRecDepth 65536 in
set_option maxHeartbeats 40000000 in
theorem rmEq (l : Launch) (Z : State) (a0 : Array Value) (hw : ∀ d ∈ tables_1, d.before a0 Z = true) (ws : List Jvm.Cond) (a : Addr) (b : Addr) (x0 : Int32) (x1 : Int32) (y0 : Int32) (y1 : Int32) (h0 : Heap) (n0 : Nat) (Z0 : n0 ≤ h0.size) (V1 : own_A Z h0 a .int 2 (own_L [x0, x1])) (V2 : own_A Z h0 b .int 2 (own_L [y0, y1])) :
    MetFree l (⟨"com/example/quorum/quorum/FailedStatesContainsPinLaw", "eq", "([I[I)Z"⟩ : MethodName) (head1 (Jvm.Cond.code (⟨"com/example/quorum/quorum/FailedStatesContainsPinLaw", "eq", "([I[I)Z"⟩ : MethodName) method_4_code 2 (some .boolean) :: ws) ({ frames := 0, cells := 0, slots := 0, locals := 0 } : Room)) (fun as1 U => as1 = #[(.ref a), (.ref b)] ∧ Z.Warmed39 U.vm ∧ U.heap = h0) (fun _ _ _ _ _ => True) (fun _ U o U' => ∃ v L, o = .returned v ∧ Q_rmEq Z a b x0 x1 y0 y1 h0 n0 v U'.heap L ∧ FrameEnd U o U' L ({ frames := 0, cells := 0, slots := 0, locals := 0 } : Room).cells ({ frames := 0, cells := 0, slots := 0, locals := 0 } : Room).slots) := by
  refine MetFree.of_bodySF (plainFor_of_name pn_rmEq) hisR ?_
  intro p e s m args below meth c s₁ Bd hml0 hP hK
  obtain ⟨rfl, hZ, hh⟩ := hP
  have hx := Bd.exec
  have hby := Bd.bytes
  have hml : c.maxLocals = 2 := hml0
  have hown : s.vm.findClass "com/example/quorum/quorum/FailedStatesContainsPinLaw" = some m.cls := findClass_of_methodNamed Bd.named
  have hnm := (name_of_methodNamed Bd.named Bd.method).1
  have X0 : Stand p l e ({ frames := 0, cells := 0, slots := 0, locals := 0 } : Room) s m #[(.ref a), (.ref b)] below meth c s₁ [] 0 0 := Stand.of_body Bd
  have e0 : s₁.heap = h0 := by rw [← hh, Bd.state]; rfl
  have N0 := Fr.nil n0
  show own_Ends p e s below (Q_rmEq Z a b x0 x1 y0 y1 h0 n0) ({ frames := 0, cells := 0, slots := 0, locals := 0 } : Room).cells ({ frames := 0, cells := 0, slots := 0, locals := 0 } : Room).slots (s₁.setTop (entryFrame m #[(.ref a), (.ref b)] 2))
  refine own_st (U' := (s₁.setTop (mkF m 0 #[.val (.ref a), .val (.ref b)] []))) (fun _ k => castTop (ef_rmEq m a b) k) ?_
  refine own_st (U' := (s₁.setTop (mkF m 1 #[.val (.ref a), .val (.ref b)] [(.ref a)]))) (fun _ k => XS.aloadN X0.here hx rfl (hb hby d4_0) rfl rfl k) ?_
  refine own_st (U' := (s₁.setTop (mkF m 2 #[.val (.ref a), .val (.ref b)] [(.int (0 : Int32)), (.ref a)]))) (fun _ k => XS.iconst X0.here hx rfl (hb hby d4_1) k) ?_
  refine own_st (U' := (s₁.setTop (mkF m 3 #[.val (.ref a), .val (.ref b)] [(.int x0)]))) (own_ldI X0 hx hZ e0 V1 (j := (0 : Int32)) (i := 0) (by decide) rfl (by decide) (v := (.int x0)) rfl (g := (mkF m 2 #[.val (.ref a), .val (.ref b)] [(.int (0 : Int32)), (.ref a)])) rfl rfl (hb hby d4_2)) ?_
  refine own_st (U' := (s₁.setTop (mkF m 4 #[.val (.ref a), .val (.ref b)] [(.ref b), (.int x0)]))) (fun _ k => XS.aloadN X0.here hx rfl (hb hby d4_3) rfl rfl k) ?_
  refine own_st (U' := (s₁.setTop (mkF m 5 #[.val (.ref a), .val (.ref b)] [(.int (0 : Int32)), (.ref b), (.int x0)]))) (fun _ k => XS.iconst X0.here hx rfl (hb hby d4_4) k) ?_
  refine own_st (U' := (s₁.setTop (mkF m 6 #[.val (.ref a), .val (.ref b)] [(.int y0), (.int x0)]))) (own_ldI X0 hx hZ e0 V2 (j := (0 : Int32)) (i := 0) (by decide) rfl (by decide) (v := (.int y0)) rfl (g := (mkF m 5 #[.val (.ref a), .val (.ref b)] [(.int (0 : Int32)), (.ref b), (.int x0)])) rfl rfl (hb hby d4_5)) ?_
  by_cases c0 : x0 = y0
  · skip
    refine own_st (U' := (s₁.setTop (mkF m 9 #[.val (.ref a), .val (.ref b)] []))) (fun _ k => XS.icmpNo X0.here hx rfl (hb hby d4_6) rfl (teq c0).2 k) ?_
    refine own_st (U' := (s₁.setTop (mkF m 10 #[.val (.ref a), .val (.ref b)] [(.ref a)]))) (fun _ k => XS.aloadN X0.here hx rfl (hb hby d4_9) rfl rfl k) ?_
    refine own_st (U' := (s₁.setTop (mkF m 11 #[.val (.ref a), .val (.ref b)] [(.int (1 : Int32)), (.ref a)]))) (fun _ k => XS.iconst X0.here hx rfl (hb hby d4_10) k) ?_
    refine own_st (U' := (s₁.setTop (mkF m 12 #[.val (.ref a), .val (.ref b)] [(.int x1)]))) (own_ldI X0 hx hZ e0 V1 (j := (1 : Int32)) (i := 1) (by decide) rfl (by decide) (v := (.int x1)) rfl (g := (mkF m 11 #[.val (.ref a), .val (.ref b)] [(.int (1 : Int32)), (.ref a)])) rfl rfl (hb hby d4_11)) ?_
    refine own_st (U' := (s₁.setTop (mkF m 13 #[.val (.ref a), .val (.ref b)] [(.ref b), (.int x1)]))) (fun _ k => XS.aloadN X0.here hx rfl (hb hby d4_12) rfl rfl k) ?_
    refine own_st (U' := (s₁.setTop (mkF m 14 #[.val (.ref a), .val (.ref b)] [(.int (1 : Int32)), (.ref b), (.int x1)]))) (fun _ k => XS.iconst X0.here hx rfl (hb hby d4_13) k) ?_
    refine own_st (U' := (s₁.setTop (mkF m 15 #[.val (.ref a), .val (.ref b)] [(.int y1), (.int x1)]))) (own_ldI X0 hx hZ e0 V2 (j := (1 : Int32)) (i := 1) (by decide) rfl (by decide) (v := (.int y1)) rfl (g := (mkF m 14 #[.val (.ref a), .val (.ref b)] [(.int (1 : Int32)), (.ref b), (.int x1)])) rfl rfl (hb hby d4_14)) ?_
    by_cases c1 : x1 = y1
    · skip
      refine own_st (U' := (s₁.setTop (mkF m 18 #[.val (.ref a), .val (.ref b)] []))) (fun _ k => XS.icmpNo X0.here hx rfl (hb hby d4_15) rfl (teq c1).2 k) ?_
      have q : own_b (own_eq x0 x1 y0 y1) = 1 := by simp [own_b, own_eq, c0, c1]
      refine own_st (U' := (s₁.setTop (mkF m 19 #[.val (.ref a), .val (.ref b)] [(.int (1 : Int32))]))) (fun _ k => XS.iconst X0.here hx rfl (hb hby d4_18) k) ?_
      refine own_st (U' := (s₁.setTop (mkF m 23 #[.val (.ref a), .val (.ref b)] [(.int (1 : Int32))]))) (fun _ k => XS.goto X0.here hx rfl (pc0 := 19) (pc' := 23) rfl (hb hby d4_19) (by decide) (by decide) k) ?_
      exact own_retN X0 hx (t := .boolean) Bd.returns Bd.notSynchronized (by simp) rfl (hb hby d4_23) (by decide) (by decide) (⟨by rw [q], N0, e0⟩)
    · skip
      refine own_st (U' := (s₁.setTop (mkF m 22 #[.val (.ref a), .val (.ref b)] []))) (fun _ k => XS.icmpYes X0.here hx rfl (pc0 := 15) (pc' := 22) rfl (hb hby d4_15) rfl (feq c1).2 (by decide) (by decide) k) ?_
      have q : own_b (own_eq x0 x1 y0 y1) = 0 := by simp [own_b, own_eq, c0, c1]
      refine own_st (U' := (s₁.setTop (mkF m 23 #[.val (.ref a), .val (.ref b)] [(.int (0 : Int32))]))) (fun _ k => XS.iconst X0.here hx rfl (hb hby d4_22) k) ?_
      exact own_retN X0 hx (t := .boolean) Bd.returns Bd.notSynchronized (by simp) rfl (hb hby d4_23) (by decide) (by decide) (⟨by rw [q], N0, e0⟩)
  · skip
    refine own_st (U' := (s₁.setTop (mkF m 22 #[.val (.ref a), .val (.ref b)] []))) (fun _ k => XS.icmpYes X0.here hx rfl (pc0 := 6) (pc' := 22) rfl (hb hby d4_6) rfl (feq c0).2 (by decide) (by decide) k) ?_
    have q : own_b (own_eq x0 x1 y0 y1) = 0 := by simp [own_b, own_eq, c0]
    refine own_st (U' := (s₁.setTop (mkF m 23 #[.val (.ref a), .val (.ref b)] [(.int (0 : Int32))]))) (fun _ k => XS.iconst X0.here hx rfl (hb hby d4_22) k) ?_
    exact own_retN X0 hx (t := .boolean) Bd.returns Bd.notSynchronized (by simp) rfl (hb hby d4_23) (by decide) (by decide) (⟨by rw [q], N0, e0⟩)
theorem d2_0 : decode method_3_code 0 = .ok (.iload_n 0, 1) := by decide +kernel
theorem d2_1 : decode method_3_code 1 = .ok (.ifCond .ne 5, 3) := by decide +kernel
theorem d2_4 : decode method_3_code 4 = .ok (.iload_n 1, 1) := by decide +kernel
theorem d2_5 : decode method_3_code 5 = .ok (.ireturn, 1) := by decide +kernel
theorem d2_6 : decode method_3_code 6 = .ok (.iload_n 0, 1) := by decide +kernel
theorem d2_7 : decode method_3_code 7 = .ok (.iconst 1, 1) := by decide +kernel
theorem d2_8 : decode method_3_code 8 = .ok (.if_icmp .ne 5, 3) := by decide +kernel
theorem d2_11 : decode method_3_code 11 = .ok (.iload_n 2, 1) := by decide +kernel
theorem d2_12 : decode method_3_code 12 = .ok (.ireturn, 1) := by decide +kernel
theorem d2_13 : decode method_3_code 13 = .ok (.iload_n 0, 1) := by decide +kernel
theorem d2_14 : decode method_3_code 14 = .ok (.iconst 2, 1) := by decide +kernel
theorem d2_15 : decode method_3_code 15 = .ok (.if_icmp .ne 7, 3) := by decide +kernel
theorem d2_18 : decode method_3_code 18 = .ok (.iload_n 1, 1) := by decide +kernel
theorem d2_19 : decode method_3_code 19 = .ok (.iconst 1, 1) := by decide +kernel
theorem d2_20 : decode method_3_code 20 = .ok (.ixor, 1) := by decide +kernel
theorem d2_21 : decode method_3_code 21 = .ok (.ireturn, 1) := by decide +kernel
theorem d2_22 : decode method_3_code 22 = .ok (.iload_n 3, 1) := by decide +kernel
theorem d2_23 : decode method_3_code 23 = .ok (.ldc 7, 2) := by decide +kernel
theorem d2_25 : decode method_3_code 25 = .ok (.iand, 1) := by decide +kernel
theorem d2_26 : decode method_3_code 26 = .ok (.ireturn, 1) := by decide +kernel
theorem pn_rmPP : plainName "com/example/quorum/quorum/FailedStatesContainsPinLaw" = true := by first | (simp [plainName, overriddenIn]; done) | decide +kernel
theorem pd_d2 : parseMethodDescriptor "(IIII)I" = some ⟨[.int, .int, .int, .int], some .int⟩ := by decide +kernel
theorem ef_rmPP (m : MethodId) (x0 : Int32) (x1 : Int32) (x2 : Int32) (x3 : Int32) : entryFrame m #[(.int x0), (.int x1), (.int x2), (.int x3)] 4 = mkF m 0 #[.val (.int x0), .val (.int x1), .val (.int x2), .val (.int x3)] [] := by first | (simp [entryFrame, mkF, argsToLocals, Value.category, maxLocals]; done) | rfl
def Q_rmPP (Z : State) (p1 : Int32) (p2 : Int32) (p3 : Int32) (p4 : Int32) (h0 : Heap) (n0 : Nat) (v : Option Value) (h : Heap) (L : List Loc) : Prop := v = some (.int (own_pp p1 p2 p3 p4)) ∧ Fr n0 L ∧ h = h0
set_option maxRecDepth 65536 in
set_option maxHeartbeats 40000000 in
theorem rmPP (l : Launch) (Z : State) (a0 : Array Value) (hw : ∀ d ∈ tables_1, d.before a0 Z = true) (ws : List Jvm.Cond) (p1 : Int32) (p2 : Int32) (p3 : Int32) (p4 : Int32) (h0 : Heap) (n0 : Nat) (Z0 : n0 ≤ h0.size)  :
    MetFree l (⟨"com/example/quorum/quorum/FailedStatesContainsPinLaw", "pickPos", "(IIII)I"⟩ : MethodName) (head1 (Jvm.Cond.code (⟨"com/example/quorum/quorum/FailedStatesContainsPinLaw", "pickPos", "(IIII)I"⟩ : MethodName) method_3_code 4 (some .int) :: ws) ({ frames := 0, cells := 0, slots := 0, locals := 0 } : Room)) (fun as1 U => as1 = #[(.int p1), (.int p2), (.int p3), (.int p4)] ∧ Z.Warmed39 U.vm ∧ U.heap = h0) (fun _ _ _ _ _ => True) (fun _ U o U' => ∃ v L, o = .returned v ∧ Q_rmPP Z p1 p2 p3 p4 h0 n0 v U'.heap L ∧ FrameEnd U o U' L ({ frames := 0, cells := 0, slots := 0, locals := 0 } : Room).cells ({ frames := 0, cells := 0, slots := 0, locals := 0 } : Room).slots) := by
  refine MetFree.of_bodySF (plainFor_of_name pn_rmPP) hisR ?_
  intro p e s m args below meth c s₁ Bd hml0 hP hK
  obtain ⟨rfl, hZ, hh⟩ := hP
  have hx := Bd.exec
  have hby := Bd.bytes
  have hml : c.maxLocals = 4 := hml0
  have hown : s.vm.findClass "com/example/quorum/quorum/FailedStatesContainsPinLaw" = some m.cls := findClass_of_methodNamed Bd.named
  have hnm := (name_of_methodNamed Bd.named Bd.method).1
  have X0 : Stand p l e ({ frames := 0, cells := 0, slots := 0, locals := 0 } : Room) s m #[(.int p1), (.int p2), (.int p3), (.int p4)] below meth c s₁ [] 0 0 := Stand.of_body Bd
  have e0 : s₁.heap = h0 := by rw [← hh, Bd.state]; rfl
  have N0 := Fr.nil n0
  show own_Ends p e s below (Q_rmPP Z p1 p2 p3 p4 h0 n0) ({ frames := 0, cells := 0, slots := 0, locals := 0 } : Room).cells ({ frames := 0, cells := 0, slots := 0, locals := 0 } : Room).slots (s₁.setTop (entryFrame m #[(.int p1), (.int p2), (.int p3), (.int p4)] 4))
  refine own_st (U' := (s₁.setTop (mkF m 0 #[.val (.int p1), .val (.int p2), .val (.int p3), .val (.int p4)] []))) (fun _ k => castTop (ef_rmPP m p1 p2 p3 p4) k) ?_
  refine own_st (U' := (s₁.setTop (mkF m 1 #[.val (.int p1), .val (.int p2), .val (.int p3), .val (.int p4)] [(.int p1)]))) (fun _ k => XS.iloadN X0.here hx rfl (hb hby d2_0) rfl k) ?_
  by_cases c0 : p1 = (0 : Int32)
  · skip
    refine own_st (U' := (s₁.setTop (mkF m 4 #[.val (.int p1), .val (.int p2), .val (.int p3), .val (.int p4)] []))) (fun _ k => XS.ifNo X0.here hx rfl (hb hby d2_1) rfl ((if0 _ _).trans (teq c0).2) k) ?_
    have q : own_pp p1 p2 p3 p4 = p2 := by simp [own_pp, c0]
    refine own_st (U' := (s₁.setTop (mkF m 5 #[.val (.int p1), .val (.int p2), .val (.int p3), .val (.int p4)] [(.int p2)]))) (fun _ k => XS.iloadN X0.here hx rfl (hb hby d2_4) rfl k) ?_
    exact own_retI X0 hx Bd.returns Bd.notSynchronized (hb hby d2_5) (by decide) (by decide) (⟨by rw [q], N0, e0⟩)
  · skip
    refine own_st (U' := (s₁.setTop (mkF m 6 #[.val (.int p1), .val (.int p2), .val (.int p3), .val (.int p4)] []))) (fun _ k => XS.ifYes X0.here hx rfl (pc0 := 1) (pc' := 6) rfl (hb hby d2_1) rfl ((if0 _ _).trans (feq c0).2) (by decide) (by decide) k) ?_
    refine own_st (U' := (s₁.setTop (mkF m 7 #[.val (.int p1), .val (.int p2), .val (.int p3), .val (.int p4)] [(.int p1)]))) (fun _ k => XS.iloadN X0.here hx rfl (hb hby d2_6) rfl k) ?_
    refine own_st (U' := (s₁.setTop (mkF m 8 #[.val (.int p1), .val (.int p2), .val (.int p3), .val (.int p4)] [(.int (1 : Int32)), (.int p1)]))) (fun _ k => XS.iconst X0.here hx rfl (hb hby d2_7) k) ?_
    by_cases c1 : p1 = (1 : Int32)
    · skip
      refine own_st (U' := (s₁.setTop (mkF m 11 #[.val (.int p1), .val (.int p2), .val (.int p3), .val (.int p4)] []))) (fun _ k => XS.icmpNo X0.here hx rfl (hb hby d2_8) rfl (teq c1).2 k) ?_
      have q : own_pp p1 p2 p3 p4 = p3 := by simp [own_pp, c0, c1]
      refine own_st (U' := (s₁.setTop (mkF m 12 #[.val (.int p1), .val (.int p2), .val (.int p3), .val (.int p4)] [(.int p3)]))) (fun _ k => XS.iloadN X0.here hx rfl (hb hby d2_11) rfl k) ?_
      exact own_retI X0 hx Bd.returns Bd.notSynchronized (hb hby d2_12) (by decide) (by decide) (⟨by rw [q], N0, e0⟩)
    · skip
      refine own_st (U' := (s₁.setTop (mkF m 13 #[.val (.int p1), .val (.int p2), .val (.int p3), .val (.int p4)] []))) (fun _ k => XS.icmpYes X0.here hx rfl (pc0 := 8) (pc' := 13) rfl (hb hby d2_8) rfl (feq c1).2 (by decide) (by decide) k) ?_
      refine own_st (U' := (s₁.setTop (mkF m 14 #[.val (.int p1), .val (.int p2), .val (.int p3), .val (.int p4)] [(.int p1)]))) (fun _ k => XS.iloadN X0.here hx rfl (hb hby d2_13) rfl k) ?_
      refine own_st (U' := (s₁.setTop (mkF m 15 #[.val (.int p1), .val (.int p2), .val (.int p3), .val (.int p4)] [(.int (2 : Int32)), (.int p1)]))) (fun _ k => XS.iconst X0.here hx rfl (hb hby d2_14) k) ?_
      by_cases c2 : p1 = (2 : Int32)
      · skip
        refine own_st (U' := (s₁.setTop (mkF m 18 #[.val (.int p1), .val (.int p2), .val (.int p3), .val (.int p4)] []))) (fun _ k => XS.icmpNo X0.here hx rfl (hb hby d2_15) rfl (teq c2).2 k) ?_
        have q : own_pp p1 p2 p3 p4 = p2 ^^^ 1 := by simp [own_pp, c0, c1, c2]
        refine own_st (U' := (s₁.setTop (mkF m 19 #[.val (.int p1), .val (.int p2), .val (.int p3), .val (.int p4)] [(.int p2)]))) (fun _ k => XS.iloadN X0.here hx rfl (hb hby d2_18) rfl k) ?_
        refine own_st (U' := (s₁.setTop (mkF m 20 #[.val (.int p1), .val (.int p2), .val (.int p3), .val (.int p4)] [(.int (1 : Int32)), (.int p2)]))) (fun _ k => XS.iconst X0.here hx rfl (hb hby d2_19) k) ?_
        refine own_st (U' := (s₁.setTop (mkF m 21 #[.val (.int p1), .val (.int p2), .val (.int p3), .val (.int p4)] [(.int (p2 ^^^ (1 : Int32)))]))) (fun _ k => XS.ixor X0.here hx rfl (hb hby d2_20) rfl k) ?_
        exact own_retI X0 hx Bd.returns Bd.notSynchronized (hb hby d2_21) (by decide) (by decide) (⟨by rw [q], N0, e0⟩)
      · skip
        refine own_st (U' := (s₁.setTop (mkF m 22 #[.val (.int p1), .val (.int p2), .val (.int p3), .val (.int p4)] []))) (fun _ k => XS.icmpYes X0.here hx rfl (pc0 := 15) (pc' := 22) rfl (hb hby d2_15) rfl (feq c2).2 (by decide) (by decide) k) ?_
        have q : own_pp p1 p2 p3 p4 = p4 &&& 2147483647 := by simp [own_pp, c0, c1, c2]
        refine own_st (U' := (s₁.setTop (mkF m 23 #[.val (.int p1), .val (.int p2), .val (.int p3), .val (.int p4)] [(.int p4)]))) (fun _ k => XS.iloadN X0.here hx rfl (hb hby d2_22) rfl k) ?_
        refine own_st (U' := (s₁.setTop (mkF m 25 #[.val (.int p1), .val (.int p2), .val (.int p3), .val (.int p4)] [(.int (2147483647 : Int32)), (.int p4)]))) (fun _ k => Jvm.Stand.ldcI X0 hx hown (mvT hZ (hw _ (List.mem_of_getElem? (i := 1) rfl))) rfl (hb hby d2_23) k) ?_
        refine own_st (U' := (s₁.setTop (mkF m 26 #[.val (.int p1), .val (.int p2), .val (.int p3), .val (.int p4)] [(.int (p4 &&& (2147483647 : Int32)))]))) (fun _ k => XS.iand X0.here hx rfl (hb hby d2_25) rfl k) ?_
        exact own_retI X0 hx Bd.returns Bd.notSynchronized (hb hby d2_26) (by decide) (by decide) (⟨by rw [q], N0, e0⟩)
theorem d1_0 : decode method_2_code 0 = .ok (.iload_n 0, 1) := by decide +kernel
theorem d1_1 : decode method_2_code 1 = .ok (.ifCond .ne 19, 3) := by decide +kernel
theorem d1_4 : decode method_2_code 4 = .ok (.iconst 2, 1) := by decide +kernel
theorem d1_5 : decode method_2_code 5 = .ok (.newarray .int, 2) := by decide +kernel
theorem d1_7 : decode method_2_code 7 = .ok (.dup, 1) := by decide +kernel
theorem d1_8 : decode method_2_code 8 = .ok (.iconst 0, 1) := by decide +kernel
theorem d1_9 : decode method_2_code 9 = .ok (.aload_n 1, 1) := by decide +kernel
theorem d1_10 : decode method_2_code 10 = .ok (.iconst 0, 1) := by decide +kernel
theorem d1_11 : decode method_2_code 11 = .ok (.iaload, 1) := by decide +kernel
theorem d1_12 : decode method_2_code 12 = .ok (.iastore, 1) := by decide +kernel
theorem d1_13 : decode method_2_code 13 = .ok (.dup, 1) := by decide +kernel
theorem d1_14 : decode method_2_code 14 = .ok (.iconst 1, 1) := by decide +kernel
theorem d1_15 : decode method_2_code 15 = .ok (.aload_n 1, 1) := by decide +kernel
theorem d1_16 : decode method_2_code 16 = .ok (.iconst 1, 1) := by decide +kernel
theorem d1_17 : decode method_2_code 17 = .ok (.iaload, 1) := by decide +kernel
theorem d1_18 : decode method_2_code 18 = .ok (.iastore, 1) := by decide +kernel
theorem d1_19 : decode method_2_code 19 = .ok (.areturn, 1) := by decide +kernel
theorem d1_20 : decode method_2_code 20 = .ok (.iload_n 0, 1) := by decide +kernel
theorem d1_21 : decode method_2_code 21 = .ok (.iconst 1, 1) := by decide +kernel
theorem d1_22 : decode method_2_code 22 = .ok (.if_icmp .ne 19, 3) := by decide +kernel
theorem d1_25 : decode method_2_code 25 = .ok (.iconst 2, 1) := by decide +kernel
theorem d1_26 : decode method_2_code 26 = .ok (.newarray .int, 2) := by decide +kernel
theorem d1_28 : decode method_2_code 28 = .ok (.dup, 1) := by decide +kernel
theorem d1_29 : decode method_2_code 29 = .ok (.iconst 0, 1) := by decide +kernel
theorem d1_30 : decode method_2_code 30 = .ok (.aload_n 2, 1) := by decide +kernel
theorem d1_31 : decode method_2_code 31 = .ok (.iconst 0, 1) := by decide +kernel
theorem d1_32 : decode method_2_code 32 = .ok (.iaload, 1) := by decide +kernel
theorem d1_33 : decode method_2_code 33 = .ok (.iastore, 1) := by decide +kernel
theorem d1_34 : decode method_2_code 34 = .ok (.dup, 1) := by decide +kernel
theorem d1_35 : decode method_2_code 35 = .ok (.iconst 1, 1) := by decide +kernel
theorem d1_36 : decode method_2_code 36 = .ok (.aload_n 2, 1) := by decide +kernel
theorem d1_37 : decode method_2_code 37 = .ok (.iconst 1, 1) := by decide +kernel
theorem d1_38 : decode method_2_code 38 = .ok (.iaload, 1) := by decide +kernel
theorem d1_39 : decode method_2_code 39 = .ok (.iastore, 1) := by decide +kernel
theorem d1_40 : decode method_2_code 40 = .ok (.areturn, 1) := by decide +kernel
theorem d1_41 : decode method_2_code 41 = .ok (.iload_n 0, 1) := by decide +kernel
theorem d1_42 : decode method_2_code 42 = .ok (.iconst 2, 1) := by decide +kernel
theorem d1_43 : decode method_2_code 43 = .ok (.if_icmp .ne 17, 3) := by decide +kernel
theorem d1_46 : decode method_2_code 46 = .ok (.iconst 2, 1) := by decide +kernel
theorem d1_47 : decode method_2_code 47 = .ok (.newarray .int, 2) := by decide +kernel
theorem d1_49 : decode method_2_code 49 = .ok (.dup, 1) := by decide +kernel
theorem d1_50 : decode method_2_code 50 = .ok (.iconst 0, 1) := by decide +kernel
theorem d1_51 : decode method_2_code 51 = .ok (.iload_n 3, 1) := by decide +kernel
theorem d1_52 : decode method_2_code 52 = .ok (.iastore, 1) := by decide +kernel
theorem d1_53 : decode method_2_code 53 = .ok (.dup, 1) := by decide +kernel
theorem d1_54 : decode method_2_code 54 = .ok (.iconst 1, 1) := by decide +kernel
theorem d1_55 : decode method_2_code 55 = .ok (.aload_n 1, 1) := by decide +kernel
theorem d1_56 : decode method_2_code 56 = .ok (.iconst 1, 1) := by decide +kernel
theorem d1_57 : decode method_2_code 57 = .ok (.iaload, 1) := by decide +kernel
theorem d1_58 : decode method_2_code 58 = .ok (.iastore, 1) := by decide +kernel
theorem d1_59 : decode method_2_code 59 = .ok (.areturn, 1) := by decide +kernel
theorem d1_60 : decode method_2_code 60 = .ok (.iconst 2, 1) := by decide +kernel
theorem d1_61 : decode method_2_code 61 = .ok (.newarray .int, 2) := by decide +kernel
theorem d1_63 : decode method_2_code 63 = .ok (.dup, 1) := by decide +kernel
theorem d1_64 : decode method_2_code 64 = .ok (.iconst 0, 1) := by decide +kernel
theorem d1_65 : decode method_2_code 65 = .ok (.aload_n 1, 1) := by decide +kernel
theorem d1_66 : decode method_2_code 66 = .ok (.iconst 0, 1) := by decide +kernel
theorem d1_67 : decode method_2_code 67 = .ok (.iaload, 1) := by decide +kernel
theorem d1_68 : decode method_2_code 68 = .ok (.iastore, 1) := by decide +kernel
theorem d1_69 : decode method_2_code 69 = .ok (.dup, 1) := by decide +kernel
theorem d1_70 : decode method_2_code 70 = .ok (.iconst 1, 1) := by decide +kernel
theorem d1_71 : decode method_2_code 71 = .ok (.iload_n 3, 1) := by decide +kernel
theorem d1_72 : decode method_2_code 72 = .ok (.iastore, 1) := by decide +kernel
theorem d1_73 : decode method_2_code 73 = .ok (.areturn, 1) := by decide +kernel
theorem pn_rmPK : plainName "com/example/quorum/quorum/FailedStatesContainsPinLaw" = true := by first | (simp [plainName, overriddenIn]; done) | decide +kernel
theorem pd_d1 : parseMethodDescriptor "(I[I[II)[I" = some ⟨[.int, (.array .int), (.array .int), .int], some (.array .int)⟩ := by decide +kernel
theorem ef_rmPK (m : MethodId) (x0 : Int32) (x1 : Addr) (x2 : Addr) (x3 : Int32) : entryFrame m #[(.int x0), (.ref x1), (.ref x2), (.int x3)] 4 = mkF m 0 #[.val (.int x0), .val (.ref x1), .val (.ref x2), .val (.int x3)] [] := by first | (simp [entryFrame, mkF, argsToLocals, Value.category, maxLocals]; done) | rfl
def Q_rmPK (Z : State) (p1 : Int32) (a : Addr) (b : Addr) (q : Int32) (a0' : Int32) (a1 : Int32) (b0 : Int32) (b1 : Int32) (h0 : Heap) (n0 : Nat) (v : Option Value) (h : Heap) (L : List Loc) : Prop := ∃ r : Addr, v = some (.ref r) ∧ Fr n0 L ∧ Keep h0 h [] ∧ h0.size ≤ r ∧ own_A Z h r .int 2 (own_L [own_pk0 p1 a0' b0 q, own_pk1 p1 a1 b1 q])
set_option maxRecDepth 65536 in
set_option maxHeartbeats 40000000 in
theorem rmPK (l : Launch) (Z : State) (a0 : Array Value) (hw : ∀ d ∈ tables_1, d.before a0 Z = true) (ws : List Jvm.Cond) (p1 : Int32) (a : Addr) (b : Addr) (q : Int32) (a0' : Int32) (a1 : Int32) (b0 : Int32) (b1 : Int32) (h0 : Heap) (n0 : Nat) (Z0 : n0 ≤ h0.size) (Va : own_A Z h0 a .int 2 (own_L [a0', a1])) (Vb : own_A Z h0 b .int 2 (own_L [b0, b1])) :
    MetFree l (⟨"com/example/quorum/quorum/FailedStatesContainsPinLaw", "pickKey", "(I[I[II)[I"⟩ : MethodName) (head1 (Jvm.Cond.code (⟨"com/example/quorum/quorum/FailedStatesContainsPinLaw", "pickKey", "(I[I[II)[I"⟩ : MethodName) method_2_code 4 (some (.array .int)) :: ws) ({ frames := 0, cells := 1, slots := 2, locals := 0 } : Room)) (fun as1 U => as1 = #[(.int p1), (.ref a), (.ref b), (.int q)] ∧ Z.Warmed39 U.vm ∧ U.heap = h0) (fun _ _ _ _ _ => True) (fun _ U o U' => ∃ v L, o = .returned v ∧ Q_rmPK Z p1 a b q a0' a1 b0 b1 h0 n0 v U'.heap L ∧ FrameEnd U o U' L ({ frames := 0, cells := 1, slots := 2, locals := 0 } : Room).cells ({ frames := 0, cells := 1, slots := 2, locals := 0 } : Room).slots) := by
  refine MetFree.of_bodySF (plainFor_of_name pn_rmPK) hisR ?_
  intro p e s m args below meth c s₁ Bd hml0 hP hK
  obtain ⟨rfl, hZ, hh⟩ := hP
  have hx := Bd.exec
  have hby := Bd.bytes
  have hml : c.maxLocals = 4 := hml0
  have hown : s.vm.findClass "com/example/quorum/quorum/FailedStatesContainsPinLaw" = some m.cls := findClass_of_methodNamed Bd.named
  have hnm := (name_of_methodNamed Bd.named Bd.method).1
  have X0 : Stand p l e ({ frames := 0, cells := 1, slots := 2, locals := 0 } : Room) s m #[(.int p1), (.ref a), (.ref b), (.int q)] below meth c s₁ [] 0 0 := Stand.of_body Bd
  have e0 : s₁.heap = h0 := by rw [← hh, Bd.state]; rfl
  have N0 := Fr.nil n0
  show own_Ends p e s below (Q_rmPK Z p1 a b q a0' a1 b0 b1 h0 n0) ({ frames := 0, cells := 1, slots := 2, locals := 0 } : Room).cells ({ frames := 0, cells := 1, slots := 2, locals := 0 } : Room).slots (s₁.setTop (entryFrame m #[(.int p1), (.ref a), (.ref b), (.int q)] 4))
  refine own_st (U' := (s₁.setTop (mkF m 0 #[.val (.int p1), .val (.ref a), .val (.ref b), .val (.int q)] []))) (fun _ k => castTop (ef_rmPK m p1 a b q) k) ?_
  refine own_st (U' := (s₁.setTop (mkF m 1 #[.val (.int p1), .val (.ref a), .val (.ref b), .val (.int q)] [(.int p1)]))) (fun _ k => XS.iloadN X0.here hx rfl (hb hby d1_0) rfl k) ?_
  by_cases c0 : p1 = (0 : Int32)
  · skip
    refine own_st (U' := (s₁.setTop (mkF m 4 #[.val (.int p1), .val (.ref a), .val (.ref b), .val (.int q)] []))) (fun _ k => XS.ifNo X0.here hx rfl (hb hby d1_1) rfl ((if0 _ _).trans (teq c0).2) k) ?_
    refine own_st (U' := (s₁.setTop (mkF m 5 #[.val (.int p1), .val (.ref a), .val (.ref b), .val (.int q)] [(.int (2 : Int32))]))) (fun _ k => XS.iconst X0.here hx rfl (hb hby d1_4) k) ?_
    obtain ⟨T41, h41, k41, X41, e41, E41, A41, st41⟩ := newP X0 hx hZ (hw _ (List.mem_of_getElem? (i := 0) rfl)) e0 (g := (mkF m 5 #[.val (.int p1), .val (.ref a), .val (.ref b), .val (.int q)] [(.int (2 : Int32))])) rfl (hb hby d1_5) rfl (by decide) (cap := 2) (by decide) (by decide) (by decide) (by decide)
    obtain ⟨b41, g41⟩ : ∃ z, z = h0.size := ⟨_, rfl⟩
    rw [← g41] at A41 st41
    have ne_a_b41 : a ≠ b41 := Nat.ne_of_lt (Nat.lt_of_lt_of_eq Va.lt g41.symm)
    have ne_b_b41 : b ≠ b41 := Nat.ne_of_lt (Nat.lt_of_lt_of_eq Vb.lt g41.symm)
    have g_b41 : n0 ≤ b41 := Nat.le_trans Z0 (Nat.le_of_eq g41.symm)
    have sz_b41 : h0.size ≤ b41 := Nat.le_trans (Keep.refl h0 []).1 (Nat.le_of_eq g41.symm)
    have Va := Va.ext E41
    have Vb := Vb.ext E41
    have Z41 : n0 ≤ h41.size := Nat.le_trans Z0 E41.1
    have K41 := (Keep.refl h0 []).ext E41
    have V_b41 : own_A Z h41 b41 .int 2 (fun _ => defaultValue .int) := own_A.new A41 (by decide)
    refine own_st (U' := (T41.setTop (mkF m 7 #[.val (.int p1), .val (.ref a), .val (.ref b), .val (.int q)] [(.ref b41)]))) st41 ?_
    refine own_st (U' := (T41.setTop (mkF m 8 #[.val (.int p1), .val (.ref a), .val (.ref b), .val (.int q)] [(.ref b41), (.ref b41)]))) (fun _ k => XS.dup X41.here hx rfl (hb hby d1_7) rfl rfl k) ?_
    refine own_st (U' := (T41.setTop (mkF m 9 #[.val (.int p1), .val (.ref a), .val (.ref b), .val (.int q)] [(.int (0 : Int32)), (.ref b41), (.ref b41)]))) (fun _ k => XS.iconst X41.here hx rfl (hb hby d1_8) k) ?_
    refine own_st (U' := (T41.setTop (mkF m 10 #[.val (.int p1), .val (.ref a), .val (.ref b), .val (.int q)] [(.ref a), (.int (0 : Int32)), (.ref b41), (.ref b41)]))) (fun _ k => XS.aloadN X41.here hx rfl (hb hby d1_9) rfl rfl k) ?_
    refine own_st (U' := (T41.setTop (mkF m 11 #[.val (.int p1), .val (.ref a), .val (.ref b), .val (.int q)] [(.int (0 : Int32)), (.ref a), (.int (0 : Int32)), (.ref b41), (.ref b41)]))) (fun _ k => XS.iconst X41.here hx rfl (hb hby d1_10) k) ?_
    refine own_st (U' := (T41.setTop (mkF m 12 #[.val (.int p1), .val (.ref a), .val (.ref b), .val (.int q)] [(.int a0'), (.int (0 : Int32)), (.ref b41), (.ref b41)]))) (own_ldI X41 hx hZ e41 Va (j := (0 : Int32)) (i := 0) (by decide) rfl (by decide) (v := (.int a0')) rfl (g := (mkF m 11 #[.val (.int p1), .val (.ref a), .val (.ref b), .val (.int q)] [(.int (0 : Int32)), (.ref a), (.int (0 : Int32)), (.ref b41), (.ref b41)])) rfl rfl (hb hby d1_11)) ?_
    obtain ⟨T42, h42, X42, e42, W42, V42, st42⟩ := own_stI X41 hx hZ e41 V_b41 (j := (0 : Int32)) (i := 0) (by decide) rfl (by decide) (g := (mkF m 12 #[.val (.int p1), .val (.ref a), .val (.ref b), .val (.int q)] [(.int a0'), (.int (0 : Int32)), (.ref b41), (.ref b41)])) rfl rfl (hb hby d1_12)
    have Va := Va.other W42 ne_a_b41
    have Vb := Vb.other W42 ne_b_b41
    have V_b41 := V42
    have N42 := Fr.snoc X42 N0 g_b41
    have Z42 : n0 ≤ h42.size := Nat.le_trans Z41 (Nat.le_of_eq W42.size.symm)
    have K42 := K41.wr W42 (Or.inr sz_b41)
    refine own_st (U' := (T42.setTop (mkF m 13 #[.val (.int p1), .val (.ref a), .val (.ref b), .val (.int q)] [(.ref b41)]))) st42 ?_
    refine own_st (U' := (T42.setTop (mkF m 14 #[.val (.int p1), .val (.ref a), .val (.ref b), .val (.int q)] [(.ref b41), (.ref b41)]))) (fun _ k => XS.dup X42.here hx rfl (hb hby d1_13) rfl rfl k) ?_
    refine own_st (U' := (T42.setTop (mkF m 15 #[.val (.int p1), .val (.ref a), .val (.ref b), .val (.int q)] [(.int (1 : Int32)), (.ref b41), (.ref b41)]))) (fun _ k => XS.iconst X42.here hx rfl (hb hby d1_14) k) ?_
    refine own_st (U' := (T42.setTop (mkF m 16 #[.val (.int p1), .val (.ref a), .val (.ref b), .val (.int q)] [(.ref a), (.int (1 : Int32)), (.ref b41), (.ref b41)]))) (fun _ k => XS.aloadN X42.here hx rfl (hb hby d1_15) rfl rfl k) ?_
    refine own_st (U' := (T42.setTop (mkF m 17 #[.val (.int p1), .val (.ref a), .val (.ref b), .val (.int q)] [(.int (1 : Int32)), (.ref a), (.int (1 : Int32)), (.ref b41), (.ref b41)]))) (fun _ k => XS.iconst X42.here hx rfl (hb hby d1_16) k) ?_
    refine own_st (U' := (T42.setTop (mkF m 18 #[.val (.int p1), .val (.ref a), .val (.ref b), .val (.int q)] [(.int a1), (.int (1 : Int32)), (.ref b41), (.ref b41)]))) (own_ldI X42 hx hZ e42 Va (j := (1 : Int32)) (i := 1) (by decide) rfl (by decide) (v := (.int a1)) rfl (g := (mkF m 17 #[.val (.int p1), .val (.ref a), .val (.ref b), .val (.int q)] [(.int (1 : Int32)), (.ref a), (.int (1 : Int32)), (.ref b41), (.ref b41)])) rfl rfl (hb hby d1_17)) ?_
    obtain ⟨T43, h43, X43, e43, W43, V43, st43⟩ := own_stI X42 hx hZ e42 V_b41 (j := (1 : Int32)) (i := 1) (by decide) rfl (by decide) (g := (mkF m 18 #[.val (.int p1), .val (.ref a), .val (.ref b), .val (.int q)] [(.int a1), (.int (1 : Int32)), (.ref b41), (.ref b41)])) rfl rfl (hb hby d1_18)
    have Va := Va.other W43 ne_a_b41
    have Vb := Vb.other W43 ne_b_b41
    have V_b41 := V43
    have N43 := Fr.snoc X43 N42 g_b41
    have Z43 : n0 ≤ h43.size := Nat.le_trans Z42 (Nat.le_of_eq W43.size.symm)
    have K43 := K42.wr W43 (Or.inr sz_b41)
    refine own_st (U' := (T43.setTop (mkF m 19 #[.val (.int p1), .val (.ref a), .val (.ref b), .val (.int q)] [(.ref b41)]))) st43 ?_
    have V_b41 : own_A Z h43 b41 .int 2 (own_L [a0', a1]) := V_b41.congr (by intro j hj; rcases j with _ | _ | j <;> first | rfl | omega)
    have q0 : own_pk0 p1 a0' b0 q = a0' := by simp [own_pk0, c0]
    have q1 : own_pk1 p1 a1 b1 q = a1 := by simp [own_pk1, c0]
    exact own_retA X43 hx (t := (.array .int)) Bd.returns Bd.notSynchronized rfl rfl (hb hby d1_19) (by decide) (by decide) (⟨b41, rfl, N43, by rw [e43]; exact K43, sz_b41, by rw [e43, q0, q1]; exact V_b41⟩)
  · skip
    refine own_st (U' := (s₁.setTop (mkF m 20 #[.val (.int p1), .val (.ref a), .val (.ref b), .val (.int q)] []))) (fun _ k => XS.ifYes X0.here hx rfl (pc0 := 1) (pc' := 20) rfl (hb hby d1_1) rfl ((if0 _ _).trans (feq c0).2) (by decide) (by decide) k) ?_
    refine own_st (U' := (s₁.setTop (mkF m 21 #[.val (.int p1), .val (.ref a), .val (.ref b), .val (.int q)] [(.int p1)]))) (fun _ k => XS.iloadN X0.here hx rfl (hb hby d1_20) rfl k) ?_
    refine own_st (U' := (s₁.setTop (mkF m 22 #[.val (.int p1), .val (.ref a), .val (.ref b), .val (.int q)] [(.int (1 : Int32)), (.int p1)]))) (fun _ k => XS.iconst X0.here hx rfl (hb hby d1_21) k) ?_
    by_cases c1 : p1 = (1 : Int32)
    · skip
      refine own_st (U' := (s₁.setTop (mkF m 25 #[.val (.int p1), .val (.ref a), .val (.ref b), .val (.int q)] []))) (fun _ k => XS.icmpNo X0.here hx rfl (hb hby d1_22) rfl (teq c1).2 k) ?_
      refine own_st (U' := (s₁.setTop (mkF m 26 #[.val (.int p1), .val (.ref a), .val (.ref b), .val (.int q)] [(.int (2 : Int32))]))) (fun _ k => XS.iconst X0.here hx rfl (hb hby d1_25) k) ?_
      obtain ⟨T44, h44, k44, X44, e44, E44, A44, st44⟩ := newP X0 hx hZ (hw _ (List.mem_of_getElem? (i := 0) rfl)) e0 (g := (mkF m 26 #[.val (.int p1), .val (.ref a), .val (.ref b), .val (.int q)] [(.int (2 : Int32))])) rfl (hb hby d1_26) rfl (by decide) (cap := 2) (by decide) (by decide) (by decide) (by decide)
      obtain ⟨b44, g44⟩ : ∃ z, z = h0.size := ⟨_, rfl⟩
      rw [← g44] at A44 st44
      have ne_a_b44 : a ≠ b44 := Nat.ne_of_lt (Nat.lt_of_lt_of_eq Va.lt g44.symm)
      have ne_b_b44 : b ≠ b44 := Nat.ne_of_lt (Nat.lt_of_lt_of_eq Vb.lt g44.symm)
      have g_b44 : n0 ≤ b44 := Nat.le_trans Z0 (Nat.le_of_eq g44.symm)
      have sz_b44 : h0.size ≤ b44 := Nat.le_trans (Keep.refl h0 []).1 (Nat.le_of_eq g44.symm)
      have Va := Va.ext E44
      have Vb := Vb.ext E44
      have Z44 : n0 ≤ h44.size := Nat.le_trans Z0 E44.1
      have K44 := (Keep.refl h0 []).ext E44
      have V_b44 : own_A Z h44 b44 .int 2 (fun _ => defaultValue .int) := own_A.new A44 (by decide)
      refine own_st (U' := (T44.setTop (mkF m 28 #[.val (.int p1), .val (.ref a), .val (.ref b), .val (.int q)] [(.ref b44)]))) st44 ?_
      refine own_st (U' := (T44.setTop (mkF m 29 #[.val (.int p1), .val (.ref a), .val (.ref b), .val (.int q)] [(.ref b44), (.ref b44)]))) (fun _ k => XS.dup X44.here hx rfl (hb hby d1_28) rfl rfl k) ?_
      refine own_st (U' := (T44.setTop (mkF m 30 #[.val (.int p1), .val (.ref a), .val (.ref b), .val (.int q)] [(.int (0 : Int32)), (.ref b44), (.ref b44)]))) (fun _ k => XS.iconst X44.here hx rfl (hb hby d1_29) k) ?_
      refine own_st (U' := (T44.setTop (mkF m 31 #[.val (.int p1), .val (.ref a), .val (.ref b), .val (.int q)] [(.ref b), (.int (0 : Int32)), (.ref b44), (.ref b44)]))) (fun _ k => XS.aloadN X44.here hx rfl (hb hby d1_30) rfl rfl k) ?_
      refine own_st (U' := (T44.setTop (mkF m 32 #[.val (.int p1), .val (.ref a), .val (.ref b), .val (.int q)] [(.int (0 : Int32)), (.ref b), (.int (0 : Int32)), (.ref b44), (.ref b44)]))) (fun _ k => XS.iconst X44.here hx rfl (hb hby d1_31) k) ?_
      refine own_st (U' := (T44.setTop (mkF m 33 #[.val (.int p1), .val (.ref a), .val (.ref b), .val (.int q)] [(.int b0), (.int (0 : Int32)), (.ref b44), (.ref b44)]))) (own_ldI X44 hx hZ e44 Vb (j := (0 : Int32)) (i := 0) (by decide) rfl (by decide) (v := (.int b0)) rfl (g := (mkF m 32 #[.val (.int p1), .val (.ref a), .val (.ref b), .val (.int q)] [(.int (0 : Int32)), (.ref b), (.int (0 : Int32)), (.ref b44), (.ref b44)])) rfl rfl (hb hby d1_32)) ?_
      obtain ⟨T45, h45, X45, e45, W45, V45, st45⟩ := own_stI X44 hx hZ e44 V_b44 (j := (0 : Int32)) (i := 0) (by decide) rfl (by decide) (g := (mkF m 33 #[.val (.int p1), .val (.ref a), .val (.ref b), .val (.int q)] [(.int b0), (.int (0 : Int32)), (.ref b44), (.ref b44)])) rfl rfl (hb hby d1_33)
      have Va := Va.other W45 ne_a_b44
      have Vb := Vb.other W45 ne_b_b44
      have V_b44 := V45
      have N45 := Fr.snoc X45 N0 g_b44
      have Z45 : n0 ≤ h45.size := Nat.le_trans Z44 (Nat.le_of_eq W45.size.symm)
      have K45 := K44.wr W45 (Or.inr sz_b44)
      refine own_st (U' := (T45.setTop (mkF m 34 #[.val (.int p1), .val (.ref a), .val (.ref b), .val (.int q)] [(.ref b44)]))) st45 ?_
      refine own_st (U' := (T45.setTop (mkF m 35 #[.val (.int p1), .val (.ref a), .val (.ref b), .val (.int q)] [(.ref b44), (.ref b44)]))) (fun _ k => XS.dup X45.here hx rfl (hb hby d1_34) rfl rfl k) ?_
      refine own_st (U' := (T45.setTop (mkF m 36 #[.val (.int p1), .val (.ref a), .val (.ref b), .val (.int q)] [(.int (1 : Int32)), (.ref b44), (.ref b44)]))) (fun _ k => XS.iconst X45.here hx rfl (hb hby d1_35) k) ?_
      refine own_st (U' := (T45.setTop (mkF m 37 #[.val (.int p1), .val (.ref a), .val (.ref b), .val (.int q)] [(.ref b), (.int (1 : Int32)), (.ref b44), (.ref b44)]))) (fun _ k => XS.aloadN X45.here hx rfl (hb hby d1_36) rfl rfl k) ?_
      refine own_st (U' := (T45.setTop (mkF m 38 #[.val (.int p1), .val (.ref a), .val (.ref b), .val (.int q)] [(.int (1 : Int32)), (.ref b), (.int (1 : Int32)), (.ref b44), (.ref b44)]))) (fun _ k => XS.iconst X45.here hx rfl (hb hby d1_37) k) ?_
      refine own_st (U' := (T45.setTop (mkF m 39 #[.val (.int p1), .val (.ref a), .val (.ref b), .val (.int q)] [(.int b1), (.int (1 : Int32)), (.ref b44), (.ref b44)]))) (own_ldI X45 hx hZ e45 Vb (j := (1 : Int32)) (i := 1) (by decide) rfl (by decide) (v := (.int b1)) rfl (g := (mkF m 38 #[.val (.int p1), .val (.ref a), .val (.ref b), .val (.int q)] [(.int (1 : Int32)), (.ref b), (.int (1 : Int32)), (.ref b44), (.ref b44)])) rfl rfl (hb hby d1_38)) ?_
      obtain ⟨T46, h46, X46, e46, W46, V46, st46⟩ := own_stI X45 hx hZ e45 V_b44 (j := (1 : Int32)) (i := 1) (by decide) rfl (by decide) (g := (mkF m 39 #[.val (.int p1), .val (.ref a), .val (.ref b), .val (.int q)] [(.int b1), (.int (1 : Int32)), (.ref b44), (.ref b44)])) rfl rfl (hb hby d1_39)
      have Va := Va.other W46 ne_a_b44
      have Vb := Vb.other W46 ne_b_b44
      have V_b44 := V46
      have N46 := Fr.snoc X46 N45 g_b44
      have Z46 : n0 ≤ h46.size := Nat.le_trans Z45 (Nat.le_of_eq W46.size.symm)
      have K46 := K45.wr W46 (Or.inr sz_b44)
      refine own_st (U' := (T46.setTop (mkF m 40 #[.val (.int p1), .val (.ref a), .val (.ref b), .val (.int q)] [(.ref b44)]))) st46 ?_
      have V_b44 : own_A Z h46 b44 .int 2 (own_L [b0, b1]) := V_b44.congr (by intro j hj; rcases j with _ | _ | j <;> first | rfl | omega)
      have q0 : own_pk0 p1 a0' b0 q = b0 := by simp [own_pk0, c0, c1]
      have q1 : own_pk1 p1 a1 b1 q = b1 := by simp [own_pk1, c0, c1]
      exact own_retA X46 hx (t := (.array .int)) Bd.returns Bd.notSynchronized rfl rfl (hb hby d1_40) (by decide) (by decide) (⟨b44, rfl, N46, by rw [e46]; exact K46, sz_b44, by rw [e46, q0, q1]; exact V_b44⟩)
    · skip
      refine own_st (U' := (s₁.setTop (mkF m 41 #[.val (.int p1), .val (.ref a), .val (.ref b), .val (.int q)] []))) (fun _ k => XS.icmpYes X0.here hx rfl (pc0 := 22) (pc' := 41) rfl (hb hby d1_22) rfl (feq c1).2 (by decide) (by decide) k) ?_
      refine own_st (U' := (s₁.setTop (mkF m 42 #[.val (.int p1), .val (.ref a), .val (.ref b), .val (.int q)] [(.int p1)]))) (fun _ k => XS.iloadN X0.here hx rfl (hb hby d1_41) rfl k) ?_
      refine own_st (U' := (s₁.setTop (mkF m 43 #[.val (.int p1), .val (.ref a), .val (.ref b), .val (.int q)] [(.int (2 : Int32)), (.int p1)]))) (fun _ k => XS.iconst X0.here hx rfl (hb hby d1_42) k) ?_
      by_cases c2 : p1 = (2 : Int32)
      · skip
        refine own_st (U' := (s₁.setTop (mkF m 46 #[.val (.int p1), .val (.ref a), .val (.ref b), .val (.int q)] []))) (fun _ k => XS.icmpNo X0.here hx rfl (hb hby d1_43) rfl (teq c2).2 k) ?_
        refine own_st (U' := (s₁.setTop (mkF m 47 #[.val (.int p1), .val (.ref a), .val (.ref b), .val (.int q)] [(.int (2 : Int32))]))) (fun _ k => XS.iconst X0.here hx rfl (hb hby d1_46) k) ?_
        obtain ⟨T47, h47, k47, X47, e47, E47, A47, st47⟩ := newP X0 hx hZ (hw _ (List.mem_of_getElem? (i := 0) rfl)) e0 (g := (mkF m 47 #[.val (.int p1), .val (.ref a), .val (.ref b), .val (.int q)] [(.int (2 : Int32))])) rfl (hb hby d1_47) rfl (by decide) (cap := 2) (by decide) (by decide) (by decide) (by decide)
        obtain ⟨b47, g47⟩ : ∃ z, z = h0.size := ⟨_, rfl⟩
        rw [← g47] at A47 st47
        have ne_a_b47 : a ≠ b47 := Nat.ne_of_lt (Nat.lt_of_lt_of_eq Va.lt g47.symm)
        have ne_b_b47 : b ≠ b47 := Nat.ne_of_lt (Nat.lt_of_lt_of_eq Vb.lt g47.symm)
        have g_b47 : n0 ≤ b47 := Nat.le_trans Z0 (Nat.le_of_eq g47.symm)
        have sz_b47 : h0.size ≤ b47 := Nat.le_trans (Keep.refl h0 []).1 (Nat.le_of_eq g47.symm)
        have Va := Va.ext E47
        have Vb := Vb.ext E47
        have Z47 : n0 ≤ h47.size := Nat.le_trans Z0 E47.1
        have K47 := (Keep.refl h0 []).ext E47
        have V_b47 : own_A Z h47 b47 .int 2 (fun _ => defaultValue .int) := own_A.new A47 (by decide)
        refine own_st (U' := (T47.setTop (mkF m 49 #[.val (.int p1), .val (.ref a), .val (.ref b), .val (.int q)] [(.ref b47)]))) st47 ?_
        refine own_st (U' := (T47.setTop (mkF m 50 #[.val (.int p1), .val (.ref a), .val (.ref b), .val (.int q)] [(.ref b47), (.ref b47)]))) (fun _ k => XS.dup X47.here hx rfl (hb hby d1_49) rfl rfl k) ?_
        refine own_st (U' := (T47.setTop (mkF m 51 #[.val (.int p1), .val (.ref a), .val (.ref b), .val (.int q)] [(.int (0 : Int32)), (.ref b47), (.ref b47)]))) (fun _ k => XS.iconst X47.here hx rfl (hb hby d1_50) k) ?_
        refine own_st (U' := (T47.setTop (mkF m 52 #[.val (.int p1), .val (.ref a), .val (.ref b), .val (.int q)] [(.int q), (.int (0 : Int32)), (.ref b47), (.ref b47)]))) (fun _ k => XS.iloadN X47.here hx rfl (hb hby d1_51) rfl k) ?_
        obtain ⟨T48, h48, X48, e48, W48, V48, st48⟩ := own_stI X47 hx hZ e47 V_b47 (j := (0 : Int32)) (i := 0) (by decide) rfl (by decide) (g := (mkF m 52 #[.val (.int p1), .val (.ref a), .val (.ref b), .val (.int q)] [(.int q), (.int (0 : Int32)), (.ref b47), (.ref b47)])) rfl rfl (hb hby d1_52)
        have Va := Va.other W48 ne_a_b47
        have Vb := Vb.other W48 ne_b_b47
        have V_b47 := V48
        have N48 := Fr.snoc X48 N0 g_b47
        have Z48 : n0 ≤ h48.size := Nat.le_trans Z47 (Nat.le_of_eq W48.size.symm)
        have K48 := K47.wr W48 (Or.inr sz_b47)
        refine own_st (U' := (T48.setTop (mkF m 53 #[.val (.int p1), .val (.ref a), .val (.ref b), .val (.int q)] [(.ref b47)]))) st48 ?_
        refine own_st (U' := (T48.setTop (mkF m 54 #[.val (.int p1), .val (.ref a), .val (.ref b), .val (.int q)] [(.ref b47), (.ref b47)]))) (fun _ k => XS.dup X48.here hx rfl (hb hby d1_53) rfl rfl k) ?_
        refine own_st (U' := (T48.setTop (mkF m 55 #[.val (.int p1), .val (.ref a), .val (.ref b), .val (.int q)] [(.int (1 : Int32)), (.ref b47), (.ref b47)]))) (fun _ k => XS.iconst X48.here hx rfl (hb hby d1_54) k) ?_
        refine own_st (U' := (T48.setTop (mkF m 56 #[.val (.int p1), .val (.ref a), .val (.ref b), .val (.int q)] [(.ref a), (.int (1 : Int32)), (.ref b47), (.ref b47)]))) (fun _ k => XS.aloadN X48.here hx rfl (hb hby d1_55) rfl rfl k) ?_
        refine own_st (U' := (T48.setTop (mkF m 57 #[.val (.int p1), .val (.ref a), .val (.ref b), .val (.int q)] [(.int (1 : Int32)), (.ref a), (.int (1 : Int32)), (.ref b47), (.ref b47)]))) (fun _ k => XS.iconst X48.here hx rfl (hb hby d1_56) k) ?_
        refine own_st (U' := (T48.setTop (mkF m 58 #[.val (.int p1), .val (.ref a), .val (.ref b), .val (.int q)] [(.int a1), (.int (1 : Int32)), (.ref b47), (.ref b47)]))) (own_ldI X48 hx hZ e48 Va (j := (1 : Int32)) (i := 1) (by decide) rfl (by decide) (v := (.int a1)) rfl (g := (mkF m 57 #[.val (.int p1), .val (.ref a), .val (.ref b), .val (.int q)] [(.int (1 : Int32)), (.ref a), (.int (1 : Int32)), (.ref b47), (.ref b47)])) rfl rfl (hb hby d1_57)) ?_
        obtain ⟨T49, h49, X49, e49, W49, V49, st49⟩ := own_stI X48 hx hZ e48 V_b47 (j := (1 : Int32)) (i := 1) (by decide) rfl (by decide) (g := (mkF m 58 #[.val (.int p1), .val (.ref a), .val (.ref b), .val (.int q)] [(.int a1), (.int (1 : Int32)), (.ref b47), (.ref b47)])) rfl rfl (hb hby d1_58)
        have Va := Va.other W49 ne_a_b47
        have Vb := Vb.other W49 ne_b_b47
        have V_b47 := V49
        have N49 := Fr.snoc X49 N48 g_b47
        have Z49 : n0 ≤ h49.size := Nat.le_trans Z48 (Nat.le_of_eq W49.size.symm)
        have K49 := K48.wr W49 (Or.inr sz_b47)
        refine own_st (U' := (T49.setTop (mkF m 59 #[.val (.int p1), .val (.ref a), .val (.ref b), .val (.int q)] [(.ref b47)]))) st49 ?_
        have V_b47 : own_A Z h49 b47 .int 2 (own_L [q, a1]) := V_b47.congr (by intro j hj; rcases j with _ | _ | j <;> first | rfl | omega)
        have q0 : own_pk0 p1 a0' b0 q = q := by simp [own_pk0, c0, c1, c2]
        have q1 : own_pk1 p1 a1 b1 q = a1 := by simp [own_pk1, c0, c1, c2]
        exact own_retA X49 hx (t := (.array .int)) Bd.returns Bd.notSynchronized rfl rfl (hb hby d1_59) (by decide) (by decide) (⟨b47, rfl, N49, by rw [e49]; exact K49, sz_b47, by rw [e49, q0, q1]; exact V_b47⟩)
      · skip
        refine own_st (U' := (s₁.setTop (mkF m 60 #[.val (.int p1), .val (.ref a), .val (.ref b), .val (.int q)] []))) (fun _ k => XS.icmpYes X0.here hx rfl (pc0 := 43) (pc' := 60) rfl (hb hby d1_43) rfl (feq c2).2 (by decide) (by decide) k) ?_
        refine own_st (U' := (s₁.setTop (mkF m 61 #[.val (.int p1), .val (.ref a), .val (.ref b), .val (.int q)] [(.int (2 : Int32))]))) (fun _ k => XS.iconst X0.here hx rfl (hb hby d1_60) k) ?_
        obtain ⟨T50, h50, k50, X50, e50, E50, A50, st50⟩ := newP X0 hx hZ (hw _ (List.mem_of_getElem? (i := 0) rfl)) e0 (g := (mkF m 61 #[.val (.int p1), .val (.ref a), .val (.ref b), .val (.int q)] [(.int (2 : Int32))])) rfl (hb hby d1_61) rfl (by decide) (cap := 2) (by decide) (by decide) (by decide) (by decide)
        obtain ⟨b50, g50⟩ : ∃ z, z = h0.size := ⟨_, rfl⟩
        rw [← g50] at A50 st50
        have ne_a_b50 : a ≠ b50 := Nat.ne_of_lt (Nat.lt_of_lt_of_eq Va.lt g50.symm)
        have ne_b_b50 : b ≠ b50 := Nat.ne_of_lt (Nat.lt_of_lt_of_eq Vb.lt g50.symm)
        have g_b50 : n0 ≤ b50 := Nat.le_trans Z0 (Nat.le_of_eq g50.symm)
        have sz_b50 : h0.size ≤ b50 := Nat.le_trans (Keep.refl h0 []).1 (Nat.le_of_eq g50.symm)
        have Va := Va.ext E50
        have Vb := Vb.ext E50
        have Z50 : n0 ≤ h50.size := Nat.le_trans Z0 E50.1
        have K50 := (Keep.refl h0 []).ext E50
        have V_b50 : own_A Z h50 b50 .int 2 (fun _ => defaultValue .int) := own_A.new A50 (by decide)
        refine own_st (U' := (T50.setTop (mkF m 63 #[.val (.int p1), .val (.ref a), .val (.ref b), .val (.int q)] [(.ref b50)]))) st50 ?_
        refine own_st (U' := (T50.setTop (mkF m 64 #[.val (.int p1), .val (.ref a), .val (.ref b), .val (.int q)] [(.ref b50), (.ref b50)]))) (fun _ k => XS.dup X50.here hx rfl (hb hby d1_63) rfl rfl k) ?_
        refine own_st (U' := (T50.setTop (mkF m 65 #[.val (.int p1), .val (.ref a), .val (.ref b), .val (.int q)] [(.int (0 : Int32)), (.ref b50), (.ref b50)]))) (fun _ k => XS.iconst X50.here hx rfl (hb hby d1_64) k) ?_
        refine own_st (U' := (T50.setTop (mkF m 66 #[.val (.int p1), .val (.ref a), .val (.ref b), .val (.int q)] [(.ref a), (.int (0 : Int32)), (.ref b50), (.ref b50)]))) (fun _ k => XS.aloadN X50.here hx rfl (hb hby d1_65) rfl rfl k) ?_
        refine own_st (U' := (T50.setTop (mkF m 67 #[.val (.int p1), .val (.ref a), .val (.ref b), .val (.int q)] [(.int (0 : Int32)), (.ref a), (.int (0 : Int32)), (.ref b50), (.ref b50)]))) (fun _ k => XS.iconst X50.here hx rfl (hb hby d1_66) k) ?_
        refine own_st (U' := (T50.setTop (mkF m 68 #[.val (.int p1), .val (.ref a), .val (.ref b), .val (.int q)] [(.int a0'), (.int (0 : Int32)), (.ref b50), (.ref b50)]))) (own_ldI X50 hx hZ e50 Va (j := (0 : Int32)) (i := 0) (by decide) rfl (by decide) (v := (.int a0')) rfl (g := (mkF m 67 #[.val (.int p1), .val (.ref a), .val (.ref b), .val (.int q)] [(.int (0 : Int32)), (.ref a), (.int (0 : Int32)), (.ref b50), (.ref b50)])) rfl rfl (hb hby d1_67)) ?_
        obtain ⟨T51, h51, X51, e51, W51, V51, st51⟩ := own_stI X50 hx hZ e50 V_b50 (j := (0 : Int32)) (i := 0) (by decide) rfl (by decide) (g := (mkF m 68 #[.val (.int p1), .val (.ref a), .val (.ref b), .val (.int q)] [(.int a0'), (.int (0 : Int32)), (.ref b50), (.ref b50)])) rfl rfl (hb hby d1_68)
        have Va := Va.other W51 ne_a_b50
        have Vb := Vb.other W51 ne_b_b50
        have V_b50 := V51
        have N51 := Fr.snoc X51 N0 g_b50
        have Z51 : n0 ≤ h51.size := Nat.le_trans Z50 (Nat.le_of_eq W51.size.symm)
        have K51 := K50.wr W51 (Or.inr sz_b50)
        refine own_st (U' := (T51.setTop (mkF m 69 #[.val (.int p1), .val (.ref a), .val (.ref b), .val (.int q)] [(.ref b50)]))) st51 ?_
        refine own_st (U' := (T51.setTop (mkF m 70 #[.val (.int p1), .val (.ref a), .val (.ref b), .val (.int q)] [(.ref b50), (.ref b50)]))) (fun _ k => XS.dup X51.here hx rfl (hb hby d1_69) rfl rfl k) ?_
        refine own_st (U' := (T51.setTop (mkF m 71 #[.val (.int p1), .val (.ref a), .val (.ref b), .val (.int q)] [(.int (1 : Int32)), (.ref b50), (.ref b50)]))) (fun _ k => XS.iconst X51.here hx rfl (hb hby d1_70) k) ?_
        refine own_st (U' := (T51.setTop (mkF m 72 #[.val (.int p1), .val (.ref a), .val (.ref b), .val (.int q)] [(.int q), (.int (1 : Int32)), (.ref b50), (.ref b50)]))) (fun _ k => XS.iloadN X51.here hx rfl (hb hby d1_71) rfl k) ?_
        obtain ⟨T52, h52, X52, e52, W52, V52, st52⟩ := own_stI X51 hx hZ e51 V_b50 (j := (1 : Int32)) (i := 1) (by decide) rfl (by decide) (g := (mkF m 72 #[.val (.int p1), .val (.ref a), .val (.ref b), .val (.int q)] [(.int q), (.int (1 : Int32)), (.ref b50), (.ref b50)])) rfl rfl (hb hby d1_72)
        have Va := Va.other W52 ne_a_b50
        have Vb := Vb.other W52 ne_b_b50
        have V_b50 := V52
        have N52 := Fr.snoc X52 N51 g_b50
        have Z52 : n0 ≤ h52.size := Nat.le_trans Z51 (Nat.le_of_eq W52.size.symm)
        have K52 := K51.wr W52 (Or.inr sz_b50)
        refine own_st (U' := (T52.setTop (mkF m 73 #[.val (.int p1), .val (.ref a), .val (.ref b), .val (.int q)] [(.ref b50)]))) st52 ?_
        have V_b50 : own_A Z h52 b50 .int 2 (own_L [a0', q]) := V_b50.congr (by intro j hj; rcases j with _ | _ | j <;> first | rfl | omega)
        have q0 : own_pk0 p1 a0' b0 q = a0' := by simp [own_pk0, c0, c1, c2]
        have q1 : own_pk1 p1 a1 b1 q = q := by simp [own_pk1, c0, c1, c2]
        exact own_retA X52 hx (t := (.array .int)) Bd.returns Bd.notSynchronized rfl rfl (hb hby d1_73) (by decide) (by decide) (⟨b50, rfl, N52, by rw [e52]; exact K52, sz_b50, by rw [e52, q0, q1]; exact V_b50⟩)
theorem d3_0 : decode method_5_code 0 = .ok (.aload_n 0, 1) := by decide +kernel
theorem d3_1 : decode method_5_code 1 = .ok (.aload_n 2, 1) := by decide +kernel
theorem d3_2 : decode method_5_code 2 = .ok (.invokestatic 8, 3) := by decide +kernel
theorem d3_5 : decode method_5_code 5 = .ok (.ifCond .eq 10, 3) := by decide +kernel
theorem d3_8 : decode method_5_code 8 = .ok (.iload_n 1, 1) := by decide +kernel
theorem d3_9 : decode method_5_code 9 = .ok (.iload_n 3, 1) := by decide +kernel
theorem d3_10 : decode method_5_code 10 = .ok (.if_icmp .ne 5, 3) := by decide +kernel
theorem d3_13 : decode method_5_code 13 = .ok (.iconst 1, 1) := by decide +kernel
theorem d3_14 : decode method_5_code 14 = .ok (.ireturn, 1) := by decide +kernel
theorem d3_15 : decode method_5_code 15 = .ok (.iload 4, 2) := by decide +kernel
theorem d3_17 : decode method_5_code 17 = .ok (.ifCond .eq 20, 3) := by decide +kernel
theorem d3_20 : decode method_5_code 20 = .ok (.aload_n 0, 1) := by decide +kernel
theorem d3_21 : decode method_5_code 21 = .ok (.aload 5, 2) := by decide +kernel
theorem d3_23 : decode method_5_code 23 = .ok (.invokestatic 8, 3) := by decide +kernel
theorem d3_26 : decode method_5_code 26 = .ok (.ifCond .eq 11, 3) := by decide +kernel
theorem d3_29 : decode method_5_code 29 = .ok (.iload_n 1, 1) := by decide +kernel
theorem d3_30 : decode method_5_code 30 = .ok (.iload 6, 2) := by decide +kernel
theorem d3_32 : decode method_5_code 32 = .ok (.if_icmp .ne 5, 3) := by decide +kernel
theorem d3_35 : decode method_5_code 35 = .ok (.iconst 1, 1) := by decide +kernel
theorem d3_36 : decode method_5_code 36 = .ok (.ireturn, 1) := by decide +kernel
theorem d3_37 : decode method_5_code 37 = .ok (.iload 7, 2) := by decide +kernel
theorem d3_39 : decode method_5_code 39 = .ok (.ifCond .eq 19, 3) := by decide +kernel
theorem d3_42 : decode method_5_code 42 = .ok (.aload_n 0, 1) := by decide +kernel
theorem d3_43 : decode method_5_code 43 = .ok (.aload_n 2, 1) := by decide +kernel
theorem d3_44 : decode method_5_code 44 = .ok (.invokestatic 8, 3) := by decide +kernel
theorem d3_47 : decode method_5_code 47 = .ok (.ifCond .eq 11, 3) := by decide +kernel
theorem d3_50 : decode method_5_code 50 = .ok (.iload_n 1, 1) := by decide +kernel
theorem d3_51 : decode method_5_code 51 = .ok (.iload 6, 2) := by decide +kernel
theorem d3_53 : decode method_5_code 53 = .ok (.if_icmp .ne 5, 3) := by decide +kernel
theorem d3_56 : decode method_5_code 56 = .ok (.iconst 1, 1) := by decide +kernel
theorem d3_57 : decode method_5_code 57 = .ok (.ireturn, 1) := by decide +kernel
theorem d3_58 : decode method_5_code 58 = .ok (.iconst 0, 1) := by decide +kernel
theorem d3_59 : decode method_5_code 59 = .ok (.ireturn, 1) := by decide +kernel
theorem pn_rmEx : plainName "com/example/quorum/quorum/FailedStatesContainsPinLaw" = true := by first | (simp [plainName, overriddenIn]; done) | decide +kernel
theorem pd_d3 : parseMethodDescriptor "([II[IIZ[IIZ)Z" = some ⟨[(.array .int), .int, (.array .int), .int, .boolean, (.array .int), .int, .boolean], some .boolean⟩ := by decide +kernel
theorem ef_rmEx (m : MethodId) (x0 : Addr) (x1 : Int32) (x2 : Addr) (x3 : Int32) (x4 : Int32) (x5 : Addr) (x6 : Int32) (x7 : Int32) : entryFrame m #[(.ref x0), (.int x1), (.ref x2), (.int x3), (.int x4), (.ref x5), (.int x6), (.int x7)] 8 = mkF m 0 #[.val (.ref x0), .val (.int x1), .val (.ref x2), .val (.int x3), .val (.int x4), .val (.ref x5), .val (.int x6), .val (.int x7)] [] := by first | (simp [entryFrame, mkF, argsToLocals, Value.category, maxLocals]; done) | rfl
def Q_rmEx (Z : State) (ky : Addr) (pos : Int32) (a : Addr) (p1 : Int32) (fB : Int32) (b : Addr) (p2 : Int32) (fA : Int32) (k0 : Int32) (k1 : Int32) (a0' : Int32) (a1 : Int32) (b0 : Int32) (b1 : Int32) (h0 : Heap) (n0 : Nat) (v : Option Value) (h : Heap) (L : List Loc) : Prop := v = some (.int (own_b ((own_M3 a0' a1 p1 fB b0 b1 p2 fA) k0 k1 pos))) ∧ Fr n0 L ∧ h = h0
set_option maxRecDepth 65536 in
set_option maxHeartbeats 40000000 in
theorem rmEx (l : Launch) (Z : State) (a0 : Array Value) (hw : ∀ d ∈ tables_1, d.before a0 Z = true) (ws : List Jvm.Cond) (ky : Addr) (pos : Int32) (a : Addr) (p1 : Int32) (fB : Int32) (b : Addr) (p2 : Int32) (fA : Int32) (k0 : Int32) (k1 : Int32) (a0' : Int32) (a1 : Int32) (b0 : Int32) (b1 : Int32) (h0 : Heap) (n0 : Nat) (Z0 : n0 ≤ h0.size) (V_ky : own_A Z h0 ky .int 2 (own_L [k0, k1])) (Va : own_A Z h0 a .int 2 (own_L [a0', a1])) (Vb : own_A Z h0 b .int 2 (own_L [b0, b1])) :
    MetFree l (⟨"com/example/quorum/quorum/FailedStatesContainsPinLaw", "expect", "([II[IIZ[IIZ)Z"⟩ : MethodName) (head1 (Jvm.Cond.code (⟨"com/example/quorum/quorum/FailedStatesContainsPinLaw", "expect", "([II[IIZ[IIZ)Z"⟩ : MethodName) method_5_code 8 (some .boolean) :: ws) ({ frames := 1, cells := 0, slots := 0, locals := 13 } : Room)) (fun as1 U => as1 = #[(.ref ky), (.int pos), (.ref a), (.int p1), (.int fB), (.ref b), (.int p2), (.int fA)] ∧ Z.Warmed39 U.vm ∧ U.heap = h0) (fun _ _ _ _ _ => True) (fun _ U o U' => ∃ v L, o = .returned v ∧ Q_rmEx Z ky pos a p1 fB b p2 fA k0 k1 a0' a1 b0 b1 h0 n0 v U'.heap L ∧ FrameEnd U o U' L ({ frames := 1, cells := 0, slots := 0, locals := 13 } : Room).cells ({ frames := 1, cells := 0, slots := 0, locals := 13 } : Room).slots) := by
  refine MetFree.of_bodySF (plainFor_of_name pn_rmEx) hisR ?_
  intro p e s m args below meth c s₁ Bd hml0 hP hK
  obtain ⟨rfl, hZ, hh⟩ := hP
  have hx := Bd.exec
  have hby := Bd.bytes
  have hml : c.maxLocals = 8 := hml0
  have hown : s.vm.findClass "com/example/quorum/quorum/FailedStatesContainsPinLaw" = some m.cls := findClass_of_methodNamed Bd.named
  have hnm := (name_of_methodNamed Bd.named Bd.method).1
  have X0 : Stand p l e ({ frames := 1, cells := 0, slots := 0, locals := 13 } : Room) s m #[(.ref ky), (.int pos), (.ref a), (.int p1), (.int fB), (.ref b), (.int p2), (.int fA)] below meth c s₁ [] 0 0 := Stand.of_body Bd
  have e0 : s₁.heap = h0 := by rw [← hh, Bd.state]; rfl
  have N0 := Fr.nil n0
  show own_Ends p e s below (Q_rmEx Z ky pos a p1 fB b p2 fA k0 k1 a0' a1 b0 b1 h0 n0) ({ frames := 1, cells := 0, slots := 0, locals := 13 } : Room).cells ({ frames := 1, cells := 0, slots := 0, locals := 13 } : Room).slots (s₁.setTop (entryFrame m #[(.ref ky), (.int pos), (.ref a), (.int p1), (.int fB), (.ref b), (.int p2), (.int fA)] 8))
  refine own_st (U' := (s₁.setTop (mkF m 0 #[.val (.ref ky), .val (.int pos), .val (.ref a), .val (.int p1), .val (.int fB), .val (.ref b), .val (.int p2), .val (.int fA)] []))) (fun _ k => castTop (ef_rmEx m ky pos a p1 fB b p2 fA) k) ?_
  refine own_st (U' := (s₁.setTop (mkF m 1 #[.val (.ref ky), .val (.int pos), .val (.ref a), .val (.int p1), .val (.int fB), .val (.ref b), .val (.int p2), .val (.int fA)] [(.ref ky)]))) (fun _ k => XS.aloadN X0.here hx rfl (hb hby d3_0) rfl rfl k) ?_
  refine own_st (U' := (s₁.setTop (mkF m 2 #[.val (.ref ky), .val (.int pos), .val (.ref a), .val (.int p1), .val (.int fB), .val (.ref b), .val (.int p2), .val (.int fA)] [(.ref a), (.ref ky)]))) (fun _ k => XS.aloadN X0.here hx rfl (hb hby d3_1) rfl rfl k) ?_
  obtain ⟨_, _, ⟨T53, L53, k53, n53⟩, -, X53, ⟨Lc53, hQ53, l53, y53, z53⟩, st53⟩ := Jvm.LawKit.callS X0 hx (y := (⟨"com/example/quorum/quorum/FailedStatesContainsPinLaw", "eq", "([I[I)Z"⟩ : MethodName)) hown (mvT hZ (hw _ (List.mem_of_getElem? (i := 12) rfl))) (mvT hZ (hw _ (List.mem_of_getElem? (i := 13) rfl))) (mvT hZ (hw _ (List.mem_of_getElem? (i := 4) rfl))) (mvT hZ (hw _ (List.mem_of_getElem? (i := 14) rfl))) (by decide) (backOf (W := 0) (rmEq l Z a0 hw [] ky a k0 k1 a0' a1 h0 n0 Z0 V_ky Va) hZ (hw _ (List.mem_of_getElem? (i := 14) rfl)) (hw _ (List.mem_of_getElem? (i := 4) rfl)) (by decide) (by decide)) (g := (mkF m 2 #[.val (.ref ky), .val (.int pos), .val (.ref a), .val (.int p1), .val (.int fB), .val (.ref b), .val (.int p2), .val (.int fA)] [(.ref a), (.ref ky)])) rfl (by rw [hml]; rfl) (argsL := [(.ref ky), (.ref a)]) (rest := []) (lenOf (pd_d4) rfl) rfl (by show 2 * 0 + _ ≤ _; exact Nat.le_of_eq rfl) (hb hby d3_2) (fun _ _ => ⟨rfl, e0, (Nat.le_of_ble_eq_true rfl), (Nat.le_of_ble_eq_true rfl)⟩)
  dsimp only [Pt.U, Pt.locs, Pt.cells, Pt.slots] at X53 l53 y53 z53 st53 hQ53
  subst l53 y53 z53
  obtain ⟨rfl, Nq53, eq53⟩ := hQ53
  have N53 := Fr.app N0 Nq53
  refine own_st (U' := (T53.setTop (mkF m 5 #[.val (.ref ky), .val (.int pos), .val (.ref a), .val (.int p1), .val (.int fB), .val (.ref b), .val (.int p2), .val (.int fA)] [(.int (own_b (own_eq k0 k1 a0' a1)))]))) st53 ?_
  by_cases f2 : own_eq k0 k1 a0' a1 = true
  · skip
    refine own_st (U' := (T53.setTop (mkF m 8 #[.val (.ref ky), .val (.int pos), .val (.ref a), .val (.int p1), .val (.int fB), .val (.ref b), .val (.int p2), .val (.int fA)] []))) (fun _ k => XS.ifNo X53.here hx rfl (hb hby d3_5) rfl ((if0 _ _).trans (feq (fun q => by rw [(own_b0 _).mp q] at f2; cases f2)).1) k) ?_
    refine own_st (U' := (T53.setTop (mkF m 9 #[.val (.ref ky), .val (.int pos), .val (.ref a), .val (.int p1), .val (.int fB), .val (.ref b), .val (.int p2), .val (.int fA)] [(.int pos)]))) (fun _ k => XS.iloadN X53.here hx rfl (hb hby d3_8) rfl k) ?_
    refine own_st (U' := (T53.setTop (mkF m 10 #[.val (.ref ky), .val (.int pos), .val (.ref a), .val (.int p1), .val (.int fB), .val (.ref b), .val (.int p2), .val (.int fA)] [(.int p1), (.int pos)]))) (fun _ k => XS.iloadN X53.here hx rfl (hb hby d3_9) rfl k) ?_
    by_cases f3 : pos = p1
    · skip
      refine own_st (U' := (T53.setTop (mkF m 13 #[.val (.ref ky), .val (.int pos), .val (.ref a), .val (.int p1), .val (.int fB), .val (.ref b), .val (.int p2), .val (.int fA)] []))) (fun _ k => XS.icmpNo X53.here hx rfl (hb hby d3_10) rfl (teq f3).2 k) ?_
      have q : own_b ((own_M3 a0' a1 p1 fB b0 b1 p2 fA) k0 k1 pos) = 1 := by first | (simp [own_b, own_M3, f2, f3]; done)
      refine own_st (U' := (T53.setTop (mkF m 14 #[.val (.ref ky), .val (.int pos), .val (.ref a), .val (.int p1), .val (.int fB), .val (.ref b), .val (.int p2), .val (.int fA)] [(.int (1 : Int32))]))) (fun _ k => XS.iconst X53.here hx rfl (hb hby d3_13) k) ?_
      exact own_retN X53 hx (t := .boolean) Bd.returns Bd.notSynchronized (by simp) rfl (hb hby d3_14) (by decide) (by decide) (⟨by rw [q], N53, eq53⟩)
    · skip
      refine own_st (U' := (T53.setTop (mkF m 15 #[.val (.ref ky), .val (.int pos), .val (.ref a), .val (.int p1), .val (.int fB), .val (.ref b), .val (.int p2), .val (.int fA)] []))) (fun _ k => XS.icmpYes X53.here hx rfl (pc0 := 10) (pc' := 15) rfl (hb hby d3_10) rfl (feq f3).2 (by decide) (by decide) k) ?_
      refine own_st (U' := (T53.setTop (mkF m 17 #[.val (.ref ky), .val (.int pos), .val (.ref a), .val (.int p1), .val (.int fB), .val (.ref b), .val (.int p2), .val (.int fA)] [(.int fB)]))) (fun _ k => XS.iload X53.here hx rfl (hb hby d3_15) rfl k) ?_
      by_cases e1 : fB = (0 : Int32)
      · skip
        refine own_st (U' := (T53.setTop (mkF m 37 #[.val (.ref ky), .val (.int pos), .val (.ref a), .val (.int p1), .val (.int fB), .val (.ref b), .val (.int p2), .val (.int fA)] []))) (fun _ k => XS.ifYes X53.here hx rfl (pc0 := 17) (pc' := 37) rfl (hb hby d3_17) rfl ((if0 _ _).trans (teq e1).1) (by decide) (by decide) k) ?_
        refine own_st (U' := (T53.setTop (mkF m 39 #[.val (.ref ky), .val (.int pos), .val (.ref a), .val (.int p1), .val (.int fB), .val (.ref b), .val (.int p2), .val (.int fA)] [(.int fA)]))) (fun _ k => XS.iload X53.here hx rfl (hb hby d3_37) rfl k) ?_
        by_cases d1 : fA = (0 : Int32)
        · skip
          refine own_st (U' := (T53.setTop (mkF m 58 #[.val (.ref ky), .val (.int pos), .val (.ref a), .val (.int p1), .val (.int fB), .val (.ref b), .val (.int p2), .val (.int fA)] []))) (fun _ k => XS.ifYes X53.here hx rfl (pc0 := 39) (pc' := 58) rfl (hb hby d3_39) rfl ((if0 _ _).trans (teq d1).1) (by decide) (by decide) k) ?_
          have q : own_b ((own_M3 a0' a1 p1 fB b0 b1 p2 fA) k0 k1 pos) = 0 := by first | (simp [own_b, own_M3, f2, f3, e1, d1]; done)
          refine own_st (U' := (T53.setTop (mkF m 59 #[.val (.ref ky), .val (.int pos), .val (.ref a), .val (.int p1), .val (.int fB), .val (.ref b), .val (.int p2), .val (.int fA)] [(.int (0 : Int32))]))) (fun _ k => XS.iconst X53.here hx rfl (hb hby d3_58) k) ?_
          exact own_retN X53 hx (t := .boolean) Bd.returns Bd.notSynchronized (by simp) rfl (hb hby d3_59) (by decide) (by decide) (⟨by rw [q], N53, eq53⟩)
        · skip
          refine own_st (U' := (T53.setTop (mkF m 42 #[.val (.ref ky), .val (.int pos), .val (.ref a), .val (.int p1), .val (.int fB), .val (.ref b), .val (.int p2), .val (.int fA)] []))) (fun _ k => XS.ifNo X53.here hx rfl (hb hby d3_39) rfl ((if0 _ _).trans (feq d1).1) k) ?_
          refine own_st (U' := (T53.setTop (mkF m 43 #[.val (.ref ky), .val (.int pos), .val (.ref a), .val (.int p1), .val (.int fB), .val (.ref b), .val (.int p2), .val (.int fA)] [(.ref ky)]))) (fun _ k => XS.aloadN X53.here hx rfl (hb hby d3_42) rfl rfl k) ?_
          refine own_st (U' := (T53.setTop (mkF m 44 #[.val (.ref ky), .val (.int pos), .val (.ref a), .val (.int p1), .val (.int fB), .val (.ref b), .val (.int p2), .val (.int fA)] [(.ref a), (.ref ky)]))) (fun _ k => XS.aloadN X53.here hx rfl (hb hby d3_43) rfl rfl k) ?_
          obtain ⟨_, _, ⟨T54, L54, k54, n54⟩, -, X54, ⟨Lc54, hQ54, l54, y54, z54⟩, st54⟩ := Jvm.LawKit.callS X53 hx (y := (⟨"com/example/quorum/quorum/FailedStatesContainsPinLaw", "eq", "([I[I)Z"⟩ : MethodName)) hown (mvT hZ (hw _ (List.mem_of_getElem? (i := 12) rfl))) (mvT hZ (hw _ (List.mem_of_getElem? (i := 13) rfl))) (mvT hZ (hw _ (List.mem_of_getElem? (i := 4) rfl))) (mvT hZ (hw _ (List.mem_of_getElem? (i := 14) rfl))) (by decide) (backOf (W := 0) (rmEq l Z a0 hw [] ky a k0 k1 a0' a1 h0 n0 Z0 V_ky Va) hZ (hw _ (List.mem_of_getElem? (i := 14) rfl)) (hw _ (List.mem_of_getElem? (i := 4) rfl)) (by decide) (by decide)) (g := (mkF m 44 #[.val (.ref ky), .val (.int pos), .val (.ref a), .val (.int p1), .val (.int fB), .val (.ref b), .val (.int p2), .val (.int fA)] [(.ref a), (.ref ky)])) rfl (by rw [hml]; rfl) (argsL := [(.ref ky), (.ref a)]) (rest := []) (lenOf (pd_d4) rfl) rfl (by show 2 * 0 + _ ≤ _; exact Nat.le_of_eq rfl) (hb hby d3_44) (fun _ _ => ⟨rfl, eq53, (Nat.le_of_ble_eq_true rfl), (Nat.le_of_ble_eq_true rfl)⟩)
          dsimp only [Pt.U, Pt.locs, Pt.cells, Pt.slots] at X54 l54 y54 z54 st54 hQ54
          subst l54 y54 z54
          obtain ⟨rfl, Nq54, eq54⟩ := hQ54
          have N54 := Fr.app N53 Nq54
          refine own_st (U' := (T54.setTop (mkF m 47 #[.val (.ref ky), .val (.int pos), .val (.ref a), .val (.int p1), .val (.int fB), .val (.ref b), .val (.int p2), .val (.int fA)] [(.int (own_b (own_eq k0 k1 a0' a1)))]))) st54 ?_
          by_cases d2 : own_eq k0 k1 a0' a1 = true
          · skip
            refine own_st (U' := (T54.setTop (mkF m 50 #[.val (.ref ky), .val (.int pos), .val (.ref a), .val (.int p1), .val (.int fB), .val (.ref b), .val (.int p2), .val (.int fA)] []))) (fun _ k => XS.ifNo X54.here hx rfl (hb hby d3_47) rfl ((if0 _ _).trans (feq (fun q => by rw [(own_b0 _).mp q] at d2; cases d2)).1) k) ?_
            refine own_st (U' := (T54.setTop (mkF m 51 #[.val (.ref ky), .val (.int pos), .val (.ref a), .val (.int p1), .val (.int fB), .val (.ref b), .val (.int p2), .val (.int fA)] [(.int pos)]))) (fun _ k => XS.iloadN X54.here hx rfl (hb hby d3_50) rfl k) ?_
            refine own_st (U' := (T54.setTop (mkF m 53 #[.val (.ref ky), .val (.int pos), .val (.ref a), .val (.int p1), .val (.int fB), .val (.ref b), .val (.int p2), .val (.int fA)] [(.int p2), (.int pos)]))) (fun _ k => XS.iload X54.here hx rfl (hb hby d3_51) rfl k) ?_
            by_cases d3 : pos = p2
            · skip
              refine own_st (U' := (T54.setTop (mkF m 56 #[.val (.ref ky), .val (.int pos), .val (.ref a), .val (.int p1), .val (.int fB), .val (.ref b), .val (.int p2), .val (.int fA)] []))) (fun _ k => XS.icmpNo X54.here hx rfl (hb hby d3_53) rfl (teq d3).2 k) ?_
              have q : own_b ((own_M3 a0' a1 p1 fB b0 b1 p2 fA) k0 k1 pos) = 1 := by first | (simp [own_b, own_M3, f2, f3, e1, d1, d2, d3]; done) | exact absurd f2 d2 | exact absurd d2 f2
              refine own_st (U' := (T54.setTop (mkF m 57 #[.val (.ref ky), .val (.int pos), .val (.ref a), .val (.int p1), .val (.int fB), .val (.ref b), .val (.int p2), .val (.int fA)] [(.int (1 : Int32))]))) (fun _ k => XS.iconst X54.here hx rfl (hb hby d3_56) k) ?_
              exact own_retN X54 hx (t := .boolean) Bd.returns Bd.notSynchronized (by simp) rfl (hb hby d3_57) (by decide) (by decide) (⟨by rw [q], N54, eq54⟩)
            · skip
              refine own_st (U' := (T54.setTop (mkF m 58 #[.val (.ref ky), .val (.int pos), .val (.ref a), .val (.int p1), .val (.int fB), .val (.ref b), .val (.int p2), .val (.int fA)] []))) (fun _ k => XS.icmpYes X54.here hx rfl (pc0 := 53) (pc' := 58) rfl (hb hby d3_53) rfl (feq d3).2 (by decide) (by decide) k) ?_
              have q : own_b ((own_M3 a0' a1 p1 fB b0 b1 p2 fA) k0 k1 pos) = 0 := by first | (simp [own_b, own_M3, f2, f3, e1, d1, d2, d3]; done) | exact absurd f2 d2 | exact absurd d2 f2
              refine own_st (U' := (T54.setTop (mkF m 59 #[.val (.ref ky), .val (.int pos), .val (.ref a), .val (.int p1), .val (.int fB), .val (.ref b), .val (.int p2), .val (.int fA)] [(.int (0 : Int32))]))) (fun _ k => XS.iconst X54.here hx rfl (hb hby d3_58) k) ?_
              exact own_retN X54 hx (t := .boolean) Bd.returns Bd.notSynchronized (by simp) rfl (hb hby d3_59) (by decide) (by decide) (⟨by rw [q], N54, eq54⟩)
          · skip
            refine own_st (U' := (T54.setTop (mkF m 58 #[.val (.ref ky), .val (.int pos), .val (.ref a), .val (.int p1), .val (.int fB), .val (.ref b), .val (.int p2), .val (.int fA)] []))) (fun _ k => XS.ifYes X54.here hx rfl (pc0 := 47) (pc' := 58) rfl (hb hby d3_47) rfl ((if0 _ _).trans (teq ((own_b0 _).mpr (by simpa using d2))).1) (by decide) (by decide) k) ?_
            have q : own_b ((own_M3 a0' a1 p1 fB b0 b1 p2 fA) k0 k1 pos) = 0 := by first | (simp [own_b, own_M3, f2, f3, e1, d1, d2]; done) | exact absurd f2 d2 | exact absurd d2 f2
            refine own_st (U' := (T54.setTop (mkF m 59 #[.val (.ref ky), .val (.int pos), .val (.ref a), .val (.int p1), .val (.int fB), .val (.ref b), .val (.int p2), .val (.int fA)] [(.int (0 : Int32))]))) (fun _ k => XS.iconst X54.here hx rfl (hb hby d3_58) k) ?_
            exact own_retN X54 hx (t := .boolean) Bd.returns Bd.notSynchronized (by simp) rfl (hb hby d3_59) (by decide) (by decide) (⟨by rw [q], N54, eq54⟩)
      · skip
        refine own_st (U' := (T53.setTop (mkF m 20 #[.val (.ref ky), .val (.int pos), .val (.ref a), .val (.int p1), .val (.int fB), .val (.ref b), .val (.int p2), .val (.int fA)] []))) (fun _ k => XS.ifNo X53.here hx rfl (hb hby d3_17) rfl ((if0 _ _).trans (feq e1).1) k) ?_
        refine own_st (U' := (T53.setTop (mkF m 21 #[.val (.ref ky), .val (.int pos), .val (.ref a), .val (.int p1), .val (.int fB), .val (.ref b), .val (.int p2), .val (.int fA)] [(.ref ky)]))) (fun _ k => XS.aloadN X53.here hx rfl (hb hby d3_20) rfl rfl k) ?_
        refine own_st (U' := (T53.setTop (mkF m 23 #[.val (.ref ky), .val (.int pos), .val (.ref a), .val (.int p1), .val (.int fB), .val (.ref b), .val (.int p2), .val (.int fA)] [(.ref b), (.ref ky)]))) (fun _ k => XS.aload X53.here hx rfl (hb hby d3_21) rfl rfl k) ?_
        obtain ⟨_, _, ⟨T55, L55, k55, n55⟩, -, X55, ⟨Lc55, hQ55, l55, y55, z55⟩, st55⟩ := Jvm.LawKit.callS X53 hx (y := (⟨"com/example/quorum/quorum/FailedStatesContainsPinLaw", "eq", "([I[I)Z"⟩ : MethodName)) hown (mvT hZ (hw _ (List.mem_of_getElem? (i := 12) rfl))) (mvT hZ (hw _ (List.mem_of_getElem? (i := 13) rfl))) (mvT hZ (hw _ (List.mem_of_getElem? (i := 4) rfl))) (mvT hZ (hw _ (List.mem_of_getElem? (i := 14) rfl))) (by decide) (backOf (W := 0) (rmEq l Z a0 hw [] ky b k0 k1 b0 b1 h0 n0 Z0 V_ky Vb) hZ (hw _ (List.mem_of_getElem? (i := 14) rfl)) (hw _ (List.mem_of_getElem? (i := 4) rfl)) (by decide) (by decide)) (g := (mkF m 23 #[.val (.ref ky), .val (.int pos), .val (.ref a), .val (.int p1), .val (.int fB), .val (.ref b), .val (.int p2), .val (.int fA)] [(.ref b), (.ref ky)])) rfl (by rw [hml]; rfl) (argsL := [(.ref ky), (.ref b)]) (rest := []) (lenOf (pd_d4) rfl) rfl (by show 2 * 0 + _ ≤ _; exact Nat.le_of_eq rfl) (hb hby d3_23) (fun _ _ => ⟨rfl, eq53, (Nat.le_of_ble_eq_true rfl), (Nat.le_of_ble_eq_true rfl)⟩)
        dsimp only [Pt.U, Pt.locs, Pt.cells, Pt.slots] at X55 l55 y55 z55 st55 hQ55
        subst l55 y55 z55
        obtain ⟨rfl, Nq55, eq55⟩ := hQ55
        have N55 := Fr.app N53 Nq55
        refine own_st (U' := (T55.setTop (mkF m 26 #[.val (.ref ky), .val (.int pos), .val (.ref a), .val (.int p1), .val (.int fB), .val (.ref b), .val (.int p2), .val (.int fA)] [(.int (own_b (own_eq k0 k1 b0 b1)))]))) st55 ?_
        by_cases e2 : own_eq k0 k1 b0 b1 = true
        · skip
          refine own_st (U' := (T55.setTop (mkF m 29 #[.val (.ref ky), .val (.int pos), .val (.ref a), .val (.int p1), .val (.int fB), .val (.ref b), .val (.int p2), .val (.int fA)] []))) (fun _ k => XS.ifNo X55.here hx rfl (hb hby d3_26) rfl ((if0 _ _).trans (feq (fun q => by rw [(own_b0 _).mp q] at e2; cases e2)).1) k) ?_
          refine own_st (U' := (T55.setTop (mkF m 30 #[.val (.ref ky), .val (.int pos), .val (.ref a), .val (.int p1), .val (.int fB), .val (.ref b), .val (.int p2), .val (.int fA)] [(.int pos)]))) (fun _ k => XS.iloadN X55.here hx rfl (hb hby d3_29) rfl k) ?_
          refine own_st (U' := (T55.setTop (mkF m 32 #[.val (.ref ky), .val (.int pos), .val (.ref a), .val (.int p1), .val (.int fB), .val (.ref b), .val (.int p2), .val (.int fA)] [(.int p2), (.int pos)]))) (fun _ k => XS.iload X55.here hx rfl (hb hby d3_30) rfl k) ?_
          by_cases e3 : pos = p2
          · skip
            refine own_st (U' := (T55.setTop (mkF m 35 #[.val (.ref ky), .val (.int pos), .val (.ref a), .val (.int p1), .val (.int fB), .val (.ref b), .val (.int p2), .val (.int fA)] []))) (fun _ k => XS.icmpNo X55.here hx rfl (hb hby d3_32) rfl (teq e3).2 k) ?_
            have q : own_b ((own_M3 a0' a1 p1 fB b0 b1 p2 fA) k0 k1 pos) = 1 := by first | (simp [own_b, own_M3, f2, f3, e1, e2, e3]; done)
            refine own_st (U' := (T55.setTop (mkF m 36 #[.val (.ref ky), .val (.int pos), .val (.ref a), .val (.int p1), .val (.int fB), .val (.ref b), .val (.int p2), .val (.int fA)] [(.int (1 : Int32))]))) (fun _ k => XS.iconst X55.here hx rfl (hb hby d3_35) k) ?_
            exact own_retN X55 hx (t := .boolean) Bd.returns Bd.notSynchronized (by simp) rfl (hb hby d3_36) (by decide) (by decide) (⟨by rw [q], N55, eq55⟩)
          · skip
            refine own_st (U' := (T55.setTop (mkF m 37 #[.val (.ref ky), .val (.int pos), .val (.ref a), .val (.int p1), .val (.int fB), .val (.ref b), .val (.int p2), .val (.int fA)] []))) (fun _ k => XS.icmpYes X55.here hx rfl (pc0 := 32) (pc' := 37) rfl (hb hby d3_32) rfl (feq e3).2 (by decide) (by decide) k) ?_
            refine own_st (U' := (T55.setTop (mkF m 39 #[.val (.ref ky), .val (.int pos), .val (.ref a), .val (.int p1), .val (.int fB), .val (.ref b), .val (.int p2), .val (.int fA)] [(.int fA)]))) (fun _ k => XS.iload X55.here hx rfl (hb hby d3_37) rfl k) ?_
            by_cases d1 : fA = (0 : Int32)
            · skip
              refine own_st (U' := (T55.setTop (mkF m 58 #[.val (.ref ky), .val (.int pos), .val (.ref a), .val (.int p1), .val (.int fB), .val (.ref b), .val (.int p2), .val (.int fA)] []))) (fun _ k => XS.ifYes X55.here hx rfl (pc0 := 39) (pc' := 58) rfl (hb hby d3_39) rfl ((if0 _ _).trans (teq d1).1) (by decide) (by decide) k) ?_
              have q : own_b ((own_M3 a0' a1 p1 fB b0 b1 p2 fA) k0 k1 pos) = 0 := by first | (simp [own_b, own_M3, f2, f3, e1, e2, e3, d1]; done)
              refine own_st (U' := (T55.setTop (mkF m 59 #[.val (.ref ky), .val (.int pos), .val (.ref a), .val (.int p1), .val (.int fB), .val (.ref b), .val (.int p2), .val (.int fA)] [(.int (0 : Int32))]))) (fun _ k => XS.iconst X55.here hx rfl (hb hby d3_58) k) ?_
              exact own_retN X55 hx (t := .boolean) Bd.returns Bd.notSynchronized (by simp) rfl (hb hby d3_59) (by decide) (by decide) (⟨by rw [q], N55, eq55⟩)
            · skip
              refine own_st (U' := (T55.setTop (mkF m 42 #[.val (.ref ky), .val (.int pos), .val (.ref a), .val (.int p1), .val (.int fB), .val (.ref b), .val (.int p2), .val (.int fA)] []))) (fun _ k => XS.ifNo X55.here hx rfl (hb hby d3_39) rfl ((if0 _ _).trans (feq d1).1) k) ?_
              refine own_st (U' := (T55.setTop (mkF m 43 #[.val (.ref ky), .val (.int pos), .val (.ref a), .val (.int p1), .val (.int fB), .val (.ref b), .val (.int p2), .val (.int fA)] [(.ref ky)]))) (fun _ k => XS.aloadN X55.here hx rfl (hb hby d3_42) rfl rfl k) ?_
              refine own_st (U' := (T55.setTop (mkF m 44 #[.val (.ref ky), .val (.int pos), .val (.ref a), .val (.int p1), .val (.int fB), .val (.ref b), .val (.int p2), .val (.int fA)] [(.ref a), (.ref ky)]))) (fun _ k => XS.aloadN X55.here hx rfl (hb hby d3_43) rfl rfl k) ?_
              obtain ⟨_, _, ⟨T56, L56, k56, n56⟩, -, X56, ⟨Lc56, hQ56, l56, y56, z56⟩, st56⟩ := Jvm.LawKit.callS X55 hx (y := (⟨"com/example/quorum/quorum/FailedStatesContainsPinLaw", "eq", "([I[I)Z"⟩ : MethodName)) hown (mvT hZ (hw _ (List.mem_of_getElem? (i := 12) rfl))) (mvT hZ (hw _ (List.mem_of_getElem? (i := 13) rfl))) (mvT hZ (hw _ (List.mem_of_getElem? (i := 4) rfl))) (mvT hZ (hw _ (List.mem_of_getElem? (i := 14) rfl))) (by decide) (backOf (W := 0) (rmEq l Z a0 hw [] ky a k0 k1 a0' a1 h0 n0 Z0 V_ky Va) hZ (hw _ (List.mem_of_getElem? (i := 14) rfl)) (hw _ (List.mem_of_getElem? (i := 4) rfl)) (by decide) (by decide)) (g := (mkF m 44 #[.val (.ref ky), .val (.int pos), .val (.ref a), .val (.int p1), .val (.int fB), .val (.ref b), .val (.int p2), .val (.int fA)] [(.ref a), (.ref ky)])) rfl (by rw [hml]; rfl) (argsL := [(.ref ky), (.ref a)]) (rest := []) (lenOf (pd_d4) rfl) rfl (by show 2 * 0 + _ ≤ _; exact Nat.le_of_eq rfl) (hb hby d3_44) (fun _ _ => ⟨rfl, eq55, (Nat.le_of_ble_eq_true rfl), (Nat.le_of_ble_eq_true rfl)⟩)
              dsimp only [Pt.U, Pt.locs, Pt.cells, Pt.slots] at X56 l56 y56 z56 st56 hQ56
              subst l56 y56 z56
              obtain ⟨rfl, Nq56, eq56⟩ := hQ56
              have N56 := Fr.app N55 Nq56
              refine own_st (U' := (T56.setTop (mkF m 47 #[.val (.ref ky), .val (.int pos), .val (.ref a), .val (.int p1), .val (.int fB), .val (.ref b), .val (.int p2), .val (.int fA)] [(.int (own_b (own_eq k0 k1 a0' a1)))]))) st56 ?_
              by_cases d2 : own_eq k0 k1 a0' a1 = true
              · skip
                refine own_st (U' := (T56.setTop (mkF m 50 #[.val (.ref ky), .val (.int pos), .val (.ref a), .val (.int p1), .val (.int fB), .val (.ref b), .val (.int p2), .val (.int fA)] []))) (fun _ k => XS.ifNo X56.here hx rfl (hb hby d3_47) rfl ((if0 _ _).trans (feq (fun q => by rw [(own_b0 _).mp q] at d2; cases d2)).1) k) ?_
                refine own_st (U' := (T56.setTop (mkF m 51 #[.val (.ref ky), .val (.int pos), .val (.ref a), .val (.int p1), .val (.int fB), .val (.ref b), .val (.int p2), .val (.int fA)] [(.int pos)]))) (fun _ k => XS.iloadN X56.here hx rfl (hb hby d3_50) rfl k) ?_
                refine own_st (U' := (T56.setTop (mkF m 53 #[.val (.ref ky), .val (.int pos), .val (.ref a), .val (.int p1), .val (.int fB), .val (.ref b), .val (.int p2), .val (.int fA)] [(.int p2), (.int pos)]))) (fun _ k => XS.iload X56.here hx rfl (hb hby d3_51) rfl k) ?_
                by_cases d3 : pos = p2
                · skip
                  refine own_st (U' := (T56.setTop (mkF m 56 #[.val (.ref ky), .val (.int pos), .val (.ref a), .val (.int p1), .val (.int fB), .val (.ref b), .val (.int p2), .val (.int fA)] []))) (fun _ k => XS.icmpNo X56.here hx rfl (hb hby d3_53) rfl (teq d3).2 k) ?_
                  have q : own_b ((own_M3 a0' a1 p1 fB b0 b1 p2 fA) k0 k1 pos) = 1 := by first | (simp [own_b, own_M3, f2, f3, e1, e2, e3, d1, d2, d3]; done) | exact absurd f2 d2 | exact absurd d2 f2
                  refine own_st (U' := (T56.setTop (mkF m 57 #[.val (.ref ky), .val (.int pos), .val (.ref a), .val (.int p1), .val (.int fB), .val (.ref b), .val (.int p2), .val (.int fA)] [(.int (1 : Int32))]))) (fun _ k => XS.iconst X56.here hx rfl (hb hby d3_56) k) ?_
                  exact own_retN X56 hx (t := .boolean) Bd.returns Bd.notSynchronized (by simp) rfl (hb hby d3_57) (by decide) (by decide) (⟨by rw [q], N56, eq56⟩)
                · skip
                  refine own_st (U' := (T56.setTop (mkF m 58 #[.val (.ref ky), .val (.int pos), .val (.ref a), .val (.int p1), .val (.int fB), .val (.ref b), .val (.int p2), .val (.int fA)] []))) (fun _ k => XS.icmpYes X56.here hx rfl (pc0 := 53) (pc' := 58) rfl (hb hby d3_53) rfl (feq d3).2 (by decide) (by decide) k) ?_
                  have q : own_b ((own_M3 a0' a1 p1 fB b0 b1 p2 fA) k0 k1 pos) = 0 := by first | (simp [own_b, own_M3, f2, f3, e1, e2, e3, d1, d2, d3]; done) | exact absurd f2 d2 | exact absurd d2 f2
                  refine own_st (U' := (T56.setTop (mkF m 59 #[.val (.ref ky), .val (.int pos), .val (.ref a), .val (.int p1), .val (.int fB), .val (.ref b), .val (.int p2), .val (.int fA)] [(.int (0 : Int32))]))) (fun _ k => XS.iconst X56.here hx rfl (hb hby d3_58) k) ?_
                  exact own_retN X56 hx (t := .boolean) Bd.returns Bd.notSynchronized (by simp) rfl (hb hby d3_59) (by decide) (by decide) (⟨by rw [q], N56, eq56⟩)
              · skip
                refine own_st (U' := (T56.setTop (mkF m 58 #[.val (.ref ky), .val (.int pos), .val (.ref a), .val (.int p1), .val (.int fB), .val (.ref b), .val (.int p2), .val (.int fA)] []))) (fun _ k => XS.ifYes X56.here hx rfl (pc0 := 47) (pc' := 58) rfl (hb hby d3_47) rfl ((if0 _ _).trans (teq ((own_b0 _).mpr (by simpa using d2))).1) (by decide) (by decide) k) ?_
                have q : own_b ((own_M3 a0' a1 p1 fB b0 b1 p2 fA) k0 k1 pos) = 0 := by first | (simp [own_b, own_M3, f2, f3, e1, e2, e3, d1, d2]; done) | exact absurd f2 d2 | exact absurd d2 f2
                refine own_st (U' := (T56.setTop (mkF m 59 #[.val (.ref ky), .val (.int pos), .val (.ref a), .val (.int p1), .val (.int fB), .val (.ref b), .val (.int p2), .val (.int fA)] [(.int (0 : Int32))]))) (fun _ k => XS.iconst X56.here hx rfl (hb hby d3_58) k) ?_
                exact own_retN X56 hx (t := .boolean) Bd.returns Bd.notSynchronized (by simp) rfl (hb hby d3_59) (by decide) (by decide) (⟨by rw [q], N56, eq56⟩)
        · skip
          refine own_st (U' := (T55.setTop (mkF m 37 #[.val (.ref ky), .val (.int pos), .val (.ref a), .val (.int p1), .val (.int fB), .val (.ref b), .val (.int p2), .val (.int fA)] []))) (fun _ k => XS.ifYes X55.here hx rfl (pc0 := 26) (pc' := 37) rfl (hb hby d3_26) rfl ((if0 _ _).trans (teq ((own_b0 _).mpr (by simpa using e2))).1) (by decide) (by decide) k) ?_
          refine own_st (U' := (T55.setTop (mkF m 39 #[.val (.ref ky), .val (.int pos), .val (.ref a), .val (.int p1), .val (.int fB), .val (.ref b), .val (.int p2), .val (.int fA)] [(.int fA)]))) (fun _ k => XS.iload X55.here hx rfl (hb hby d3_37) rfl k) ?_
          by_cases d1 : fA = (0 : Int32)
          · skip
            refine own_st (U' := (T55.setTop (mkF m 58 #[.val (.ref ky), .val (.int pos), .val (.ref a), .val (.int p1), .val (.int fB), .val (.ref b), .val (.int p2), .val (.int fA)] []))) (fun _ k => XS.ifYes X55.here hx rfl (pc0 := 39) (pc' := 58) rfl (hb hby d3_39) rfl ((if0 _ _).trans (teq d1).1) (by decide) (by decide) k) ?_
            have q : own_b ((own_M3 a0' a1 p1 fB b0 b1 p2 fA) k0 k1 pos) = 0 := by first | (simp [own_b, own_M3, f2, f3, e1, e2, d1]; done)
            refine own_st (U' := (T55.setTop (mkF m 59 #[.val (.ref ky), .val (.int pos), .val (.ref a), .val (.int p1), .val (.int fB), .val (.ref b), .val (.int p2), .val (.int fA)] [(.int (0 : Int32))]))) (fun _ k => XS.iconst X55.here hx rfl (hb hby d3_58) k) ?_
            exact own_retN X55 hx (t := .boolean) Bd.returns Bd.notSynchronized (by simp) rfl (hb hby d3_59) (by decide) (by decide) (⟨by rw [q], N55, eq55⟩)
          · skip
            refine own_st (U' := (T55.setTop (mkF m 42 #[.val (.ref ky), .val (.int pos), .val (.ref a), .val (.int p1), .val (.int fB), .val (.ref b), .val (.int p2), .val (.int fA)] []))) (fun _ k => XS.ifNo X55.here hx rfl (hb hby d3_39) rfl ((if0 _ _).trans (feq d1).1) k) ?_
            refine own_st (U' := (T55.setTop (mkF m 43 #[.val (.ref ky), .val (.int pos), .val (.ref a), .val (.int p1), .val (.int fB), .val (.ref b), .val (.int p2), .val (.int fA)] [(.ref ky)]))) (fun _ k => XS.aloadN X55.here hx rfl (hb hby d3_42) rfl rfl k) ?_
            refine own_st (U' := (T55.setTop (mkF m 44 #[.val (.ref ky), .val (.int pos), .val (.ref a), .val (.int p1), .val (.int fB), .val (.ref b), .val (.int p2), .val (.int fA)] [(.ref a), (.ref ky)]))) (fun _ k => XS.aloadN X55.here hx rfl (hb hby d3_43) rfl rfl k) ?_
            obtain ⟨_, _, ⟨T57, L57, k57, n57⟩, -, X57, ⟨Lc57, hQ57, l57, y57, z57⟩, st57⟩ := Jvm.LawKit.callS X55 hx (y := (⟨"com/example/quorum/quorum/FailedStatesContainsPinLaw", "eq", "([I[I)Z"⟩ : MethodName)) hown (mvT hZ (hw _ (List.mem_of_getElem? (i := 12) rfl))) (mvT hZ (hw _ (List.mem_of_getElem? (i := 13) rfl))) (mvT hZ (hw _ (List.mem_of_getElem? (i := 4) rfl))) (mvT hZ (hw _ (List.mem_of_getElem? (i := 14) rfl))) (by decide) (backOf (W := 0) (rmEq l Z a0 hw [] ky a k0 k1 a0' a1 h0 n0 Z0 V_ky Va) hZ (hw _ (List.mem_of_getElem? (i := 14) rfl)) (hw _ (List.mem_of_getElem? (i := 4) rfl)) (by decide) (by decide)) (g := (mkF m 44 #[.val (.ref ky), .val (.int pos), .val (.ref a), .val (.int p1), .val (.int fB), .val (.ref b), .val (.int p2), .val (.int fA)] [(.ref a), (.ref ky)])) rfl (by rw [hml]; rfl) (argsL := [(.ref ky), (.ref a)]) (rest := []) (lenOf (pd_d4) rfl) rfl (by show 2 * 0 + _ ≤ _; exact Nat.le_of_eq rfl) (hb hby d3_44) (fun _ _ => ⟨rfl, eq55, (Nat.le_of_ble_eq_true rfl), (Nat.le_of_ble_eq_true rfl)⟩)
            dsimp only [Pt.U, Pt.locs, Pt.cells, Pt.slots] at X57 l57 y57 z57 st57 hQ57
            subst l57 y57 z57
            obtain ⟨rfl, Nq57, eq57⟩ := hQ57
            have N57 := Fr.app N55 Nq57
            refine own_st (U' := (T57.setTop (mkF m 47 #[.val (.ref ky), .val (.int pos), .val (.ref a), .val (.int p1), .val (.int fB), .val (.ref b), .val (.int p2), .val (.int fA)] [(.int (own_b (own_eq k0 k1 a0' a1)))]))) st57 ?_
            by_cases d2 : own_eq k0 k1 a0' a1 = true
            · skip
              refine own_st (U' := (T57.setTop (mkF m 50 #[.val (.ref ky), .val (.int pos), .val (.ref a), .val (.int p1), .val (.int fB), .val (.ref b), .val (.int p2), .val (.int fA)] []))) (fun _ k => XS.ifNo X57.here hx rfl (hb hby d3_47) rfl ((if0 _ _).trans (feq (fun q => by rw [(own_b0 _).mp q] at d2; cases d2)).1) k) ?_
              refine own_st (U' := (T57.setTop (mkF m 51 #[.val (.ref ky), .val (.int pos), .val (.ref a), .val (.int p1), .val (.int fB), .val (.ref b), .val (.int p2), .val (.int fA)] [(.int pos)]))) (fun _ k => XS.iloadN X57.here hx rfl (hb hby d3_50) rfl k) ?_
              refine own_st (U' := (T57.setTop (mkF m 53 #[.val (.ref ky), .val (.int pos), .val (.ref a), .val (.int p1), .val (.int fB), .val (.ref b), .val (.int p2), .val (.int fA)] [(.int p2), (.int pos)]))) (fun _ k => XS.iload X57.here hx rfl (hb hby d3_51) rfl k) ?_
              by_cases d3 : pos = p2
              · skip
                refine own_st (U' := (T57.setTop (mkF m 56 #[.val (.ref ky), .val (.int pos), .val (.ref a), .val (.int p1), .val (.int fB), .val (.ref b), .val (.int p2), .val (.int fA)] []))) (fun _ k => XS.icmpNo X57.here hx rfl (hb hby d3_53) rfl (teq d3).2 k) ?_
                have q : own_b ((own_M3 a0' a1 p1 fB b0 b1 p2 fA) k0 k1 pos) = 1 := by first | (simp [own_b, own_M3, f2, f3, e1, e2, d1, d2, d3]; done) | exact absurd f2 d2 | exact absurd d2 f2
                refine own_st (U' := (T57.setTop (mkF m 57 #[.val (.ref ky), .val (.int pos), .val (.ref a), .val (.int p1), .val (.int fB), .val (.ref b), .val (.int p2), .val (.int fA)] [(.int (1 : Int32))]))) (fun _ k => XS.iconst X57.here hx rfl (hb hby d3_56) k) ?_
                exact own_retN X57 hx (t := .boolean) Bd.returns Bd.notSynchronized (by simp) rfl (hb hby d3_57) (by decide) (by decide) (⟨by rw [q], N57, eq57⟩)
              · skip
                refine own_st (U' := (T57.setTop (mkF m 58 #[.val (.ref ky), .val (.int pos), .val (.ref a), .val (.int p1), .val (.int fB), .val (.ref b), .val (.int p2), .val (.int fA)] []))) (fun _ k => XS.icmpYes X57.here hx rfl (pc0 := 53) (pc' := 58) rfl (hb hby d3_53) rfl (feq d3).2 (by decide) (by decide) k) ?_
                have q : own_b ((own_M3 a0' a1 p1 fB b0 b1 p2 fA) k0 k1 pos) = 0 := by first | (simp [own_b, own_M3, f2, f3, e1, e2, d1, d2, d3]; done) | exact absurd f2 d2 | exact absurd d2 f2
                refine own_st (U' := (T57.setTop (mkF m 59 #[.val (.ref ky), .val (.int pos), .val (.ref a), .val (.int p1), .val (.int fB), .val (.ref b), .val (.int p2), .val (.int fA)] [(.int (0 : Int32))]))) (fun _ k => XS.iconst X57.here hx rfl (hb hby d3_58) k) ?_
                exact own_retN X57 hx (t := .boolean) Bd.returns Bd.notSynchronized (by simp) rfl (hb hby d3_59) (by decide) (by decide) (⟨by rw [q], N57, eq57⟩)
            · skip
              refine own_st (U' := (T57.setTop (mkF m 58 #[.val (.ref ky), .val (.int pos), .val (.ref a), .val (.int p1), .val (.int fB), .val (.ref b), .val (.int p2), .val (.int fA)] []))) (fun _ k => XS.ifYes X57.here hx rfl (pc0 := 47) (pc' := 58) rfl (hb hby d3_47) rfl ((if0 _ _).trans (teq ((own_b0 _).mpr (by simpa using d2))).1) (by decide) (by decide) k) ?_
              have q : own_b ((own_M3 a0' a1 p1 fB b0 b1 p2 fA) k0 k1 pos) = 0 := by first | (simp [own_b, own_M3, f2, f3, e1, e2, d1, d2]; done) | exact absurd f2 d2 | exact absurd d2 f2
              refine own_st (U' := (T57.setTop (mkF m 59 #[.val (.ref ky), .val (.int pos), .val (.ref a), .val (.int p1), .val (.int fB), .val (.ref b), .val (.int p2), .val (.int fA)] [(.int (0 : Int32))]))) (fun _ k => XS.iconst X57.here hx rfl (hb hby d3_58) k) ?_
              exact own_retN X57 hx (t := .boolean) Bd.returns Bd.notSynchronized (by simp) rfl (hb hby d3_59) (by decide) (by decide) (⟨by rw [q], N57, eq57⟩)
  · skip
    refine own_st (U' := (T53.setTop (mkF m 15 #[.val (.ref ky), .val (.int pos), .val (.ref a), .val (.int p1), .val (.int fB), .val (.ref b), .val (.int p2), .val (.int fA)] []))) (fun _ k => XS.ifYes X53.here hx rfl (pc0 := 5) (pc' := 15) rfl (hb hby d3_5) rfl ((if0 _ _).trans (teq ((own_b0 _).mpr (by simpa using f2))).1) (by decide) (by decide) k) ?_
    refine own_st (U' := (T53.setTop (mkF m 17 #[.val (.ref ky), .val (.int pos), .val (.ref a), .val (.int p1), .val (.int fB), .val (.ref b), .val (.int p2), .val (.int fA)] [(.int fB)]))) (fun _ k => XS.iload X53.here hx rfl (hb hby d3_15) rfl k) ?_
    by_cases e1 : fB = (0 : Int32)
    · skip
      refine own_st (U' := (T53.setTop (mkF m 37 #[.val (.ref ky), .val (.int pos), .val (.ref a), .val (.int p1), .val (.int fB), .val (.ref b), .val (.int p2), .val (.int fA)] []))) (fun _ k => XS.ifYes X53.here hx rfl (pc0 := 17) (pc' := 37) rfl (hb hby d3_17) rfl ((if0 _ _).trans (teq e1).1) (by decide) (by decide) k) ?_
      refine own_st (U' := (T53.setTop (mkF m 39 #[.val (.ref ky), .val (.int pos), .val (.ref a), .val (.int p1), .val (.int fB), .val (.ref b), .val (.int p2), .val (.int fA)] [(.int fA)]))) (fun _ k => XS.iload X53.here hx rfl (hb hby d3_37) rfl k) ?_
      by_cases d1 : fA = (0 : Int32)
      · skip
        refine own_st (U' := (T53.setTop (mkF m 58 #[.val (.ref ky), .val (.int pos), .val (.ref a), .val (.int p1), .val (.int fB), .val (.ref b), .val (.int p2), .val (.int fA)] []))) (fun _ k => XS.ifYes X53.here hx rfl (pc0 := 39) (pc' := 58) rfl (hb hby d3_39) rfl ((if0 _ _).trans (teq d1).1) (by decide) (by decide) k) ?_
        have q : own_b ((own_M3 a0' a1 p1 fB b0 b1 p2 fA) k0 k1 pos) = 0 := by first | (simp [own_b, own_M3, f2, e1, d1]; done)
        refine own_st (U' := (T53.setTop (mkF m 59 #[.val (.ref ky), .val (.int pos), .val (.ref a), .val (.int p1), .val (.int fB), .val (.ref b), .val (.int p2), .val (.int fA)] [(.int (0 : Int32))]))) (fun _ k => XS.iconst X53.here hx rfl (hb hby d3_58) k) ?_
        exact own_retN X53 hx (t := .boolean) Bd.returns Bd.notSynchronized (by simp) rfl (hb hby d3_59) (by decide) (by decide) (⟨by rw [q], N53, eq53⟩)
      · skip
        refine own_st (U' := (T53.setTop (mkF m 42 #[.val (.ref ky), .val (.int pos), .val (.ref a), .val (.int p1), .val (.int fB), .val (.ref b), .val (.int p2), .val (.int fA)] []))) (fun _ k => XS.ifNo X53.here hx rfl (hb hby d3_39) rfl ((if0 _ _).trans (feq d1).1) k) ?_
        refine own_st (U' := (T53.setTop (mkF m 43 #[.val (.ref ky), .val (.int pos), .val (.ref a), .val (.int p1), .val (.int fB), .val (.ref b), .val (.int p2), .val (.int fA)] [(.ref ky)]))) (fun _ k => XS.aloadN X53.here hx rfl (hb hby d3_42) rfl rfl k) ?_
        refine own_st (U' := (T53.setTop (mkF m 44 #[.val (.ref ky), .val (.int pos), .val (.ref a), .val (.int p1), .val (.int fB), .val (.ref b), .val (.int p2), .val (.int fA)] [(.ref a), (.ref ky)]))) (fun _ k => XS.aloadN X53.here hx rfl (hb hby d3_43) rfl rfl k) ?_
        obtain ⟨_, _, ⟨T58, L58, k58, n58⟩, -, X58, ⟨Lc58, hQ58, l58, y58, z58⟩, st58⟩ := Jvm.LawKit.callS X53 hx (y := (⟨"com/example/quorum/quorum/FailedStatesContainsPinLaw", "eq", "([I[I)Z"⟩ : MethodName)) hown (mvT hZ (hw _ (List.mem_of_getElem? (i := 12) rfl))) (mvT hZ (hw _ (List.mem_of_getElem? (i := 13) rfl))) (mvT hZ (hw _ (List.mem_of_getElem? (i := 4) rfl))) (mvT hZ (hw _ (List.mem_of_getElem? (i := 14) rfl))) (by decide) (backOf (W := 0) (rmEq l Z a0 hw [] ky a k0 k1 a0' a1 h0 n0 Z0 V_ky Va) hZ (hw _ (List.mem_of_getElem? (i := 14) rfl)) (hw _ (List.mem_of_getElem? (i := 4) rfl)) (by decide) (by decide)) (g := (mkF m 44 #[.val (.ref ky), .val (.int pos), .val (.ref a), .val (.int p1), .val (.int fB), .val (.ref b), .val (.int p2), .val (.int fA)] [(.ref a), (.ref ky)])) rfl (by rw [hml]; rfl) (argsL := [(.ref ky), (.ref a)]) (rest := []) (lenOf (pd_d4) rfl) rfl (by show 2 * 0 + _ ≤ _; exact Nat.le_of_eq rfl) (hb hby d3_44) (fun _ _ => ⟨rfl, eq53, (Nat.le_of_ble_eq_true rfl), (Nat.le_of_ble_eq_true rfl)⟩)
        dsimp only [Pt.U, Pt.locs, Pt.cells, Pt.slots] at X58 l58 y58 z58 st58 hQ58
        subst l58 y58 z58
        obtain ⟨rfl, Nq58, eq58⟩ := hQ58
        have N58 := Fr.app N53 Nq58
        refine own_st (U' := (T58.setTop (mkF m 47 #[.val (.ref ky), .val (.int pos), .val (.ref a), .val (.int p1), .val (.int fB), .val (.ref b), .val (.int p2), .val (.int fA)] [(.int (own_b (own_eq k0 k1 a0' a1)))]))) st58 ?_
        by_cases d2 : own_eq k0 k1 a0' a1 = true
        · skip
          refine own_st (U' := (T58.setTop (mkF m 50 #[.val (.ref ky), .val (.int pos), .val (.ref a), .val (.int p1), .val (.int fB), .val (.ref b), .val (.int p2), .val (.int fA)] []))) (fun _ k => XS.ifNo X58.here hx rfl (hb hby d3_47) rfl ((if0 _ _).trans (feq (fun q => by rw [(own_b0 _).mp q] at d2; cases d2)).1) k) ?_
          refine own_st (U' := (T58.setTop (mkF m 51 #[.val (.ref ky), .val (.int pos), .val (.ref a), .val (.int p1), .val (.int fB), .val (.ref b), .val (.int p2), .val (.int fA)] [(.int pos)]))) (fun _ k => XS.iloadN X58.here hx rfl (hb hby d3_50) rfl k) ?_
          refine own_st (U' := (T58.setTop (mkF m 53 #[.val (.ref ky), .val (.int pos), .val (.ref a), .val (.int p1), .val (.int fB), .val (.ref b), .val (.int p2), .val (.int fA)] [(.int p2), (.int pos)]))) (fun _ k => XS.iload X58.here hx rfl (hb hby d3_51) rfl k) ?_
          by_cases d3 : pos = p2
          · skip
            refine own_st (U' := (T58.setTop (mkF m 56 #[.val (.ref ky), .val (.int pos), .val (.ref a), .val (.int p1), .val (.int fB), .val (.ref b), .val (.int p2), .val (.int fA)] []))) (fun _ k => XS.icmpNo X58.here hx rfl (hb hby d3_53) rfl (teq d3).2 k) ?_
            have q : own_b ((own_M3 a0' a1 p1 fB b0 b1 p2 fA) k0 k1 pos) = 1 := by first | (simp [own_b, own_M3, f2, e1, d1, d2, d3]; done) | exact absurd f2 d2 | exact absurd d2 f2
            refine own_st (U' := (T58.setTop (mkF m 57 #[.val (.ref ky), .val (.int pos), .val (.ref a), .val (.int p1), .val (.int fB), .val (.ref b), .val (.int p2), .val (.int fA)] [(.int (1 : Int32))]))) (fun _ k => XS.iconst X58.here hx rfl (hb hby d3_56) k) ?_
            exact own_retN X58 hx (t := .boolean) Bd.returns Bd.notSynchronized (by simp) rfl (hb hby d3_57) (by decide) (by decide) (⟨by rw [q], N58, eq58⟩)
          · skip
            refine own_st (U' := (T58.setTop (mkF m 58 #[.val (.ref ky), .val (.int pos), .val (.ref a), .val (.int p1), .val (.int fB), .val (.ref b), .val (.int p2), .val (.int fA)] []))) (fun _ k => XS.icmpYes X58.here hx rfl (pc0 := 53) (pc' := 58) rfl (hb hby d3_53) rfl (feq d3).2 (by decide) (by decide) k) ?_
            have q : own_b ((own_M3 a0' a1 p1 fB b0 b1 p2 fA) k0 k1 pos) = 0 := by first | (simp [own_b, own_M3, f2, e1, d1, d2, d3]; done) | exact absurd f2 d2 | exact absurd d2 f2
            refine own_st (U' := (T58.setTop (mkF m 59 #[.val (.ref ky), .val (.int pos), .val (.ref a), .val (.int p1), .val (.int fB), .val (.ref b), .val (.int p2), .val (.int fA)] [(.int (0 : Int32))]))) (fun _ k => XS.iconst X58.here hx rfl (hb hby d3_58) k) ?_
            exact own_retN X58 hx (t := .boolean) Bd.returns Bd.notSynchronized (by simp) rfl (hb hby d3_59) (by decide) (by decide) (⟨by rw [q], N58, eq58⟩)
        · skip
          refine own_st (U' := (T58.setTop (mkF m 58 #[.val (.ref ky), .val (.int pos), .val (.ref a), .val (.int p1), .val (.int fB), .val (.ref b), .val (.int p2), .val (.int fA)] []))) (fun _ k => XS.ifYes X58.here hx rfl (pc0 := 47) (pc' := 58) rfl (hb hby d3_47) rfl ((if0 _ _).trans (teq ((own_b0 _).mpr (by simpa using d2))).1) (by decide) (by decide) k) ?_
          have q : own_b ((own_M3 a0' a1 p1 fB b0 b1 p2 fA) k0 k1 pos) = 0 := by first | (simp [own_b, own_M3, f2, e1, d1, d2]; done) | exact absurd f2 d2 | exact absurd d2 f2
          refine own_st (U' := (T58.setTop (mkF m 59 #[.val (.ref ky), .val (.int pos), .val (.ref a), .val (.int p1), .val (.int fB), .val (.ref b), .val (.int p2), .val (.int fA)] [(.int (0 : Int32))]))) (fun _ k => XS.iconst X58.here hx rfl (hb hby d3_58) k) ?_
          exact own_retN X58 hx (t := .boolean) Bd.returns Bd.notSynchronized (by simp) rfl (hb hby d3_59) (by decide) (by decide) (⟨by rw [q], N58, eq58⟩)
    · skip
      refine own_st (U' := (T53.setTop (mkF m 20 #[.val (.ref ky), .val (.int pos), .val (.ref a), .val (.int p1), .val (.int fB), .val (.ref b), .val (.int p2), .val (.int fA)] []))) (fun _ k => XS.ifNo X53.here hx rfl (hb hby d3_17) rfl ((if0 _ _).trans (feq e1).1) k) ?_
      refine own_st (U' := (T53.setTop (mkF m 21 #[.val (.ref ky), .val (.int pos), .val (.ref a), .val (.int p1), .val (.int fB), .val (.ref b), .val (.int p2), .val (.int fA)] [(.ref ky)]))) (fun _ k => XS.aloadN X53.here hx rfl (hb hby d3_20) rfl rfl k) ?_
      refine own_st (U' := (T53.setTop (mkF m 23 #[.val (.ref ky), .val (.int pos), .val (.ref a), .val (.int p1), .val (.int fB), .val (.ref b), .val (.int p2), .val (.int fA)] [(.ref b), (.ref ky)]))) (fun _ k => XS.aload X53.here hx rfl (hb hby d3_21) rfl rfl k) ?_
      obtain ⟨_, _, ⟨T59, L59, k59, n59⟩, -, X59, ⟨Lc59, hQ59, l59, y59, z59⟩, st59⟩ := Jvm.LawKit.callS X53 hx (y := (⟨"com/example/quorum/quorum/FailedStatesContainsPinLaw", "eq", "([I[I)Z"⟩ : MethodName)) hown (mvT hZ (hw _ (List.mem_of_getElem? (i := 12) rfl))) (mvT hZ (hw _ (List.mem_of_getElem? (i := 13) rfl))) (mvT hZ (hw _ (List.mem_of_getElem? (i := 4) rfl))) (mvT hZ (hw _ (List.mem_of_getElem? (i := 14) rfl))) (by decide) (backOf (W := 0) (rmEq l Z a0 hw [] ky b k0 k1 b0 b1 h0 n0 Z0 V_ky Vb) hZ (hw _ (List.mem_of_getElem? (i := 14) rfl)) (hw _ (List.mem_of_getElem? (i := 4) rfl)) (by decide) (by decide)) (g := (mkF m 23 #[.val (.ref ky), .val (.int pos), .val (.ref a), .val (.int p1), .val (.int fB), .val (.ref b), .val (.int p2), .val (.int fA)] [(.ref b), (.ref ky)])) rfl (by rw [hml]; rfl) (argsL := [(.ref ky), (.ref b)]) (rest := []) (lenOf (pd_d4) rfl) rfl (by show 2 * 0 + _ ≤ _; exact Nat.le_of_eq rfl) (hb hby d3_23) (fun _ _ => ⟨rfl, eq53, (Nat.le_of_ble_eq_true rfl), (Nat.le_of_ble_eq_true rfl)⟩)
      dsimp only [Pt.U, Pt.locs, Pt.cells, Pt.slots] at X59 l59 y59 z59 st59 hQ59
      subst l59 y59 z59
      obtain ⟨rfl, Nq59, eq59⟩ := hQ59
      have N59 := Fr.app N53 Nq59
      refine own_st (U' := (T59.setTop (mkF m 26 #[.val (.ref ky), .val (.int pos), .val (.ref a), .val (.int p1), .val (.int fB), .val (.ref b), .val (.int p2), .val (.int fA)] [(.int (own_b (own_eq k0 k1 b0 b1)))]))) st59 ?_
      by_cases e2 : own_eq k0 k1 b0 b1 = true
      · skip
        refine own_st (U' := (T59.setTop (mkF m 29 #[.val (.ref ky), .val (.int pos), .val (.ref a), .val (.int p1), .val (.int fB), .val (.ref b), .val (.int p2), .val (.int fA)] []))) (fun _ k => XS.ifNo X59.here hx rfl (hb hby d3_26) rfl ((if0 _ _).trans (feq (fun q => by rw [(own_b0 _).mp q] at e2; cases e2)).1) k) ?_
        refine own_st (U' := (T59.setTop (mkF m 30 #[.val (.ref ky), .val (.int pos), .val (.ref a), .val (.int p1), .val (.int fB), .val (.ref b), .val (.int p2), .val (.int fA)] [(.int pos)]))) (fun _ k => XS.iloadN X59.here hx rfl (hb hby d3_29) rfl k) ?_
        refine own_st (U' := (T59.setTop (mkF m 32 #[.val (.ref ky), .val (.int pos), .val (.ref a), .val (.int p1), .val (.int fB), .val (.ref b), .val (.int p2), .val (.int fA)] [(.int p2), (.int pos)]))) (fun _ k => XS.iload X59.here hx rfl (hb hby d3_30) rfl k) ?_
        by_cases e3 : pos = p2
        · skip
          refine own_st (U' := (T59.setTop (mkF m 35 #[.val (.ref ky), .val (.int pos), .val (.ref a), .val (.int p1), .val (.int fB), .val (.ref b), .val (.int p2), .val (.int fA)] []))) (fun _ k => XS.icmpNo X59.here hx rfl (hb hby d3_32) rfl (teq e3).2 k) ?_
          have q : own_b ((own_M3 a0' a1 p1 fB b0 b1 p2 fA) k0 k1 pos) = 1 := by first | (simp [own_b, own_M3, f2, e1, e2, e3]; done)
          refine own_st (U' := (T59.setTop (mkF m 36 #[.val (.ref ky), .val (.int pos), .val (.ref a), .val (.int p1), .val (.int fB), .val (.ref b), .val (.int p2), .val (.int fA)] [(.int (1 : Int32))]))) (fun _ k => XS.iconst X59.here hx rfl (hb hby d3_35) k) ?_
          exact own_retN X59 hx (t := .boolean) Bd.returns Bd.notSynchronized (by simp) rfl (hb hby d3_36) (by decide) (by decide) (⟨by rw [q], N59, eq59⟩)
        · skip
          refine own_st (U' := (T59.setTop (mkF m 37 #[.val (.ref ky), .val (.int pos), .val (.ref a), .val (.int p1), .val (.int fB), .val (.ref b), .val (.int p2), .val (.int fA)] []))) (fun _ k => XS.icmpYes X59.here hx rfl (pc0 := 32) (pc' := 37) rfl (hb hby d3_32) rfl (feq e3).2 (by decide) (by decide) k) ?_
          refine own_st (U' := (T59.setTop (mkF m 39 #[.val (.ref ky), .val (.int pos), .val (.ref a), .val (.int p1), .val (.int fB), .val (.ref b), .val (.int p2), .val (.int fA)] [(.int fA)]))) (fun _ k => XS.iload X59.here hx rfl (hb hby d3_37) rfl k) ?_
          by_cases d1 : fA = (0 : Int32)
          · skip
            refine own_st (U' := (T59.setTop (mkF m 58 #[.val (.ref ky), .val (.int pos), .val (.ref a), .val (.int p1), .val (.int fB), .val (.ref b), .val (.int p2), .val (.int fA)] []))) (fun _ k => XS.ifYes X59.here hx rfl (pc0 := 39) (pc' := 58) rfl (hb hby d3_39) rfl ((if0 _ _).trans (teq d1).1) (by decide) (by decide) k) ?_
            have q : own_b ((own_M3 a0' a1 p1 fB b0 b1 p2 fA) k0 k1 pos) = 0 := by first | (simp [own_b, own_M3, f2, e1, e2, e3, d1]; done)
            refine own_st (U' := (T59.setTop (mkF m 59 #[.val (.ref ky), .val (.int pos), .val (.ref a), .val (.int p1), .val (.int fB), .val (.ref b), .val (.int p2), .val (.int fA)] [(.int (0 : Int32))]))) (fun _ k => XS.iconst X59.here hx rfl (hb hby d3_58) k) ?_
            exact own_retN X59 hx (t := .boolean) Bd.returns Bd.notSynchronized (by simp) rfl (hb hby d3_59) (by decide) (by decide) (⟨by rw [q], N59, eq59⟩)
          · skip
            refine own_st (U' := (T59.setTop (mkF m 42 #[.val (.ref ky), .val (.int pos), .val (.ref a), .val (.int p1), .val (.int fB), .val (.ref b), .val (.int p2), .val (.int fA)] []))) (fun _ k => XS.ifNo X59.here hx rfl (hb hby d3_39) rfl ((if0 _ _).trans (feq d1).1) k) ?_
            refine own_st (U' := (T59.setTop (mkF m 43 #[.val (.ref ky), .val (.int pos), .val (.ref a), .val (.int p1), .val (.int fB), .val (.ref b), .val (.int p2), .val (.int fA)] [(.ref ky)]))) (fun _ k => XS.aloadN X59.here hx rfl (hb hby d3_42) rfl rfl k) ?_
            refine own_st (U' := (T59.setTop (mkF m 44 #[.val (.ref ky), .val (.int pos), .val (.ref a), .val (.int p1), .val (.int fB), .val (.ref b), .val (.int p2), .val (.int fA)] [(.ref a), (.ref ky)]))) (fun _ k => XS.aloadN X59.here hx rfl (hb hby d3_43) rfl rfl k) ?_
            obtain ⟨_, _, ⟨T60, L60, k60, n60⟩, -, X60, ⟨Lc60, hQ60, l60, y60, z60⟩, st60⟩ := Jvm.LawKit.callS X59 hx (y := (⟨"com/example/quorum/quorum/FailedStatesContainsPinLaw", "eq", "([I[I)Z"⟩ : MethodName)) hown (mvT hZ (hw _ (List.mem_of_getElem? (i := 12) rfl))) (mvT hZ (hw _ (List.mem_of_getElem? (i := 13) rfl))) (mvT hZ (hw _ (List.mem_of_getElem? (i := 4) rfl))) (mvT hZ (hw _ (List.mem_of_getElem? (i := 14) rfl))) (by decide) (backOf (W := 0) (rmEq l Z a0 hw [] ky a k0 k1 a0' a1 h0 n0 Z0 V_ky Va) hZ (hw _ (List.mem_of_getElem? (i := 14) rfl)) (hw _ (List.mem_of_getElem? (i := 4) rfl)) (by decide) (by decide)) (g := (mkF m 44 #[.val (.ref ky), .val (.int pos), .val (.ref a), .val (.int p1), .val (.int fB), .val (.ref b), .val (.int p2), .val (.int fA)] [(.ref a), (.ref ky)])) rfl (by rw [hml]; rfl) (argsL := [(.ref ky), (.ref a)]) (rest := []) (lenOf (pd_d4) rfl) rfl (by show 2 * 0 + _ ≤ _; exact Nat.le_of_eq rfl) (hb hby d3_44) (fun _ _ => ⟨rfl, eq59, (Nat.le_of_ble_eq_true rfl), (Nat.le_of_ble_eq_true rfl)⟩)
            dsimp only [Pt.U, Pt.locs, Pt.cells, Pt.slots] at X60 l60 y60 z60 st60 hQ60
            subst l60 y60 z60
            obtain ⟨rfl, Nq60, eq60⟩ := hQ60
            have N60 := Fr.app N59 Nq60
            refine own_st (U' := (T60.setTop (mkF m 47 #[.val (.ref ky), .val (.int pos), .val (.ref a), .val (.int p1), .val (.int fB), .val (.ref b), .val (.int p2), .val (.int fA)] [(.int (own_b (own_eq k0 k1 a0' a1)))]))) st60 ?_
            by_cases d2 : own_eq k0 k1 a0' a1 = true
            · skip
              refine own_st (U' := (T60.setTop (mkF m 50 #[.val (.ref ky), .val (.int pos), .val (.ref a), .val (.int p1), .val (.int fB), .val (.ref b), .val (.int p2), .val (.int fA)] []))) (fun _ k => XS.ifNo X60.here hx rfl (hb hby d3_47) rfl ((if0 _ _).trans (feq (fun q => by rw [(own_b0 _).mp q] at d2; cases d2)).1) k) ?_
              refine own_st (U' := (T60.setTop (mkF m 51 #[.val (.ref ky), .val (.int pos), .val (.ref a), .val (.int p1), .val (.int fB), .val (.ref b), .val (.int p2), .val (.int fA)] [(.int pos)]))) (fun _ k => XS.iloadN X60.here hx rfl (hb hby d3_50) rfl k) ?_
              refine own_st (U' := (T60.setTop (mkF m 53 #[.val (.ref ky), .val (.int pos), .val (.ref a), .val (.int p1), .val (.int fB), .val (.ref b), .val (.int p2), .val (.int fA)] [(.int p2), (.int pos)]))) (fun _ k => XS.iload X60.here hx rfl (hb hby d3_51) rfl k) ?_
              by_cases d3 : pos = p2
              · skip
                refine own_st (U' := (T60.setTop (mkF m 56 #[.val (.ref ky), .val (.int pos), .val (.ref a), .val (.int p1), .val (.int fB), .val (.ref b), .val (.int p2), .val (.int fA)] []))) (fun _ k => XS.icmpNo X60.here hx rfl (hb hby d3_53) rfl (teq d3).2 k) ?_
                have q : own_b ((own_M3 a0' a1 p1 fB b0 b1 p2 fA) k0 k1 pos) = 1 := by first | (simp [own_b, own_M3, f2, e1, e2, e3, d1, d2, d3]; done) | exact absurd f2 d2 | exact absurd d2 f2
                refine own_st (U' := (T60.setTop (mkF m 57 #[.val (.ref ky), .val (.int pos), .val (.ref a), .val (.int p1), .val (.int fB), .val (.ref b), .val (.int p2), .val (.int fA)] [(.int (1 : Int32))]))) (fun _ k => XS.iconst X60.here hx rfl (hb hby d3_56) k) ?_
                exact own_retN X60 hx (t := .boolean) Bd.returns Bd.notSynchronized (by simp) rfl (hb hby d3_57) (by decide) (by decide) (⟨by rw [q], N60, eq60⟩)
              · skip
                refine own_st (U' := (T60.setTop (mkF m 58 #[.val (.ref ky), .val (.int pos), .val (.ref a), .val (.int p1), .val (.int fB), .val (.ref b), .val (.int p2), .val (.int fA)] []))) (fun _ k => XS.icmpYes X60.here hx rfl (pc0 := 53) (pc' := 58) rfl (hb hby d3_53) rfl (feq d3).2 (by decide) (by decide) k) ?_
                have q : own_b ((own_M3 a0' a1 p1 fB b0 b1 p2 fA) k0 k1 pos) = 0 := by first | (simp [own_b, own_M3, f2, e1, e2, e3, d1, d2, d3]; done) | exact absurd f2 d2 | exact absurd d2 f2
                refine own_st (U' := (T60.setTop (mkF m 59 #[.val (.ref ky), .val (.int pos), .val (.ref a), .val (.int p1), .val (.int fB), .val (.ref b), .val (.int p2), .val (.int fA)] [(.int (0 : Int32))]))) (fun _ k => XS.iconst X60.here hx rfl (hb hby d3_58) k) ?_
                exact own_retN X60 hx (t := .boolean) Bd.returns Bd.notSynchronized (by simp) rfl (hb hby d3_59) (by decide) (by decide) (⟨by rw [q], N60, eq60⟩)
            · skip
              refine own_st (U' := (T60.setTop (mkF m 58 #[.val (.ref ky), .val (.int pos), .val (.ref a), .val (.int p1), .val (.int fB), .val (.ref b), .val (.int p2), .val (.int fA)] []))) (fun _ k => XS.ifYes X60.here hx rfl (pc0 := 47) (pc' := 58) rfl (hb hby d3_47) rfl ((if0 _ _).trans (teq ((own_b0 _).mpr (by simpa using d2))).1) (by decide) (by decide) k) ?_
              have q : own_b ((own_M3 a0' a1 p1 fB b0 b1 p2 fA) k0 k1 pos) = 0 := by first | (simp [own_b, own_M3, f2, e1, e2, e3, d1, d2]; done) | exact absurd f2 d2 | exact absurd d2 f2
              refine own_st (U' := (T60.setTop (mkF m 59 #[.val (.ref ky), .val (.int pos), .val (.ref a), .val (.int p1), .val (.int fB), .val (.ref b), .val (.int p2), .val (.int fA)] [(.int (0 : Int32))]))) (fun _ k => XS.iconst X60.here hx rfl (hb hby d3_58) k) ?_
              exact own_retN X60 hx (t := .boolean) Bd.returns Bd.notSynchronized (by simp) rfl (hb hby d3_59) (by decide) (by decide) (⟨by rw [q], N60, eq60⟩)
      · skip
        refine own_st (U' := (T59.setTop (mkF m 37 #[.val (.ref ky), .val (.int pos), .val (.ref a), .val (.int p1), .val (.int fB), .val (.ref b), .val (.int p2), .val (.int fA)] []))) (fun _ k => XS.ifYes X59.here hx rfl (pc0 := 26) (pc' := 37) rfl (hb hby d3_26) rfl ((if0 _ _).trans (teq ((own_b0 _).mpr (by simpa using e2))).1) (by decide) (by decide) k) ?_
        refine own_st (U' := (T59.setTop (mkF m 39 #[.val (.ref ky), .val (.int pos), .val (.ref a), .val (.int p1), .val (.int fB), .val (.ref b), .val (.int p2), .val (.int fA)] [(.int fA)]))) (fun _ k => XS.iload X59.here hx rfl (hb hby d3_37) rfl k) ?_
        by_cases d1 : fA = (0 : Int32)
        · skip
          refine own_st (U' := (T59.setTop (mkF m 58 #[.val (.ref ky), .val (.int pos), .val (.ref a), .val (.int p1), .val (.int fB), .val (.ref b), .val (.int p2), .val (.int fA)] []))) (fun _ k => XS.ifYes X59.here hx rfl (pc0 := 39) (pc' := 58) rfl (hb hby d3_39) rfl ((if0 _ _).trans (teq d1).1) (by decide) (by decide) k) ?_
          have q : own_b ((own_M3 a0' a1 p1 fB b0 b1 p2 fA) k0 k1 pos) = 0 := by first | (simp [own_b, own_M3, f2, e1, e2, d1]; done)
          refine own_st (U' := (T59.setTop (mkF m 59 #[.val (.ref ky), .val (.int pos), .val (.ref a), .val (.int p1), .val (.int fB), .val (.ref b), .val (.int p2), .val (.int fA)] [(.int (0 : Int32))]))) (fun _ k => XS.iconst X59.here hx rfl (hb hby d3_58) k) ?_
          exact own_retN X59 hx (t := .boolean) Bd.returns Bd.notSynchronized (by simp) rfl (hb hby d3_59) (by decide) (by decide) (⟨by rw [q], N59, eq59⟩)
        · skip
          refine own_st (U' := (T59.setTop (mkF m 42 #[.val (.ref ky), .val (.int pos), .val (.ref a), .val (.int p1), .val (.int fB), .val (.ref b), .val (.int p2), .val (.int fA)] []))) (fun _ k => XS.ifNo X59.here hx rfl (hb hby d3_39) rfl ((if0 _ _).trans (feq d1).1) k) ?_
          refine own_st (U' := (T59.setTop (mkF m 43 #[.val (.ref ky), .val (.int pos), .val (.ref a), .val (.int p1), .val (.int fB), .val (.ref b), .val (.int p2), .val (.int fA)] [(.ref ky)]))) (fun _ k => XS.aloadN X59.here hx rfl (hb hby d3_42) rfl rfl k) ?_
          refine own_st (U' := (T59.setTop (mkF m 44 #[.val (.ref ky), .val (.int pos), .val (.ref a), .val (.int p1), .val (.int fB), .val (.ref b), .val (.int p2), .val (.int fA)] [(.ref a), (.ref ky)]))) (fun _ k => XS.aloadN X59.here hx rfl (hb hby d3_43) rfl rfl k) ?_
          obtain ⟨_, _, ⟨T61, L61, k61, n61⟩, -, X61, ⟨Lc61, hQ61, l61, y61, z61⟩, st61⟩ := Jvm.LawKit.callS X59 hx (y := (⟨"com/example/quorum/quorum/FailedStatesContainsPinLaw", "eq", "([I[I)Z"⟩ : MethodName)) hown (mvT hZ (hw _ (List.mem_of_getElem? (i := 12) rfl))) (mvT hZ (hw _ (List.mem_of_getElem? (i := 13) rfl))) (mvT hZ (hw _ (List.mem_of_getElem? (i := 4) rfl))) (mvT hZ (hw _ (List.mem_of_getElem? (i := 14) rfl))) (by decide) (backOf (W := 0) (rmEq l Z a0 hw [] ky a k0 k1 a0' a1 h0 n0 Z0 V_ky Va) hZ (hw _ (List.mem_of_getElem? (i := 14) rfl)) (hw _ (List.mem_of_getElem? (i := 4) rfl)) (by decide) (by decide)) (g := (mkF m 44 #[.val (.ref ky), .val (.int pos), .val (.ref a), .val (.int p1), .val (.int fB), .val (.ref b), .val (.int p2), .val (.int fA)] [(.ref a), (.ref ky)])) rfl (by rw [hml]; rfl) (argsL := [(.ref ky), (.ref a)]) (rest := []) (lenOf (pd_d4) rfl) rfl (by show 2 * 0 + _ ≤ _; exact Nat.le_of_eq rfl) (hb hby d3_44) (fun _ _ => ⟨rfl, eq59, (Nat.le_of_ble_eq_true rfl), (Nat.le_of_ble_eq_true rfl)⟩)
          dsimp only [Pt.U, Pt.locs, Pt.cells, Pt.slots] at X61 l61 y61 z61 st61 hQ61
          subst l61 y61 z61
          obtain ⟨rfl, Nq61, eq61⟩ := hQ61
          have N61 := Fr.app N59 Nq61
          refine own_st (U' := (T61.setTop (mkF m 47 #[.val (.ref ky), .val (.int pos), .val (.ref a), .val (.int p1), .val (.int fB), .val (.ref b), .val (.int p2), .val (.int fA)] [(.int (own_b (own_eq k0 k1 a0' a1)))]))) st61 ?_
          by_cases d2 : own_eq k0 k1 a0' a1 = true
          · skip
            refine own_st (U' := (T61.setTop (mkF m 50 #[.val (.ref ky), .val (.int pos), .val (.ref a), .val (.int p1), .val (.int fB), .val (.ref b), .val (.int p2), .val (.int fA)] []))) (fun _ k => XS.ifNo X61.here hx rfl (hb hby d3_47) rfl ((if0 _ _).trans (feq (fun q => by rw [(own_b0 _).mp q] at d2; cases d2)).1) k) ?_
            refine own_st (U' := (T61.setTop (mkF m 51 #[.val (.ref ky), .val (.int pos), .val (.ref a), .val (.int p1), .val (.int fB), .val (.ref b), .val (.int p2), .val (.int fA)] [(.int pos)]))) (fun _ k => XS.iloadN X61.here hx rfl (hb hby d3_50) rfl k) ?_
            refine own_st (U' := (T61.setTop (mkF m 53 #[.val (.ref ky), .val (.int pos), .val (.ref a), .val (.int p1), .val (.int fB), .val (.ref b), .val (.int p2), .val (.int fA)] [(.int p2), (.int pos)]))) (fun _ k => XS.iload X61.here hx rfl (hb hby d3_51) rfl k) ?_
            by_cases d3 : pos = p2
            · skip
              refine own_st (U' := (T61.setTop (mkF m 56 #[.val (.ref ky), .val (.int pos), .val (.ref a), .val (.int p1), .val (.int fB), .val (.ref b), .val (.int p2), .val (.int fA)] []))) (fun _ k => XS.icmpNo X61.here hx rfl (hb hby d3_53) rfl (teq d3).2 k) ?_
              have q : own_b ((own_M3 a0' a1 p1 fB b0 b1 p2 fA) k0 k1 pos) = 1 := by first | (simp [own_b, own_M3, f2, e1, e2, d1, d2, d3]; done) | exact absurd f2 d2 | exact absurd d2 f2
              refine own_st (U' := (T61.setTop (mkF m 57 #[.val (.ref ky), .val (.int pos), .val (.ref a), .val (.int p1), .val (.int fB), .val (.ref b), .val (.int p2), .val (.int fA)] [(.int (1 : Int32))]))) (fun _ k => XS.iconst X61.here hx rfl (hb hby d3_56) k) ?_
              exact own_retN X61 hx (t := .boolean) Bd.returns Bd.notSynchronized (by simp) rfl (hb hby d3_57) (by decide) (by decide) (⟨by rw [q], N61, eq61⟩)
            · skip
              refine own_st (U' := (T61.setTop (mkF m 58 #[.val (.ref ky), .val (.int pos), .val (.ref a), .val (.int p1), .val (.int fB), .val (.ref b), .val (.int p2), .val (.int fA)] []))) (fun _ k => XS.icmpYes X61.here hx rfl (pc0 := 53) (pc' := 58) rfl (hb hby d3_53) rfl (feq d3).2 (by decide) (by decide) k) ?_
              have q : own_b ((own_M3 a0' a1 p1 fB b0 b1 p2 fA) k0 k1 pos) = 0 := by first | (simp [own_b, own_M3, f2, e1, e2, d1, d2, d3]; done) | exact absurd f2 d2 | exact absurd d2 f2
              refine own_st (U' := (T61.setTop (mkF m 59 #[.val (.ref ky), .val (.int pos), .val (.ref a), .val (.int p1), .val (.int fB), .val (.ref b), .val (.int p2), .val (.int fA)] [(.int (0 : Int32))]))) (fun _ k => XS.iconst X61.here hx rfl (hb hby d3_58) k) ?_
              exact own_retN X61 hx (t := .boolean) Bd.returns Bd.notSynchronized (by simp) rfl (hb hby d3_59) (by decide) (by decide) (⟨by rw [q], N61, eq61⟩)
          · skip
            refine own_st (U' := (T61.setTop (mkF m 58 #[.val (.ref ky), .val (.int pos), .val (.ref a), .val (.int p1), .val (.int fB), .val (.ref b), .val (.int p2), .val (.int fA)] []))) (fun _ k => XS.ifYes X61.here hx rfl (pc0 := 47) (pc' := 58) rfl (hb hby d3_47) rfl ((if0 _ _).trans (teq ((own_b0 _).mpr (by simpa using d2))).1) (by decide) (by decide) k) ?_
            have q : own_b ((own_M3 a0' a1 p1 fB b0 b1 p2 fA) k0 k1 pos) = 0 := by first | (simp [own_b, own_M3, f2, e1, e2, d1, d2]; done) | exact absurd f2 d2 | exact absurd d2 f2
            refine own_st (U' := (T61.setTop (mkF m 59 #[.val (.ref ky), .val (.int pos), .val (.ref a), .val (.int p1), .val (.int fB), .val (.ref b), .val (.int p2), .val (.int fA)] [(.int (0 : Int32))]))) (fun _ k => XS.iconst X61.here hx rfl (hb hby d3_58) k) ?_
            exact own_retN X61 hx (t := .boolean) Bd.returns Bd.notSynchronized (by simp) rfl (hb hby d3_59) (by decide) (by decide) (⟨by rw [q], N61, eq61⟩)
set_option maxRecDepth 65536 in
set_option maxHeartbeats 40000000 in
theorem own_t405 {p : Program} {l : Launch} {e : Env} {s : State} {m : MethodId} {below : List Frame} {meth : Method} {c : Code} {Z : State} {a0 : Array Value} {T : State} {locs : List Loc} {n0 : Nat} (i0 i1 i2 i3 i4 i5 bv p1 pc p2 fB fA r1 r2 e1 e2 u0 u1 w0 w1 : Int32) (a b x14 x15 x16 q1 q2 fs en wd : Addr) (fe : Nat → Int32) (fw : Nat → Int64) (used last : Int32) (cnt : Nat) (M : Int32 → Int32 → Int32 → Bool) (hx : p.tables.exec = Jvm.exec) (hZ : Z.Warmed39 s.vm) (hw : ∀ d ∈ tables_1, d.before a0 Z = true) (hby : c.code = code) (hml : c.maxLocals = 26) (hown : s.vm.findClass "com/example/quorum/quorum/FailedStatesContainsPinLaw" = some m.cls) (hret : meth.sig.returnType = some .boolean) (hlk : meth.locks = false) {h : Heap} (X : Stand p l e room_1 s m #[(.int i0), (.int i1), (.int i2), (.int i3), (.int i4), (.int i5)] below meth c T locs 10 83) (eT : T.heap = h) (N : Fr n0 locs) (Zn : n0 ≤ h.size) (FS : own_FS Z h fs en wd fe fw used last) (I : own_Inv fe fw used last cnt M) (hc : cnt ≤ 3) (g_fs : n0 ≤ fs) (g_en : n0 ≤ en) (g_wd : n0 ≤ wd) (V_q1 : own_A Z h q1 .int 2 (own_L [u0, u1])) (V_q2 : own_A Z h q2 .int 2 (own_L [w0, w1])) (hr1 : ¬ r1 < 0) (hr2 : ¬ r2 < 0) (n_q1_fs : q1 ≠ fs) (n_q1_en : q1 ≠ en) (n_q1_wd : q1 ≠ wd) (n_q2_fs : q2 ≠ fs) (n_q2_en : q2 ≠ en) (n_q2_wd : q2 ≠ wd) (he1 : e1 = own_b (M u0 u1 r1)) (he2 : e2 = own_b (M w0 w1 r2)) :
    own_Ends p e s below (fun v _ L => v = some (.int 1) ∧ Fr n0 L) 32 256 (T.setTop (mkF m 405 #[.val (.int i0), .val (.int i1), .val (.int i2), .val (.int i3), .val (.int i4), .val (.int i5), .val (.ref a), .val (.int bv), .val (.ref b), .val (.int p1), .val (.int pc), .val (.int p2), .val (.int fB), .val (.int fA), .val (.ref x14), .val (.ref x15), .val (.ref x16), .val (.ref q1), .val (.int r1), .val (.ref q2), .val (.int r2), .val (.int e1), .val (.int e2), .val (.ref fs), .unset, .unset] [])) := by
  refine own_st (U' := (T.setTop (mkF m 407 #[.val (.int i0), .val (.int i1), .val (.int i2), .val (.int i3), .val (.int i4), .val (.int i5), .val (.ref a), .val (.int bv), .val (.ref b), .val (.int p1), .val (.int pc), .val (.int p2), .val (.int fB), .val (.int fA), .val (.ref x14), .val (.ref x15), .val (.ref x16), .val (.ref q1), .val (.int r1), .val (.ref q2), .val (.int r2), .val (.int e1), .val (.int e2), .val (.ref fs), .unset, .unset] [(.ref fs)]))) (fun _ k => XS.aload X.here hx rfl (hb hby at_405) rfl rfl k) ?_
  refine own_st (U' := (T.setTop (mkF m 409 #[.val (.int i0), .val (.int i1), .val (.int i2), .val (.int i3), .val (.int i4), .val (.int i5), .val (.ref a), .val (.int bv), .val (.ref b), .val (.int p1), .val (.int pc), .val (.int p2), .val (.int fB), .val (.int fA), .val (.ref x14), .val (.ref x15), .val (.ref x16), .val (.ref q1), .val (.int r1), .val (.ref q2), .val (.int r2), .val (.int e1), .val (.int e2), .val (.ref fs), .unset, .unset] [(.ref q1), (.ref fs)]))) (fun _ k => XS.aload X.here hx rfl (hb hby at_407) rfl rfl k) ?_
  refine own_st (U' := (T.setTop (mkF m 411 #[.val (.int i0), .val (.int i1), .val (.int i2), .val (.int i3), .val (.int i4), .val (.int i5), .val (.ref a), .val (.int bv), .val (.ref b), .val (.int p1), .val (.int pc), .val (.int p2), .val (.int fB), .val (.int fA), .val (.ref x14), .val (.ref x15), .val (.ref x16), .val (.ref q1), .val (.int r1), .val (.ref q2), .val (.int r2), .val (.int e1), .val (.int e2), .val (.ref fs), .unset, .unset] [(.int r1), (.ref q1), (.ref fs)]))) (fun _ k => XS.iload X.here hx rfl (hb hby at_409) rfl k) ?_
  obtain ⟨cq62, kq62, qa62, qb62, qc62⟩ := isOf hZ eT FS.1
  obtain ⟨_, _, ⟨T62, L62, k62, n62⟩, -, X62, ⟨Lc62, hQ62, l62, y62, z62⟩, st62⟩ := X.virtualBack hx (y := (⟨"com/example/quorum/quorum/FailedStates", "contains", "([II)Z"⟩ : MethodName)) (z := (⟨"com/example/quorum/quorum/FailedStates", "contains", "([II)Z"⟩ : MethodName)) hown (mvT hZ (hw _ (List.mem_of_getElem? (i := 56) rfl))) (mvT hZ (hw _ (List.mem_of_getElem? (i := 57) rfl))) (notFace_of_selects (args := #[]) (mvT hZ (hw _ (List.mem_of_getElem? (i := 59) rfl)))) (mvT hZ (hw _ (List.mem_of_getElem? (i := 59) rfl))) (mvT hZ (hw _ (List.mem_of_getElem? (i := 58) rfl))) (by decide) (backOf (W := 0) (rmCon l Z a0 hw [] fs q1 r1 en wd fe fw used last cnt M u0 u1 h n0 Zn FS I hc V_q1 g_fs hr1) hZ (hw _ (List.mem_of_getElem? (i := 60) rfl)) (hw _ (List.mem_of_getElem? (i := 17) rfl)) (by decide) (by decide)) qa62 qc62 (g := (mkF m 411 #[.val (.int i0), .val (.int i1), .val (.int i2), .val (.int i3), .val (.int i4), .val (.int i5), .val (.ref a), .val (.int bv), .val (.ref b), .val (.int p1), .val (.int pc), .val (.int p2), .val (.int fB), .val (.int fA), .val (.ref x14), .val (.ref x15), .val (.ref x16), .val (.ref q1), .val (.int r1), .val (.ref q2), .val (.int r2), .val (.int e1), .val (.int e2), .val (.ref fs), .unset, .unset] [(.int r1), (.ref q1), (.ref fs)])) rfl (by rw [hml]; rfl) (Steps.refl _) (argsL := [(.ref q1), (.int r1)]) (rest := []) (lenOf (pd_d11) rfl) rfl (by show 2 * 0 + _ ≤ _; exact Nat.le_of_eq rfl) (hb hby at_411) (fun _ _ => ⟨rfl, eT, (Nat.le_of_ble_eq_true rfl), (Nat.le_of_ble_eq_true rfl)⟩)
  dsimp only [Pt.U, Pt.locs, Pt.cells, Pt.slots] at X62 l62 y62 z62 st62 hQ62
  subst l62 y62 z62
  obtain ⟨last1, rfl, Nq62, Kq62, FS1, I1⟩ := hQ62
  have V_q1 := V_q1.keep Kq62 (ninS n_q1_fs nin0)
  have V_q2 := V_q2.keep Kq62 (ninS n_q2_fs nin0)
  have N62 := Fr.app N Nq62
  have Z62 : n0 ≤ T62.heap.size := Nat.le_trans Zn Kq62.1
  refine own_tr (U' := (T62.setTop (mkF m 414 #[.val (.int i0), .val (.int i1), .val (.int i2), .val (.int i3), .val (.int i4), .val (.int i5), .val (.ref a), .val (.int bv), .val (.ref b), .val (.int p1), .val (.int pc), .val (.int p2), .val (.int fB), .val (.int fA), .val (.ref x14), .val (.ref x15), .val (.ref x16), .val (.ref q1), .val (.int r1), .val (.ref q2), .val (.int r2), .val (.int e1), .val (.int e2), .val (.ref fs), .unset, .unset] [(.int (own_b (M u0 u1 r1)))]))) st62 ?_
  refine own_st (U' := (T62.setTop (mkF m 416 #[.val (.int i0), .val (.int i1), .val (.int i2), .val (.int i3), .val (.int i4), .val (.int i5), .val (.ref a), .val (.int bv), .val (.ref b), .val (.int p1), .val (.int pc), .val (.int p2), .val (.int fB), .val (.int fA), .val (.ref x14), .val (.ref x15), .val (.ref x16), .val (.ref q1), .val (.int r1), .val (.ref q2), .val (.int r2), .val (.int e1), .val (.int e2), .val (.ref fs), .val (.int (own_b (M u0 u1 r1))), .unset] []))) (fun _ k => XS.istore X62.here hx rfl (hb hby at_414) rfl (l' := #[.val (.int i0), .val (.int i1), .val (.int i2), .val (.int i3), .val (.int i4), .val (.int i5), .val (.ref a), .val (.int bv), .val (.ref b), .val (.int p1), .val (.int pc), .val (.int p2), .val (.int fB), .val (.int fA), .val (.ref x14), .val (.ref x15), .val (.ref x16), .val (.ref q1), .val (.int r1), .val (.ref q2), .val (.int r2), .val (.int e1), .val (.int e2), .val (.ref fs), .val (.int (own_b (M u0 u1 r1))), .unset]) rfl k) ?_
  refine own_st (U' := (T62.setTop (mkF m 418 #[.val (.int i0), .val (.int i1), .val (.int i2), .val (.int i3), .val (.int i4), .val (.int i5), .val (.ref a), .val (.int bv), .val (.ref b), .val (.int p1), .val (.int pc), .val (.int p2), .val (.int fB), .val (.int fA), .val (.ref x14), .val (.ref x15), .val (.ref x16), .val (.ref q1), .val (.int r1), .val (.ref q2), .val (.int r2), .val (.int e1), .val (.int e2), .val (.ref fs), .val (.int (own_b (M u0 u1 r1))), .unset] [(.ref fs)]))) (fun _ k => XS.aload X62.here hx rfl (hb hby at_416) rfl rfl k) ?_
  refine own_st (U' := (T62.setTop (mkF m 420 #[.val (.int i0), .val (.int i1), .val (.int i2), .val (.int i3), .val (.int i4), .val (.int i5), .val (.ref a), .val (.int bv), .val (.ref b), .val (.int p1), .val (.int pc), .val (.int p2), .val (.int fB), .val (.int fA), .val (.ref x14), .val (.ref x15), .val (.ref x16), .val (.ref q1), .val (.int r1), .val (.ref q2), .val (.int r2), .val (.int e1), .val (.int e2), .val (.ref fs), .val (.int (own_b (M u0 u1 r1))), .unset] [(.ref q2), (.ref fs)]))) (fun _ k => XS.aload X62.here hx rfl (hb hby at_418) rfl rfl k) ?_
  refine own_st (U' := (T62.setTop (mkF m 422 #[.val (.int i0), .val (.int i1), .val (.int i2), .val (.int i3), .val (.int i4), .val (.int i5), .val (.ref a), .val (.int bv), .val (.ref b), .val (.int p1), .val (.int pc), .val (.int p2), .val (.int fB), .val (.int fA), .val (.ref x14), .val (.ref x15), .val (.ref x16), .val (.ref q1), .val (.int r1), .val (.ref q2), .val (.int r2), .val (.int e1), .val (.int e2), .val (.ref fs), .val (.int (own_b (M u0 u1 r1))), .unset] [(.int r2), (.ref q2), (.ref fs)]))) (fun _ k => XS.iload X62.here hx rfl (hb hby at_420) rfl k) ?_
  obtain ⟨cq63, kq63, qa63, qb63, qc63⟩ := isOf hZ rfl FS1.1
  obtain ⟨_, _, ⟨T63, L63, k63, n63⟩, -, X63, ⟨Lc63, hQ63, l63, y63, z63⟩, st63⟩ := X62.virtualBack hx (y := (⟨"com/example/quorum/quorum/FailedStates", "contains", "([II)Z"⟩ : MethodName)) (z := (⟨"com/example/quorum/quorum/FailedStates", "contains", "([II)Z"⟩ : MethodName)) hown (mvT hZ (hw _ (List.mem_of_getElem? (i := 56) rfl))) (mvT hZ (hw _ (List.mem_of_getElem? (i := 57) rfl))) (notFace_of_selects (args := #[]) (mvT hZ (hw _ (List.mem_of_getElem? (i := 59) rfl)))) (mvT hZ (hw _ (List.mem_of_getElem? (i := 59) rfl))) (mvT hZ (hw _ (List.mem_of_getElem? (i := 58) rfl))) (by decide) (backOf (W := 0) (rmCon l Z a0 hw [] fs q2 r2 en wd fe fw used last1 cnt M w0 w1 T62.heap n0 Z62 FS1 I1 hc V_q2 g_fs hr2) hZ (hw _ (List.mem_of_getElem? (i := 60) rfl)) (hw _ (List.mem_of_getElem? (i := 17) rfl)) (by decide) (by decide)) qa63 qc63 (g := (mkF m 422 #[.val (.int i0), .val (.int i1), .val (.int i2), .val (.int i3), .val (.int i4), .val (.int i5), .val (.ref a), .val (.int bv), .val (.ref b), .val (.int p1), .val (.int pc), .val (.int p2), .val (.int fB), .val (.int fA), .val (.ref x14), .val (.ref x15), .val (.ref x16), .val (.ref q1), .val (.int r1), .val (.ref q2), .val (.int r2), .val (.int e1), .val (.int e2), .val (.ref fs), .val (.int (own_b (M u0 u1 r1))), .unset] [(.int r2), (.ref q2), (.ref fs)])) rfl (by rw [hml]; rfl) (Steps.refl _) (argsL := [(.ref q2), (.int r2)]) (rest := []) (lenOf (pd_d11) rfl) rfl (by show 2 * 0 + _ ≤ _; exact Nat.le_of_eq rfl) (hb hby at_422) (fun _ _ => ⟨rfl, rfl, (Nat.le_of_ble_eq_true rfl), (Nat.le_of_ble_eq_true rfl)⟩)
  dsimp only [Pt.U, Pt.locs, Pt.cells, Pt.slots] at X63 l63 y63 z63 st63 hQ63
  subst l63 y63 z63
  obtain ⟨last2, rfl, Nq63, Kq63, FS2, I2⟩ := hQ63
  have V_q1 := V_q1.keep Kq63 (ninS n_q1_fs nin0)
  have V_q2 := V_q2.keep Kq63 (ninS n_q2_fs nin0)
  have N63 := Fr.app N62 Nq63
  have Z63 : n0 ≤ T63.heap.size := Nat.le_trans Z62 Kq63.1
  refine own_tr (U' := (T63.setTop (mkF m 425 #[.val (.int i0), .val (.int i1), .val (.int i2), .val (.int i3), .val (.int i4), .val (.int i5), .val (.ref a), .val (.int bv), .val (.ref b), .val (.int p1), .val (.int pc), .val (.int p2), .val (.int fB), .val (.int fA), .val (.ref x14), .val (.ref x15), .val (.ref x16), .val (.ref q1), .val (.int r1), .val (.ref q2), .val (.int r2), .val (.int e1), .val (.int e2), .val (.ref fs), .val (.int (own_b (M u0 u1 r1))), .unset] [(.int (own_b (M w0 w1 r2)))]))) st63 ?_
  refine own_st (U' := (T63.setTop (mkF m 427 #[.val (.int i0), .val (.int i1), .val (.int i2), .val (.int i3), .val (.int i4), .val (.int i5), .val (.ref a), .val (.int bv), .val (.ref b), .val (.int p1), .val (.int pc), .val (.int p2), .val (.int fB), .val (.int fA), .val (.ref x14), .val (.ref x15), .val (.ref x16), .val (.ref q1), .val (.int r1), .val (.ref q2), .val (.int r2), .val (.int e1), .val (.int e2), .val (.ref fs), .val (.int (own_b (M u0 u1 r1))), .val (.int (own_b (M w0 w1 r2)))] []))) (fun _ k => XS.istore X63.here hx rfl (hb hby at_425) rfl (l' := #[.val (.int i0), .val (.int i1), .val (.int i2), .val (.int i3), .val (.int i4), .val (.int i5), .val (.ref a), .val (.int bv), .val (.ref b), .val (.int p1), .val (.int pc), .val (.int p2), .val (.int fB), .val (.int fA), .val (.ref x14), .val (.ref x15), .val (.ref x16), .val (.ref q1), .val (.int r1), .val (.ref q2), .val (.int r2), .val (.int e1), .val (.int e2), .val (.ref fs), .val (.int (own_b (M u0 u1 r1))), .val (.int (own_b (M w0 w1 r2)))]) rfl k) ?_
  refine own_st (U' := (T63.setTop (mkF m 429 #[.val (.int i0), .val (.int i1), .val (.int i2), .val (.int i3), .val (.int i4), .val (.int i5), .val (.ref a), .val (.int bv), .val (.ref b), .val (.int p1), .val (.int pc), .val (.int p2), .val (.int fB), .val (.int fA), .val (.ref x14), .val (.ref x15), .val (.ref x16), .val (.ref q1), .val (.int r1), .val (.ref q2), .val (.int r2), .val (.int e1), .val (.int e2), .val (.ref fs), .val (.int (own_b (M u0 u1 r1))), .val (.int (own_b (M w0 w1 r2)))] [(.int (own_b (M u0 u1 r1)))]))) (fun _ k => XS.iload X63.here hx rfl (hb hby at_427) rfl k) ?_
  refine own_st (U' := (T63.setTop (mkF m 431 #[.val (.int i0), .val (.int i1), .val (.int i2), .val (.int i3), .val (.int i4), .val (.int i5), .val (.ref a), .val (.int bv), .val (.ref b), .val (.int p1), .val (.int pc), .val (.int p2), .val (.int fB), .val (.int fA), .val (.ref x14), .val (.ref x15), .val (.ref x16), .val (.ref q1), .val (.int r1), .val (.ref q2), .val (.int r2), .val (.int e1), .val (.int e2), .val (.ref fs), .val (.int (own_b (M u0 u1 r1))), .val (.int (own_b (M w0 w1 r2)))] [(.int e1), (.int (own_b (M u0 u1 r1)))]))) (fun _ k => XS.iload X63.here hx rfl (hb hby at_429) rfl k) ?_
  refine own_st (U' := (T63.setTop (mkF m 434 #[.val (.int i0), .val (.int i1), .val (.int i2), .val (.int i3), .val (.int i4), .val (.int i5), .val (.ref a), .val (.int bv), .val (.ref b), .val (.int p1), .val (.int pc), .val (.int p2), .val (.int fB), .val (.int fA), .val (.ref x14), .val (.ref x15), .val (.ref x16), .val (.ref q1), .val (.int r1), .val (.ref q2), .val (.int r2), .val (.int e1), .val (.int e2), .val (.ref fs), .val (.int (own_b (M u0 u1 r1))), .val (.int (own_b (M w0 w1 r2)))] []))) (fun _ k => XS.icmpNo X63.here hx rfl (hb hby at_431) rfl (teq he1.symm).2 k) ?_
  refine own_st (U' := (T63.setTop (mkF m 436 #[.val (.int i0), .val (.int i1), .val (.int i2), .val (.int i3), .val (.int i4), .val (.int i5), .val (.ref a), .val (.int bv), .val (.ref b), .val (.int p1), .val (.int pc), .val (.int p2), .val (.int fB), .val (.int fA), .val (.ref x14), .val (.ref x15), .val (.ref x16), .val (.ref q1), .val (.int r1), .val (.ref q2), .val (.int r2), .val (.int e1), .val (.int e2), .val (.ref fs), .val (.int (own_b (M u0 u1 r1))), .val (.int (own_b (M w0 w1 r2)))] [(.int (own_b (M w0 w1 r2)))]))) (fun _ k => XS.iload X63.here hx rfl (hb hby at_434) rfl k) ?_
  refine own_st (U' := (T63.setTop (mkF m 438 #[.val (.int i0), .val (.int i1), .val (.int i2), .val (.int i3), .val (.int i4), .val (.int i5), .val (.ref a), .val (.int bv), .val (.ref b), .val (.int p1), .val (.int pc), .val (.int p2), .val (.int fB), .val (.int fA), .val (.ref x14), .val (.ref x15), .val (.ref x16), .val (.ref q1), .val (.int r1), .val (.ref q2), .val (.int r2), .val (.int e1), .val (.int e2), .val (.ref fs), .val (.int (own_b (M u0 u1 r1))), .val (.int (own_b (M w0 w1 r2)))] [(.int e2), (.int (own_b (M w0 w1 r2)))]))) (fun _ k => XS.iload X63.here hx rfl (hb hby at_436) rfl k) ?_
  refine own_st (U' := (T63.setTop (mkF m 441 #[.val (.int i0), .val (.int i1), .val (.int i2), .val (.int i3), .val (.int i4), .val (.int i5), .val (.ref a), .val (.int bv), .val (.ref b), .val (.int p1), .val (.int pc), .val (.int p2), .val (.int fB), .val (.int fA), .val (.ref x14), .val (.ref x15), .val (.ref x16), .val (.ref q1), .val (.int r1), .val (.ref q2), .val (.int r2), .val (.int e1), .val (.int e2), .val (.ref fs), .val (.int (own_b (M u0 u1 r1))), .val (.int (own_b (M w0 w1 r2)))] []))) (fun _ k => XS.icmpNo X63.here hx rfl (hb hby at_438) rfl (teq he2.symm).2 k) ?_
  refine own_st (U' := (T63.setTop (mkF m 442 #[.val (.int i0), .val (.int i1), .val (.int i2), .val (.int i3), .val (.int i4), .val (.int i5), .val (.ref a), .val (.int bv), .val (.ref b), .val (.int p1), .val (.int pc), .val (.int p2), .val (.int fB), .val (.int fA), .val (.ref x14), .val (.ref x15), .val (.ref x16), .val (.ref q1), .val (.int r1), .val (.ref q2), .val (.int r2), .val (.int e1), .val (.int e2), .val (.ref fs), .val (.int (own_b (M u0 u1 r1))), .val (.int (own_b (M w0 w1 r2)))] [(.int (1 : Int32))]))) (fun _ k => XS.iconst X63.here hx rfl (hb hby at_441) k) ?_
  refine own_st (U' := (T63.setTop (mkF m 446 #[.val (.int i0), .val (.int i1), .val (.int i2), .val (.int i3), .val (.int i4), .val (.int i5), .val (.ref a), .val (.int bv), .val (.ref b), .val (.int p1), .val (.int pc), .val (.int p2), .val (.int fB), .val (.int fA), .val (.ref x14), .val (.ref x15), .val (.ref x16), .val (.ref q1), .val (.int r1), .val (.ref q2), .val (.int r2), .val (.int e1), .val (.int e2), .val (.ref fs), .val (.int (own_b (M u0 u1 r1))), .val (.int (own_b (M w0 w1 r2)))] [(.int (1 : Int32))]))) (fun _ k => XS.goto X63.here hx rfl (pc0 := 442) (pc' := 446) rfl (hb hby at_442) (by decide) (by decide) k) ?_
  exact own_retN X63 hx (t := .boolean) hret hlk (by simp) rfl (hb hby at_446) (by decide) (by decide) (⟨rfl, N63⟩)
set_option maxRecDepth 65536 in
set_option maxHeartbeats 40000000 in
theorem own_t391 {p : Program} {l : Launch} {e : Env} {s : State} {m : MethodId} {below : List Frame} {meth : Method} {c : Code} {Z : State} {a0 : Array Value} {T : State} {locs : List Loc} {n0 : Nat} (i0 i1 i2 i3 i4 i5 bv p1 pc p2 fB fA r1 r2 e1 e2 u0 u1 w0 w1 : Int32) (a b x14 x15 x16 q1 q2 fs en wd : Addr) (fe : Nat → Int32) (fw : Nat → Int64) (used last : Int32) (cnt : Nat) (M : Int32 → Int32 → Int32 → Bool) (k0 k1 : Int32) (hx : p.tables.exec = Jvm.exec) (hZ : Z.Warmed39 s.vm) (hw : ∀ d ∈ tables_1, d.before a0 Z = true) (hby : c.code = code) (hml : c.maxLocals = 26) (hown : s.vm.findClass "com/example/quorum/quorum/FailedStatesContainsPinLaw" = some m.cls) (hret : meth.sig.returnType = some .boolean) (hlk : meth.locks = false) {h : Heap} (X : Stand p l e room_1 s m #[(.int i0), (.int i1), (.int i2), (.int i3), (.int i4), (.int i5)] below meth c T locs 10 83) (eT : T.heap = h) (N : Fr n0 locs) (Zn : n0 ≤ h.size) (FS : own_FS Z h fs en wd fe fw used last) (I : own_Inv fe fw used last cnt M) (hc : cnt ≤ 2) (g_fs : n0 ≤ fs) (g_en : n0 ≤ en) (g_wd : n0 ≤ wd) (V_q1 : own_A Z h q1 .int 2 (own_L [u0, u1])) (V_q2 : own_A Z h q2 .int 2 (own_L [w0, w1])) (hr1 : ¬ r1 < 0) (hr2 : ¬ r2 < 0) (n_q1_fs : q1 ≠ fs) (n_q1_en : q1 ≠ en) (n_q1_wd : q1 ≠ wd) (n_q2_fs : q2 ≠ fs) (n_q2_en : q2 ≠ en) (n_q2_wd : q2 ≠ wd) (V_x16 : own_A Z h x16 .int 2 (own_L [k0, k1])) (n_x16_fs : x16 ≠ fs) (n_x16_en : x16 ≠ en) (n_x16_wd : x16 ≠ wd) (hp2 : ¬ p2 < 0) (he1 : e1 = own_b (M u0 u1 r1 || (decide (¬ fA = 0) && (decide (u0 = k0) && (decide (u1 = k1) && decide (r1 = p2)))))) (he2 : e2 = own_b (M w0 w1 r2 || (decide (¬ fA = 0) && (decide (w0 = k0) && (decide (w1 = k1) && decide (r2 = p2)))))) :
    own_Ends p e s below (fun v _ L => v = some (.int 1) ∧ Fr n0 L) 32 256 (T.setTop (mkF m 391 #[.val (.int i0), .val (.int i1), .val (.int i2), .val (.int i3), .val (.int i4), .val (.int i5), .val (.ref a), .val (.int bv), .val (.ref b), .val (.int p1), .val (.int pc), .val (.int p2), .val (.int fB), .val (.int fA), .val (.ref x14), .val (.ref x15), .val (.ref x16), .val (.ref q1), .val (.int r1), .val (.ref q2), .val (.int r2), .val (.int e1), .val (.int e2), .val (.ref fs), .unset, .unset] [])) := by
  refine own_st (U' := (T.setTop (mkF m 393 #[.val (.int i0), .val (.int i1), .val (.int i2), .val (.int i3), .val (.int i4), .val (.int i5), .val (.ref a), .val (.int bv), .val (.ref b), .val (.int p1), .val (.int pc), .val (.int p2), .val (.int fB), .val (.int fA), .val (.ref x14), .val (.ref x15), .val (.ref x16), .val (.ref q1), .val (.int r1), .val (.ref q2), .val (.int r2), .val (.int e1), .val (.int e2), .val (.ref fs), .unset, .unset] [(.int fA)]))) (fun _ k => XS.iload X.here hx rfl (hb hby at_391) rfl k) ?_
  by_cases cA : fA = (0 : Int32)
  · skip
    refine own_st (U' := (T.setTop (mkF m 405 #[.val (.int i0), .val (.int i1), .val (.int i2), .val (.int i3), .val (.int i4), .val (.int i5), .val (.ref a), .val (.int bv), .val (.ref b), .val (.int p1), .val (.int pc), .val (.int p2), .val (.int fB), .val (.int fA), .val (.ref x14), .val (.ref x15), .val (.ref x16), .val (.ref q1), .val (.int r1), .val (.ref q2), .val (.int r2), .val (.int e1), .val (.int e2), .val (.ref fs), .unset, .unset] []))) (fun _ k => XS.ifYes X.here hx rfl (pc0 := 393) (pc' := 405) rfl (hb hby at_393) rfl ((if0 _ _).trans (teq cA).1) (by decide) (by decide) k) ?_
    exact own_t405 i0 i1 i2 i3 i4 i5 bv p1 pc p2 fB fA r1 r2 e1 e2 u0 u1 w0 w1 a b x14 x15 x16 q1 q2 fs en wd fe fw used last cnt M hx hZ hw hby hml hown hret hlk X eT N Zn FS I (by omega) g_fs g_en g_wd V_q1 V_q2 hr1 hr2 n_q1_fs n_q1_en n_q1_wd n_q2_fs n_q2_en n_q2_wd (by rw [he1, cA]; simp [own_b]) (by rw [he2, cA]; simp [own_b])
  · skip
    refine own_st (U' := (T.setTop (mkF m 396 #[.val (.int i0), .val (.int i1), .val (.int i2), .val (.int i3), .val (.int i4), .val (.int i5), .val (.ref a), .val (.int bv), .val (.ref b), .val (.int p1), .val (.int pc), .val (.int p2), .val (.int fB), .val (.int fA), .val (.ref x14), .val (.ref x15), .val (.ref x16), .val (.ref q1), .val (.int r1), .val (.ref q2), .val (.int r2), .val (.int e1), .val (.int e2), .val (.ref fs), .unset, .unset] []))) (fun _ k => XS.ifNo X.here hx rfl (hb hby at_393) rfl ((if0 _ _).trans (feq cA).1) k) ?_
    refine own_st (U' := (T.setTop (mkF m 398 #[.val (.int i0), .val (.int i1), .val (.int i2), .val (.int i3), .val (.int i4), .val (.int i5), .val (.ref a), .val (.int bv), .val (.ref b), .val (.int p1), .val (.int pc), .val (.int p2), .val (.int fB), .val (.int fA), .val (.ref x14), .val (.ref x15), .val (.ref x16), .val (.ref q1), .val (.int r1), .val (.ref q2), .val (.int r2), .val (.int e1), .val (.int e2), .val (.ref fs), .unset, .unset] [(.ref fs)]))) (fun _ k => XS.aload X.here hx rfl (hb hby at_396) rfl rfl k) ?_
    refine own_st (U' := (T.setTop (mkF m 400 #[.val (.int i0), .val (.int i1), .val (.int i2), .val (.int i3), .val (.int i4), .val (.int i5), .val (.ref a), .val (.int bv), .val (.ref b), .val (.int p1), .val (.int pc), .val (.int p2), .val (.int fB), .val (.int fA), .val (.ref x14), .val (.ref x15), .val (.ref x16), .val (.ref q1), .val (.int r1), .val (.ref q2), .val (.int r2), .val (.int e1), .val (.int e2), .val (.ref fs), .unset, .unset] [(.ref x16), (.ref fs)]))) (fun _ k => XS.aload X.here hx rfl (hb hby at_398) rfl rfl k) ?_
    refine own_st (U' := (T.setTop (mkF m 402 #[.val (.int i0), .val (.int i1), .val (.int i2), .val (.int i3), .val (.int i4), .val (.int i5), .val (.ref a), .val (.int bv), .val (.ref b), .val (.int p1), .val (.int pc), .val (.int p2), .val (.int fB), .val (.int fA), .val (.ref x14), .val (.ref x15), .val (.ref x16), .val (.ref q1), .val (.int r1), .val (.ref q2), .val (.int r2), .val (.int e1), .val (.int e2), .val (.ref fs), .unset, .unset] [(.int p2), (.ref x16), (.ref fs)]))) (fun _ k => XS.iload X.here hx rfl (hb hby at_400) rfl k) ?_
    obtain ⟨cq64, kq64, qa64, qb64, qc64⟩ := isOf hZ eT FS.1
    obtain ⟨_, _, ⟨T64, L64, k64, n64⟩, -, X64, ⟨Lc64, hQ64, l64, y64, z64⟩, st64⟩ := X.virtualBack hx (y := (⟨"com/example/quorum/quorum/FailedStates", "add", "([II)V"⟩ : MethodName)) (z := (⟨"com/example/quorum/quorum/FailedStates", "add", "([II)V"⟩ : MethodName)) hown (mvT hZ (hw _ (List.mem_of_getElem? (i := 33) rfl))) (mvT hZ (hw _ (List.mem_of_getElem? (i := 34) rfl))) (notFace_of_selects (args := #[]) (mvT hZ (hw _ (List.mem_of_getElem? (i := 36) rfl)))) (mvT hZ (hw _ (List.mem_of_getElem? (i := 36) rfl))) (mvT hZ (hw _ (List.mem_of_getElem? (i := 35) rfl))) (by decide) (backOf (W := 0) (rmAdd l Z a0 hw [] fs x16 p2 en wd fe fw used last cnt M k0 k1 h n0 Zn FS I (by omega) V_x16 g_fs g_en g_wd hp2 n_x16_fs n_x16_en n_x16_wd) hZ (hw _ (List.mem_of_getElem? (i := 37) rfl)) (hw _ (List.mem_of_getElem? (i := 17) rfl)) (by decide) (by decide)) qa64 qc64 (g := (mkF m 402 #[.val (.int i0), .val (.int i1), .val (.int i2), .val (.int i3), .val (.int i4), .val (.int i5), .val (.ref a), .val (.int bv), .val (.ref b), .val (.int p1), .val (.int pc), .val (.int p2), .val (.int fB), .val (.int fA), .val (.ref x14), .val (.ref x15), .val (.ref x16), .val (.ref q1), .val (.int r1), .val (.ref q2), .val (.int r2), .val (.int e1), .val (.int e2), .val (.ref fs), .unset, .unset] [(.int p2), (.ref x16), (.ref fs)])) rfl (by rw [hml]; rfl) (Steps.refl _) (argsL := [(.ref x16), (.int p2)]) (rest := []) (lenOf (pd_d7) rfl) rfl (by show 2 * 0 + _ ≤ _; exact Nat.le_of_eq rfl) (hb hby at_402) (fun _ _ => ⟨rfl, eT, (Nat.le_of_ble_eq_true rfl), (Nat.le_of_ble_eq_true rfl)⟩)
    dsimp only [Pt.U, Pt.locs, Pt.cells, Pt.slots] at X64 l64 y64 z64 st64 hQ64
    subst l64 y64 z64
    obtain ⟨fe', fw', used', last', rfl, Nq64, Kq64, FS', I'⟩ := hQ64
    have V_q1 := V_q1.keep Kq64 (ninS n_q1_fs (ninS n_q1_en (ninS n_q1_wd nin0)))
    have V_q2 := V_q2.keep Kq64 (ninS n_q2_fs (ninS n_q2_en (ninS n_q2_wd nin0)))
    have V_x16 := V_x16.keep Kq64 (ninS n_x16_fs (ninS n_x16_en (ninS n_x16_wd nin0)))
    have N64 := Fr.app N Nq64
    have Z64 : n0 ≤ T64.heap.size := Nat.le_trans Zn Kq64.1
    refine own_tr (U' := (T64.setTop (mkF m 405 #[.val (.int i0), .val (.int i1), .val (.int i2), .val (.int i3), .val (.int i4), .val (.int i5), .val (.ref a), .val (.int bv), .val (.ref b), .val (.int p1), .val (.int pc), .val (.int p2), .val (.int fB), .val (.int fA), .val (.ref x14), .val (.ref x15), .val (.ref x16), .val (.ref q1), .val (.int r1), .val (.ref q2), .val (.int r2), .val (.int e1), .val (.int e2), .val (.ref fs), .unset, .unset] []))) st64 ?_
    exact own_t405 i0 i1 i2 i3 i4 i5 bv p1 pc p2 fB fA r1 r2 e1 e2 u0 u1 w0 w1 a b x14 x15 x16 q1 q2 fs en wd _ _ _ _ _ _ hx hZ hw hby hml hown hret hlk X64 rfl N64 Z64 FS' I' (by omega) g_fs g_en g_wd V_q1 V_q2 hr1 hr2 n_q1_fs n_q1_en n_q1_wd n_q2_fs n_q2_en n_q2_wd (by rw [he1]; simp [own_ins, cA]) (by rw [he2]; simp [own_ins, cA])
set_option maxRecDepth 65536 in
set_option maxHeartbeats 40000000 in
theorem own_t358 {p : Program} {l : Launch} {e : Env} {s : State} {m : MethodId} {below : List Frame} {meth : Method} {c : Code} {Z : State} {a0 : Array Value} {T : State} {locs : List Loc} {n0 : Nat} (i0 i1 i2 i3 i4 i5 bv p1 pc p2 fB fA r1 r2 e1 e2 u0 u1 w0 w1 k0 k1 b0 b1 : Int32) (a b x14 x15 x16 q1 q2 : Addr)  (hx : p.tables.exec = Jvm.exec) (hZ : Z.Warmed39 s.vm) (hw : ∀ d ∈ tables_1, d.before a0 Z = true) (hby : c.code = code) (hml : c.maxLocals = 26) (hown : s.vm.findClass "com/example/quorum/quorum/FailedStatesContainsPinLaw" = some m.cls) (hret : meth.sig.returnType = some .boolean) (hlk : meth.locks = false) {h : Heap} (X : Stand p l e room_1 s m #[(.int i0), (.int i1), (.int i2), (.int i3), (.int i4), (.int i5)] below meth c T locs 7 14) (eT : T.heap = h) (N : Fr n0 locs) (Zn : n0 ≤ h.size) (V_q1 : own_A Z h q1 .int 2 (own_L [u0, u1])) (V_q2 : own_A Z h q2 .int 2 (own_L [w0, w1])) (V_x14 : own_A Z h x14 .int 2 (own_L [k0, k1])) (V_x15 : own_A Z h x15 .int 2 (own_L [b0, b1])) (V_x16 : own_A Z h x16 .int 2 (own_L [k0, k1])) (hr1 : ¬ r1 < 0) (hr2 : ¬ r2 < 0) (hp1 : ¬ p1 < 0) (hp2 : ¬ p2 < 0) (he1 : e1 = own_b ((own_M3 k0 k1 p1 fB b0 b1 p2 fA) u0 u1 r1)) (he2 : e2 = own_b ((own_M3 k0 k1 p1 fB b0 b1 p2 fA) w0 w1 r2)) :
    own_Ends p e s below (fun v _ L => v = some (.int 1) ∧ Fr n0 L) 32 256 (T.setTop (mkF m 358 #[.val (.int i0), .val (.int i1), .val (.int i2), .val (.int i3), .val (.int i4), .val (.int i5), .val (.ref a), .val (.int bv), .val (.ref b), .val (.int p1), .val (.int pc), .val (.int p2), .val (.int fB), .val (.int fA), .val (.ref x14), .val (.ref x15), .val (.ref x16), .val (.ref q1), .val (.int r1), .val (.ref q2), .val (.int r2), .val (.int e1), .val (.int e2), .unset, .unset, .unset] [])) := by
  obtain ⟨T65, h65, X65, e65, E65, A65, D65, -, st65⟩ := newO X hx hZ hown (hw _ (List.mem_of_getElem? (i := 15) rfl)) (hw _ (List.mem_of_getElem? (i := 16) rfl)) (hw _ (List.mem_of_getElem? (i := 17) rfl)) eT (g := (mkF m 358 #[.val (.int i0), .val (.int i1), .val (.int i2), .val (.int i3), .val (.int i4), .val (.int i5), .val (.ref a), .val (.int bv), .val (.ref b), .val (.int p1), .val (.int pc), .val (.int p2), .val (.int fB), .val (.int fA), .val (.ref x14), .val (.ref x15), .val (.ref x16), .val (.ref q1), .val (.int r1), .val (.ref q2), .val (.int r2), .val (.int e1), .val (.int e2), .unset, .unset, .unset] [])) rfl (hb hby at_358) (by decide) (by decide)
  obtain ⟨b65, g65⟩ : ∃ z, z = h.size := ⟨_, rfl⟩
  rw [← g65] at A65 D65 st65
  have ne_q1_b65 : q1 ≠ b65 := Nat.ne_of_lt (Nat.lt_of_lt_of_eq V_q1.lt g65.symm)
  have ne_q2_b65 : q2 ≠ b65 := Nat.ne_of_lt (Nat.lt_of_lt_of_eq V_q2.lt g65.symm)
  have ne_x14_b65 : x14 ≠ b65 := Nat.ne_of_lt (Nat.lt_of_lt_of_eq V_x14.lt g65.symm)
  have ne_x15_b65 : x15 ≠ b65 := Nat.ne_of_lt (Nat.lt_of_lt_of_eq V_x15.lt g65.symm)
  have ne_x16_b65 : x16 ≠ b65 := Nat.ne_of_lt (Nat.lt_of_lt_of_eq V_x16.lt g65.symm)
  have g_b65 : n0 ≤ b65 := Nat.le_trans Zn (Nat.le_of_eq g65.symm)
  have V_q1 := V_q1.ext E65
  have V_q2 := V_q2.ext E65
  have V_x14 := V_x14.ext E65
  have V_x15 := V_x15.ext E65
  have V_x16 := V_x16.ext E65
  have Z65 : n0 ≤ h65.size := Nat.le_trans Zn E65.1
  have F_width : Fld Z h65 b65 "com/example/quorum/quorum/FailedStates" "width" "I" (.int 0) := D65 (Or.inr (hw _ (List.mem_of_getElem? (i := 27) rfl))) (ty := .int) (by decide)
  have F_entries : Fld Z h65 b65 "com/example/quorum/quorum/FailedStates" "entries" "[I" .null := D65 (Or.inl (hw _ (List.mem_of_getElem? (i := 29) rfl))) (ty := (.array .int)) (by decide)
  have F_words : Fld Z h65 b65 "com/example/quorum/quorum/FailedStates" "words" "[J" .null := D65 (Or.inl (hw _ (List.mem_of_getElem? (i := 32) rfl))) (ty := (.array .long)) (by decide)
  have F_used : Fld Z h65 b65 "com/example/quorum/quorum/FailedStates" "used" "I" (.int 0) := D65 (Or.inl (hw _ (List.mem_of_getElem? (i := 52) rfl))) (ty := .int) (by decide)
  have F_last : Fld Z h65 b65 "com/example/quorum/quorum/FailedStates" "lastSlot" "I" (.int 0) := D65 (Or.inl (hw _ (List.mem_of_getElem? (i := 25) rfl))) (ty := .int) (by decide)
  refine own_st (U' := (T65.setTop (mkF m 361 #[.val (.int i0), .val (.int i1), .val (.int i2), .val (.int i3), .val (.int i4), .val (.int i5), .val (.ref a), .val (.int bv), .val (.ref b), .val (.int p1), .val (.int pc), .val (.int p2), .val (.int fB), .val (.int fA), .val (.ref x14), .val (.ref x15), .val (.ref x16), .val (.ref q1), .val (.int r1), .val (.ref q2), .val (.int r2), .val (.int e1), .val (.int e2), .unset, .unset, .unset] [(.ref b65)]))) st65 ?_
  refine own_st (U' := (T65.setTop (mkF m 362 #[.val (.int i0), .val (.int i1), .val (.int i2), .val (.int i3), .val (.int i4), .val (.int i5), .val (.ref a), .val (.int bv), .val (.ref b), .val (.int p1), .val (.int pc), .val (.int p2), .val (.int fB), .val (.int fA), .val (.ref x14), .val (.ref x15), .val (.ref x16), .val (.ref q1), .val (.int r1), .val (.ref q2), .val (.int r2), .val (.int e1), .val (.int e2), .unset, .unset, .unset] [(.ref b65), (.ref b65)]))) (fun _ k => XS.dup X65.here hx rfl (hb hby at_361) rfl rfl k) ?_
  refine own_st (U' := (T65.setTop (mkF m 363 #[.val (.int i0), .val (.int i1), .val (.int i2), .val (.int i3), .val (.int i4), .val (.int i5), .val (.ref a), .val (.int bv), .val (.ref b), .val (.int p1), .val (.int pc), .val (.int p2), .val (.int fB), .val (.int fA), .val (.ref x14), .val (.ref x15), .val (.ref x16), .val (.ref q1), .val (.int r1), .val (.ref q2), .val (.int r2), .val (.int e1), .val (.int e2), .unset, .unset, .unset] [(.int (2 : Int32)), (.ref b65), (.ref b65)]))) (fun _ k => XS.iconst X65.here hx rfl (hb hby at_362) k) ?_
  obtain ⟨_, _, ⟨T66, L66, k66, n66⟩, -, X66, ⟨Lc66, hQ66, l66, y66, z66⟩, st66⟩ := X65.specialBack hx (y := (⟨"com/example/quorum/quorum/FailedStates", "<init>", "(I)V"⟩ : MethodName)) rfl hown (mvT hZ (hw _ (List.mem_of_getElem? (i := 18) rfl))) (mvT hZ (hw _ (List.mem_of_getElem? (i := 19) rfl))) (mvT hZ (hw _ (List.mem_of_getElem? (i := 20) rfl))) (by decide) (backOf (W := 1) (rmInit l Z a0 hw [] b65 h65 n0 Z65 A65 F_width F_entries F_words F_used F_last g_b65) hZ (hw _ (List.mem_of_getElem? (i := 20) rfl)) (hw _ (List.mem_of_getElem? (i := 17) rfl)) (by decide) (by decide)) (g := (mkF m 363 #[.val (.int i0), .val (.int i1), .val (.int i2), .val (.int i3), .val (.int i4), .val (.int i5), .val (.ref a), .val (.int bv), .val (.ref b), .val (.int p1), .val (.int pc), .val (.int p2), .val (.int fB), .val (.int fA), .val (.ref x14), .val (.ref x15), .val (.ref x16), .val (.ref q1), .val (.int r1), .val (.ref q2), .val (.int r2), .val (.int e1), .val (.int e2), .unset, .unset, .unset] [(.int (2 : Int32)), (.ref b65), (.ref b65)])) rfl (by rw [hml]; rfl) (Steps.refl _) (a := b65) (argsL := [(.int (2 : Int32))]) (rest := [(.ref b65)]) (lenOf (pd_d5) rfl) rfl (by show 2 * 0 + _ ≤ _; exact Nat.le_of_eq rfl) (hb hby at_363) (fun _ _ => ⟨rfl, e65, (Nat.le_of_ble_eq_true rfl), (Nat.le_of_ble_eq_true rfl)⟩)
  dsimp only [Pt.U, Pt.locs, Pt.cells, Pt.slots] at X66 l66 y66 z66 st66 hQ66
  subst l66 y66 z66
  obtain ⟨rfl, Nq66, Kq66, en, wd, sz_en, sz_wd, FS⟩ := hQ66
  have n_q1_fs : q1 ≠ b65 := ne_q1_b65
  have n_q1_en : q1 ≠ en := Nat.ne_of_lt (Nat.lt_of_lt_of_le V_q1.lt sz_en)
  have n_q1_wd : q1 ≠ wd := Nat.ne_of_lt (Nat.lt_of_lt_of_le V_q1.lt sz_wd)
  have n_q2_fs : q2 ≠ b65 := ne_q2_b65
  have n_q2_en : q2 ≠ en := Nat.ne_of_lt (Nat.lt_of_lt_of_le V_q2.lt sz_en)
  have n_q2_wd : q2 ≠ wd := Nat.ne_of_lt (Nat.lt_of_lt_of_le V_q2.lt sz_wd)
  have n_x14_fs : x14 ≠ b65 := ne_x14_b65
  have n_x14_en : x14 ≠ en := Nat.ne_of_lt (Nat.lt_of_lt_of_le V_x14.lt sz_en)
  have n_x14_wd : x14 ≠ wd := Nat.ne_of_lt (Nat.lt_of_lt_of_le V_x14.lt sz_wd)
  have n_x15_fs : x15 ≠ b65 := ne_x15_b65
  have n_x15_en : x15 ≠ en := Nat.ne_of_lt (Nat.lt_of_lt_of_le V_x15.lt sz_en)
  have n_x15_wd : x15 ≠ wd := Nat.ne_of_lt (Nat.lt_of_lt_of_le V_x15.lt sz_wd)
  have n_x16_fs : x16 ≠ b65 := ne_x16_b65
  have n_x16_en : x16 ≠ en := Nat.ne_of_lt (Nat.lt_of_lt_of_le V_x16.lt sz_en)
  have n_x16_wd : x16 ≠ wd := Nat.ne_of_lt (Nat.lt_of_lt_of_le V_x16.lt sz_wd)
  have g_en : n0 ≤ en := Nat.le_trans Z65 sz_en
  have g_wd : n0 ≤ wd := Nat.le_trans Z65 sz_wd
  have V_q1 := V_q1.keep Kq66 (ninS n_q1_fs nin0)
  have V_q2 := V_q2.keep Kq66 (ninS n_q2_fs nin0)
  have V_x14 := V_x14.keep Kq66 (ninS n_x14_fs nin0)
  have V_x15 := V_x15.keep Kq66 (ninS n_x15_fs nin0)
  have V_x16 := V_x16.keep Kq66 (ninS n_x16_fs nin0)
  have N66 := Fr.app N Nq66
  have Z66 : n0 ≤ T66.heap.size := Nat.le_trans Z65 Kq66.1
  refine own_tr (U' := (T66.setTop (mkF m 366 #[.val (.int i0), .val (.int i1), .val (.int i2), .val (.int i3), .val (.int i4), .val (.int i5), .val (.ref a), .val (.int bv), .val (.ref b), .val (.int p1), .val (.int pc), .val (.int p2), .val (.int fB), .val (.int fA), .val (.ref x14), .val (.ref x15), .val (.ref x16), .val (.ref q1), .val (.int r1), .val (.ref q2), .val (.int r2), .val (.int e1), .val (.int e2), .unset, .unset, .unset] [(.ref b65)]))) st66 ?_
  have I := own_Inv.zero
  have g_fs := g_b65
  refine own_st (U' := (T66.setTop (mkF m 368 #[.val (.int i0), .val (.int i1), .val (.int i2), .val (.int i3), .val (.int i4), .val (.int i5), .val (.ref a), .val (.int bv), .val (.ref b), .val (.int p1), .val (.int pc), .val (.int p2), .val (.int fB), .val (.int fA), .val (.ref x14), .val (.ref x15), .val (.ref x16), .val (.ref q1), .val (.int r1), .val (.ref q2), .val (.int r2), .val (.int e1), .val (.int e2), .val (.ref b65), .unset, .unset] []))) (fun _ k => XS.astore X66.here hx rfl (hb hby at_366) rfl rfl (l' := #[.val (.int i0), .val (.int i1), .val (.int i2), .val (.int i3), .val (.int i4), .val (.int i5), .val (.ref a), .val (.int bv), .val (.ref b), .val (.int p1), .val (.int pc), .val (.int p2), .val (.int fB), .val (.int fA), .val (.ref x14), .val (.ref x15), .val (.ref x16), .val (.ref q1), .val (.int r1), .val (.ref q2), .val (.int r2), .val (.int e1), .val (.int e2), .val (.ref b65), .unset, .unset]) rfl k) ?_
  refine own_st (U' := (T66.setTop (mkF m 370 #[.val (.int i0), .val (.int i1), .val (.int i2), .val (.int i3), .val (.int i4), .val (.int i5), .val (.ref a), .val (.int bv), .val (.ref b), .val (.int p1), .val (.int pc), .val (.int p2), .val (.int fB), .val (.int fA), .val (.ref x14), .val (.ref x15), .val (.ref x16), .val (.ref q1), .val (.int r1), .val (.ref q2), .val (.int r2), .val (.int e1), .val (.int e2), .val (.ref b65), .unset, .unset] [(.ref b65)]))) (fun _ k => XS.aload X66.here hx rfl (hb hby at_368) rfl rfl k) ?_
  refine own_st (U' := (T66.setTop (mkF m 372 #[.val (.int i0), .val (.int i1), .val (.int i2), .val (.int i3), .val (.int i4), .val (.int i5), .val (.ref a), .val (.int bv), .val (.ref b), .val (.int p1), .val (.int pc), .val (.int p2), .val (.int fB), .val (.int fA), .val (.ref x14), .val (.ref x15), .val (.ref x16), .val (.ref q1), .val (.int r1), .val (.ref q2), .val (.int r2), .val (.int e1), .val (.int e2), .val (.ref b65), .unset, .unset] [(.ref x14), (.ref b65)]))) (fun _ k => XS.aload X66.here hx rfl (hb hby at_370) rfl rfl k) ?_
  refine own_st (U' := (T66.setTop (mkF m 374 #[.val (.int i0), .val (.int i1), .val (.int i2), .val (.int i3), .val (.int i4), .val (.int i5), .val (.ref a), .val (.int bv), .val (.ref b), .val (.int p1), .val (.int pc), .val (.int p2), .val (.int fB), .val (.int fA), .val (.ref x14), .val (.ref x15), .val (.ref x16), .val (.ref q1), .val (.int r1), .val (.ref q2), .val (.int r2), .val (.int e1), .val (.int e2), .val (.ref b65), .unset, .unset] [(.int p1), (.ref x14), (.ref b65)]))) (fun _ k => XS.iload X66.here hx rfl (hb hby at_372) rfl k) ?_
  obtain ⟨cq67, kq67, qa67, qb67, qc67⟩ := isOf hZ rfl FS.1
  obtain ⟨_, _, ⟨T67, L67, k67, n67⟩, -, X67, ⟨Lc67, hQ67, l67, y67, z67⟩, st67⟩ := X66.virtualBack hx (y := (⟨"com/example/quorum/quorum/FailedStates", "add", "([II)V"⟩ : MethodName)) (z := (⟨"com/example/quorum/quorum/FailedStates", "add", "([II)V"⟩ : MethodName)) hown (mvT hZ (hw _ (List.mem_of_getElem? (i := 33) rfl))) (mvT hZ (hw _ (List.mem_of_getElem? (i := 34) rfl))) (notFace_of_selects (args := #[]) (mvT hZ (hw _ (List.mem_of_getElem? (i := 36) rfl)))) (mvT hZ (hw _ (List.mem_of_getElem? (i := 36) rfl))) (mvT hZ (hw _ (List.mem_of_getElem? (i := 35) rfl))) (by decide) (backOf (W := 0) (rmAdd l Z a0 hw [] b65 x14 p1 en wd (fun _ => 0) (fun _ => 0) 0 (-1) 0 (fun _ _ _ => false) k0 k1 T66.heap n0 Z66 FS I (by decide) V_x14 g_fs g_en g_wd hp1 n_x14_fs n_x14_en n_x14_wd) hZ (hw _ (List.mem_of_getElem? (i := 37) rfl)) (hw _ (List.mem_of_getElem? (i := 17) rfl)) (by decide) (by decide)) qa67 qc67 (g := (mkF m 374 #[.val (.int i0), .val (.int i1), .val (.int i2), .val (.int i3), .val (.int i4), .val (.int i5), .val (.ref a), .val (.int bv), .val (.ref b), .val (.int p1), .val (.int pc), .val (.int p2), .val (.int fB), .val (.int fA), .val (.ref x14), .val (.ref x15), .val (.ref x16), .val (.ref q1), .val (.int r1), .val (.ref q2), .val (.int r2), .val (.int e1), .val (.int e2), .val (.ref b65), .unset, .unset] [(.int p1), (.ref x14), (.ref b65)])) rfl (by rw [hml]; rfl) (Steps.refl _) (argsL := [(.ref x14), (.int p1)]) (rest := []) (lenOf (pd_d7) rfl) rfl (by show 2 * 0 + _ ≤ _; exact Nat.le_of_eq rfl) (hb hby at_374) (fun _ _ => ⟨rfl, rfl, (Nat.le_of_ble_eq_true rfl), (Nat.le_of_ble_eq_true rfl)⟩)
  dsimp only [Pt.U, Pt.locs, Pt.cells, Pt.slots] at X67 l67 y67 z67 st67 hQ67
  subst l67 y67 z67
  obtain ⟨fe, fw, used, last, rfl, Nq67, Kq67, FS, I⟩ := hQ67
  have V_q1 := V_q1.keep Kq67 (ninS n_q1_fs (ninS n_q1_en (ninS n_q1_wd nin0)))
  have V_q2 := V_q2.keep Kq67 (ninS n_q2_fs (ninS n_q2_en (ninS n_q2_wd nin0)))
  have V_x14 := V_x14.keep Kq67 (ninS n_x14_fs (ninS n_x14_en (ninS n_x14_wd nin0)))
  have V_x15 := V_x15.keep Kq67 (ninS n_x15_fs (ninS n_x15_en (ninS n_x15_wd nin0)))
  have V_x16 := V_x16.keep Kq67 (ninS n_x16_fs (ninS n_x16_en (ninS n_x16_wd nin0)))
  have N67 := Fr.app N66 Nq67
  have Z67 : n0 ≤ T67.heap.size := Nat.le_trans Z66 Kq67.1
  refine own_tr (U' := (T67.setTop (mkF m 377 #[.val (.int i0), .val (.int i1), .val (.int i2), .val (.int i3), .val (.int i4), .val (.int i5), .val (.ref a), .val (.int bv), .val (.ref b), .val (.int p1), .val (.int pc), .val (.int p2), .val (.int fB), .val (.int fA), .val (.ref x14), .val (.ref x15), .val (.ref x16), .val (.ref q1), .val (.int r1), .val (.ref q2), .val (.int r2), .val (.int e1), .val (.int e2), .val (.ref b65), .unset, .unset] []))) st67 ?_
  refine own_st (U' := (T67.setTop (mkF m 379 #[.val (.int i0), .val (.int i1), .val (.int i2), .val (.int i3), .val (.int i4), .val (.int i5), .val (.ref a), .val (.int bv), .val (.ref b), .val (.int p1), .val (.int pc), .val (.int p2), .val (.int fB), .val (.int fA), .val (.ref x14), .val (.ref x15), .val (.ref x16), .val (.ref q1), .val (.int r1), .val (.ref q2), .val (.int r2), .val (.int e1), .val (.int e2), .val (.ref b65), .unset, .unset] [(.int fB)]))) (fun _ k => XS.iload X67.here hx rfl (hb hby at_377) rfl k) ?_
  by_cases cB : fB = (0 : Int32)
  · skip
    refine own_st (U' := (T67.setTop (mkF m 391 #[.val (.int i0), .val (.int i1), .val (.int i2), .val (.int i3), .val (.int i4), .val (.int i5), .val (.ref a), .val (.int bv), .val (.ref b), .val (.int p1), .val (.int pc), .val (.int p2), .val (.int fB), .val (.int fA), .val (.ref x14), .val (.ref x15), .val (.ref x16), .val (.ref q1), .val (.int r1), .val (.ref q2), .val (.int r2), .val (.int e1), .val (.int e2), .val (.ref b65), .unset, .unset] []))) (fun _ k => XS.ifYes X67.here hx rfl (pc0 := 379) (pc' := 391) rfl (hb hby at_379) rfl ((if0 _ _).trans (teq cB).1) (by decide) (by decide) k) ?_
    exact own_t391 i0 i1 i2 i3 i4 i5 bv p1 pc p2 fB fA r1 r2 e1 e2 u0 u1 w0 w1 a b x14 x15 x16 q1 q2 b65 en wd fe fw used last 1 _ k0 k1 hx hZ hw hby hml hown hret hlk X67 rfl N67 Z67 FS I (by decide) g_fs g_en g_wd V_q1 V_q2 hr1 hr2 n_q1_fs n_q1_en n_q1_wd n_q2_fs n_q2_en n_q2_wd V_x16 n_x16_fs n_x16_en n_x16_wd hp2 (by rw [he1]; simp [own_M3, own_ins, own_eq, cB, Bool.and_assoc]) (by rw [he2]; simp [own_M3, own_ins, own_eq, cB, Bool.and_assoc])
  · skip
    refine own_st (U' := (T67.setTop (mkF m 382 #[.val (.int i0), .val (.int i1), .val (.int i2), .val (.int i3), .val (.int i4), .val (.int i5), .val (.ref a), .val (.int bv), .val (.ref b), .val (.int p1), .val (.int pc), .val (.int p2), .val (.int fB), .val (.int fA), .val (.ref x14), .val (.ref x15), .val (.ref x16), .val (.ref q1), .val (.int r1), .val (.ref q2), .val (.int r2), .val (.int e1), .val (.int e2), .val (.ref b65), .unset, .unset] []))) (fun _ k => XS.ifNo X67.here hx rfl (hb hby at_379) rfl ((if0 _ _).trans (feq cB).1) k) ?_
    refine own_st (U' := (T67.setTop (mkF m 384 #[.val (.int i0), .val (.int i1), .val (.int i2), .val (.int i3), .val (.int i4), .val (.int i5), .val (.ref a), .val (.int bv), .val (.ref b), .val (.int p1), .val (.int pc), .val (.int p2), .val (.int fB), .val (.int fA), .val (.ref x14), .val (.ref x15), .val (.ref x16), .val (.ref q1), .val (.int r1), .val (.ref q2), .val (.int r2), .val (.int e1), .val (.int e2), .val (.ref b65), .unset, .unset] [(.ref b65)]))) (fun _ k => XS.aload X67.here hx rfl (hb hby at_382) rfl rfl k) ?_
    refine own_st (U' := (T67.setTop (mkF m 386 #[.val (.int i0), .val (.int i1), .val (.int i2), .val (.int i3), .val (.int i4), .val (.int i5), .val (.ref a), .val (.int bv), .val (.ref b), .val (.int p1), .val (.int pc), .val (.int p2), .val (.int fB), .val (.int fA), .val (.ref x14), .val (.ref x15), .val (.ref x16), .val (.ref q1), .val (.int r1), .val (.ref q2), .val (.int r2), .val (.int e1), .val (.int e2), .val (.ref b65), .unset, .unset] [(.ref x15), (.ref b65)]))) (fun _ k => XS.aload X67.here hx rfl (hb hby at_384) rfl rfl k) ?_
    refine own_st (U' := (T67.setTop (mkF m 388 #[.val (.int i0), .val (.int i1), .val (.int i2), .val (.int i3), .val (.int i4), .val (.int i5), .val (.ref a), .val (.int bv), .val (.ref b), .val (.int p1), .val (.int pc), .val (.int p2), .val (.int fB), .val (.int fA), .val (.ref x14), .val (.ref x15), .val (.ref x16), .val (.ref q1), .val (.int r1), .val (.ref q2), .val (.int r2), .val (.int e1), .val (.int e2), .val (.ref b65), .unset, .unset] [(.int p2), (.ref x15), (.ref b65)]))) (fun _ k => XS.iload X67.here hx rfl (hb hby at_386) rfl k) ?_
    obtain ⟨cq68, kq68, qa68, qb68, qc68⟩ := isOf hZ rfl FS.1
    obtain ⟨_, _, ⟨T68, L68, k68, n68⟩, -, X68, ⟨Lc68, hQ68, l68, y68, z68⟩, st68⟩ := X67.virtualBack hx (y := (⟨"com/example/quorum/quorum/FailedStates", "add", "([II)V"⟩ : MethodName)) (z := (⟨"com/example/quorum/quorum/FailedStates", "add", "([II)V"⟩ : MethodName)) hown (mvT hZ (hw _ (List.mem_of_getElem? (i := 33) rfl))) (mvT hZ (hw _ (List.mem_of_getElem? (i := 34) rfl))) (notFace_of_selects (args := #[]) (mvT hZ (hw _ (List.mem_of_getElem? (i := 36) rfl)))) (mvT hZ (hw _ (List.mem_of_getElem? (i := 36) rfl))) (mvT hZ (hw _ (List.mem_of_getElem? (i := 35) rfl))) (by decide) (backOf (W := 0) (rmAdd l Z a0 hw [] b65 x15 p2 en wd fe fw used last 1 _ b0 b1 T67.heap n0 Z67 FS I (by decide) V_x15 g_fs g_en g_wd hp2 n_x15_fs n_x15_en n_x15_wd) hZ (hw _ (List.mem_of_getElem? (i := 37) rfl)) (hw _ (List.mem_of_getElem? (i := 17) rfl)) (by decide) (by decide)) qa68 qc68 (g := (mkF m 388 #[.val (.int i0), .val (.int i1), .val (.int i2), .val (.int i3), .val (.int i4), .val (.int i5), .val (.ref a), .val (.int bv), .val (.ref b), .val (.int p1), .val (.int pc), .val (.int p2), .val (.int fB), .val (.int fA), .val (.ref x14), .val (.ref x15), .val (.ref x16), .val (.ref q1), .val (.int r1), .val (.ref q2), .val (.int r2), .val (.int e1), .val (.int e2), .val (.ref b65), .unset, .unset] [(.int p2), (.ref x15), (.ref b65)])) rfl (by rw [hml]; rfl) (Steps.refl _) (argsL := [(.ref x15), (.int p2)]) (rest := []) (lenOf (pd_d7) rfl) rfl (by show 2 * 0 + _ ≤ _; exact Nat.le_of_eq rfl) (hb hby at_388) (fun _ _ => ⟨rfl, rfl, (Nat.le_of_ble_eq_true rfl), (Nat.le_of_ble_eq_true rfl)⟩)
    dsimp only [Pt.U, Pt.locs, Pt.cells, Pt.slots] at X68 l68 y68 z68 st68 hQ68
    subst l68 y68 z68
    obtain ⟨fe, fw, used, last, rfl, Nq68, Kq68, FS, I⟩ := hQ68
    have V_q1 := V_q1.keep Kq68 (ninS n_q1_fs (ninS n_q1_en (ninS n_q1_wd nin0)))
    have V_q2 := V_q2.keep Kq68 (ninS n_q2_fs (ninS n_q2_en (ninS n_q2_wd nin0)))
    have V_x14 := V_x14.keep Kq68 (ninS n_x14_fs (ninS n_x14_en (ninS n_x14_wd nin0)))
    have V_x15 := V_x15.keep Kq68 (ninS n_x15_fs (ninS n_x15_en (ninS n_x15_wd nin0)))
    have V_x16 := V_x16.keep Kq68 (ninS n_x16_fs (ninS n_x16_en (ninS n_x16_wd nin0)))
    have N68 := Fr.app N67 Nq68
    have Z68 : n0 ≤ T68.heap.size := Nat.le_trans Z67 Kq68.1
    refine own_tr (U' := (T68.setTop (mkF m 391 #[.val (.int i0), .val (.int i1), .val (.int i2), .val (.int i3), .val (.int i4), .val (.int i5), .val (.ref a), .val (.int bv), .val (.ref b), .val (.int p1), .val (.int pc), .val (.int p2), .val (.int fB), .val (.int fA), .val (.ref x14), .val (.ref x15), .val (.ref x16), .val (.ref q1), .val (.int r1), .val (.ref q2), .val (.int r2), .val (.int e1), .val (.int e2), .val (.ref b65), .unset, .unset] []))) st68 ?_
    exact own_t391 i0 i1 i2 i3 i4 i5 bv p1 pc p2 fB fA r1 r2 e1 e2 u0 u1 w0 w1 a b x14 x15 x16 q1 q2 b65 en wd fe fw used last 2 _ k0 k1 hx hZ hw hby hml hown hret hlk X68 rfl N68 Z68 FS I (by decide) g_fs g_en g_wd V_q1 V_q2 hr1 hr2 n_q1_fs n_q1_en n_q1_wd n_q2_fs n_q2_en n_q2_wd V_x16 n_x16_fs n_x16_en n_x16_wd hp2 (by rw [he1]; simp [own_M3, own_ins, own_eq, cB, Bool.and_assoc, Bool.or_assoc]) (by rw [he2]; simp [own_M3, own_ins, own_eq, cB, Bool.and_assoc, Bool.or_assoc])
set_option maxRecDepth 65536 in
set_option maxHeartbeats 40000000 in
theorem own_t199 {p : Program} {l : Launch} {e : Env} {s : State} {m : MethodId} {below : List Frame} {meth : Method} {c : Code} {Z : State} {a0 : Array Value} {T : State} {locs : List Loc} {n0 : Nat} (i0 i1 i2 i3 i4 i5 bv p1 pc p2 fB fA b0 b1 : Int32) (a b : Addr)  (hx : p.tables.exec = Jvm.exec) (hZ : Z.Warmed39 s.vm) (hw : ∀ d ∈ tables_1, d.before a0 Z = true) (hby : c.code = code) (hml : c.maxLocals = 26) (hown : s.vm.findClass "com/example/quorum/quorum/FailedStatesContainsPinLaw" = some m.cls) (hret : meth.sig.returnType = some .boolean) (hlk : meth.locks = false) {h : Heap} (X : Stand p l e room_1 s m #[(.int i0), (.int i1), (.int i2), (.int i3), (.int i4), (.int i5)] below meth c T locs 2 4) (eT : T.heap = h) (N : Fr n0 locs) (Zn : n0 ≤ h.size) (V_a : own_A Z h a .int 2 (own_L [i0, i1])) (V_b : own_A Z h b .int 2 (own_L [b0, b1])) (hp1 : ¬ p1 < 0) (hp2 : ¬ p2 < 0) :
    own_Ends p e s below (fun v _ L => v = some (.int 1) ∧ Fr n0 L) 32 256 (T.setTop (mkF m 199 #[.val (.int i0), .val (.int i1), .val (.int i2), .val (.int i3), .val (.int i4), .val (.int i5), .val (.ref a), .val (.int bv), .val (.ref b), .val (.int p1), .val (.int pc), .val (.int p2), .val (.int fB), .val (.int fA), .unset, .unset, .unset, .unset, .unset, .unset, .unset, .unset, .unset, .unset, .unset, .unset] [])) := by
  refine own_st (U' := (T.setTop (mkF m 200 #[.val (.int i0), .val (.int i1), .val (.int i2), .val (.int i3), .val (.int i4), .val (.int i5), .val (.ref a), .val (.int bv), .val (.ref b), .val (.int p1), .val (.int pc), .val (.int p2), .val (.int fB), .val (.int fA), .unset, .unset, .unset, .unset, .unset, .unset, .unset, .unset, .unset, .unset, .unset, .unset] [(.int (2 : Int32))]))) (fun _ k => XS.iconst X.here hx rfl (hb hby at_199) k) ?_
  obtain ⟨T69, h69, k69, X69, e69, E69, A69, st69⟩ := newP X hx hZ (hw _ (List.mem_of_getElem? (i := 0) rfl)) eT (g := (mkF m 200 #[.val (.int i0), .val (.int i1), .val (.int i2), .val (.int i3), .val (.int i4), .val (.int i5), .val (.ref a), .val (.int bv), .val (.ref b), .val (.int p1), .val (.int pc), .val (.int p2), .val (.int fB), .val (.int fA), .unset, .unset, .unset, .unset, .unset, .unset, .unset, .unset, .unset, .unset, .unset, .unset] [(.int (2 : Int32))])) rfl (hb hby at_200) rfl (by decide) (cap := 2) (by decide) (by decide) (by decide) (by decide)
  obtain ⟨b69, g69⟩ : ∃ z, z = h.size := ⟨_, rfl⟩
  rw [← g69] at A69 st69
  have ne_a_b69 : a ≠ b69 := Nat.ne_of_lt (Nat.lt_of_lt_of_eq V_a.lt g69.symm)
  have ne_b_b69 : b ≠ b69 := Nat.ne_of_lt (Nat.lt_of_lt_of_eq V_b.lt g69.symm)
  have g_b69 : n0 ≤ b69 := Nat.le_trans Zn (Nat.le_of_eq g69.symm)
  have V_a := V_a.ext E69
  have V_b := V_b.ext E69
  have Z69 : n0 ≤ h69.size := Nat.le_trans Zn E69.1
  have V_b69 : own_A Z h69 b69 .int 2 (fun _ => defaultValue .int) := own_A.new A69 (by decide)
  refine own_st (U' := (T69.setTop (mkF m 202 #[.val (.int i0), .val (.int i1), .val (.int i2), .val (.int i3), .val (.int i4), .val (.int i5), .val (.ref a), .val (.int bv), .val (.ref b), .val (.int p1), .val (.int pc), .val (.int p2), .val (.int fB), .val (.int fA), .unset, .unset, .unset, .unset, .unset, .unset, .unset, .unset, .unset, .unset, .unset, .unset] [(.ref b69)]))) st69 ?_
  refine own_st (U' := (T69.setTop (mkF m 203 #[.val (.int i0), .val (.int i1), .val (.int i2), .val (.int i3), .val (.int i4), .val (.int i5), .val (.ref a), .val (.int bv), .val (.ref b), .val (.int p1), .val (.int pc), .val (.int p2), .val (.int fB), .val (.int fA), .unset, .unset, .unset, .unset, .unset, .unset, .unset, .unset, .unset, .unset, .unset, .unset] [(.ref b69), (.ref b69)]))) (fun _ k => XS.dup X69.here hx rfl (hb hby at_202) rfl rfl k) ?_
  refine own_st (U' := (T69.setTop (mkF m 204 #[.val (.int i0), .val (.int i1), .val (.int i2), .val (.int i3), .val (.int i4), .val (.int i5), .val (.ref a), .val (.int bv), .val (.ref b), .val (.int p1), .val (.int pc), .val (.int p2), .val (.int fB), .val (.int fA), .unset, .unset, .unset, .unset, .unset, .unset, .unset, .unset, .unset, .unset, .unset, .unset] [(.int (0 : Int32)), (.ref b69), (.ref b69)]))) (fun _ k => XS.iconst X69.here hx rfl (hb hby at_203) k) ?_
  refine own_st (U' := (T69.setTop (mkF m 205 #[.val (.int i0), .val (.int i1), .val (.int i2), .val (.int i3), .val (.int i4), .val (.int i5), .val (.ref a), .val (.int bv), .val (.ref b), .val (.int p1), .val (.int pc), .val (.int p2), .val (.int fB), .val (.int fA), .unset, .unset, .unset, .unset, .unset, .unset, .unset, .unset, .unset, .unset, .unset, .unset] [(.int i0), (.int (0 : Int32)), (.ref b69), (.ref b69)]))) (fun _ k => XS.iloadN X69.here hx rfl (hb hby at_204) rfl k) ?_
  obtain ⟨T70, h70, X70, e70, W70, V70, st70⟩ := own_stI X69 hx hZ e69 V_b69 (j := (0 : Int32)) (i := 0) (by decide) rfl (by decide) (g := (mkF m 205 #[.val (.int i0), .val (.int i1), .val (.int i2), .val (.int i3), .val (.int i4), .val (.int i5), .val (.ref a), .val (.int bv), .val (.ref b), .val (.int p1), .val (.int pc), .val (.int p2), .val (.int fB), .val (.int fA), .unset, .unset, .unset, .unset, .unset, .unset, .unset, .unset, .unset, .unset, .unset, .unset] [(.int i0), (.int (0 : Int32)), (.ref b69), (.ref b69)])) rfl rfl (hb hby at_205)
  have V_a := V_a.other W70 ne_a_b69
  have V_b := V_b.other W70 ne_b_b69
  have V_b69 := V70
  have N70 := Fr.snoc X70 N g_b69
  have Z70 : n0 ≤ h70.size := Nat.le_trans Z69 (Nat.le_of_eq W70.size.symm)
  refine own_st (U' := (T70.setTop (mkF m 206 #[.val (.int i0), .val (.int i1), .val (.int i2), .val (.int i3), .val (.int i4), .val (.int i5), .val (.ref a), .val (.int bv), .val (.ref b), .val (.int p1), .val (.int pc), .val (.int p2), .val (.int fB), .val (.int fA), .unset, .unset, .unset, .unset, .unset, .unset, .unset, .unset, .unset, .unset, .unset, .unset] [(.ref b69)]))) st70 ?_
  refine own_st (U' := (T70.setTop (mkF m 207 #[.val (.int i0), .val (.int i1), .val (.int i2), .val (.int i3), .val (.int i4), .val (.int i5), .val (.ref a), .val (.int bv), .val (.ref b), .val (.int p1), .val (.int pc), .val (.int p2), .val (.int fB), .val (.int fA), .unset, .unset, .unset, .unset, .unset, .unset, .unset, .unset, .unset, .unset, .unset, .unset] [(.ref b69), (.ref b69)]))) (fun _ k => XS.dup X70.here hx rfl (hb hby at_206) rfl rfl k) ?_
  refine own_st (U' := (T70.setTop (mkF m 208 #[.val (.int i0), .val (.int i1), .val (.int i2), .val (.int i3), .val (.int i4), .val (.int i5), .val (.ref a), .val (.int bv), .val (.ref b), .val (.int p1), .val (.int pc), .val (.int p2), .val (.int fB), .val (.int fA), .unset, .unset, .unset, .unset, .unset, .unset, .unset, .unset, .unset, .unset, .unset, .unset] [(.int (1 : Int32)), (.ref b69), (.ref b69)]))) (fun _ k => XS.iconst X70.here hx rfl (hb hby at_207) k) ?_
  refine own_st (U' := (T70.setTop (mkF m 209 #[.val (.int i0), .val (.int i1), .val (.int i2), .val (.int i3), .val (.int i4), .val (.int i5), .val (.ref a), .val (.int bv), .val (.ref b), .val (.int p1), .val (.int pc), .val (.int p2), .val (.int fB), .val (.int fA), .unset, .unset, .unset, .unset, .unset, .unset, .unset, .unset, .unset, .unset, .unset, .unset] [(.int i1), (.int (1 : Int32)), (.ref b69), (.ref b69)]))) (fun _ k => XS.iloadN X70.here hx rfl (hb hby at_208) rfl k) ?_
  obtain ⟨T71, h71, X71, e71, W71, V71, st71⟩ := own_stI X70 hx hZ e70 V_b69 (j := (1 : Int32)) (i := 1) (by decide) rfl (by decide) (g := (mkF m 209 #[.val (.int i0), .val (.int i1), .val (.int i2), .val (.int i3), .val (.int i4), .val (.int i5), .val (.ref a), .val (.int bv), .val (.ref b), .val (.int p1), .val (.int pc), .val (.int p2), .val (.int fB), .val (.int fA), .unset, .unset, .unset, .unset, .unset, .unset, .unset, .unset, .unset, .unset, .unset, .unset] [(.int i1), (.int (1 : Int32)), (.ref b69), (.ref b69)])) rfl rfl (hb hby at_209)
  have V_a := V_a.other W71 ne_a_b69
  have V_b := V_b.other W71 ne_b_b69
  have V_b69 := V71
  have N71 := Fr.snoc X71 N70 g_b69
  have Z71 : n0 ≤ h71.size := Nat.le_trans Z70 (Nat.le_of_eq W71.size.symm)
  refine own_st (U' := (T71.setTop (mkF m 210 #[.val (.int i0), .val (.int i1), .val (.int i2), .val (.int i3), .val (.int i4), .val (.int i5), .val (.ref a), .val (.int bv), .val (.ref b), .val (.int p1), .val (.int pc), .val (.int p2), .val (.int fB), .val (.int fA), .unset, .unset, .unset, .unset, .unset, .unset, .unset, .unset, .unset, .unset, .unset, .unset] [(.ref b69)]))) st71 ?_
  have V_b69 : own_A Z h71 b69 .int 2 (own_L [i0, i1]) := V_b69.congr (by intro j hj; rcases j with _ | _ | j <;> first | rfl | omega)
  refine own_st (U' := (T71.setTop (mkF m 212 #[.val (.int i0), .val (.int i1), .val (.int i2), .val (.int i3), .val (.int i4), .val (.int i5), .val (.ref a), .val (.int bv), .val (.ref b), .val (.int p1), .val (.int pc), .val (.int p2), .val (.int fB), .val (.int fA), .val (.ref b69), .unset, .unset, .unset, .unset, .unset, .unset, .unset, .unset, .unset, .unset, .unset] []))) (fun _ k => XS.astore X71.here hx rfl (hb hby at_210) rfl rfl (l' := #[.val (.int i0), .val (.int i1), .val (.int i2), .val (.int i3), .val (.int i4), .val (.int i5), .val (.ref a), .val (.int bv), .val (.ref b), .val (.int p1), .val (.int pc), .val (.int p2), .val (.int fB), .val (.int fA), .val (.ref b69), .unset, .unset, .unset, .unset, .unset, .unset, .unset, .unset, .unset, .unset, .unset]) rfl k) ?_
  refine own_st (U' := (T71.setTop (mkF m 213 #[.val (.int i0), .val (.int i1), .val (.int i2), .val (.int i3), .val (.int i4), .val (.int i5), .val (.ref a), .val (.int bv), .val (.ref b), .val (.int p1), .val (.int pc), .val (.int p2), .val (.int fB), .val (.int fA), .val (.ref b69), .unset, .unset, .unset, .unset, .unset, .unset, .unset, .unset, .unset, .unset, .unset] [(.int (2 : Int32))]))) (fun _ k => XS.iconst X71.here hx rfl (hb hby at_212) k) ?_
  have V_x14 := V_b69
  obtain ⟨T72, h72, k72, X72, e72, E72, A72, st72⟩ := newP X71 hx hZ (hw _ (List.mem_of_getElem? (i := 0) rfl)) e71 (g := (mkF m 213 #[.val (.int i0), .val (.int i1), .val (.int i2), .val (.int i3), .val (.int i4), .val (.int i5), .val (.ref a), .val (.int bv), .val (.ref b), .val (.int p1), .val (.int pc), .val (.int p2), .val (.int fB), .val (.int fA), .val (.ref b69), .unset, .unset, .unset, .unset, .unset, .unset, .unset, .unset, .unset, .unset, .unset] [(.int (2 : Int32))])) rfl (hb hby at_213) rfl (by decide) (cap := 2) (by decide) (by decide) (by decide) (by decide)
  obtain ⟨b72, g72⟩ : ∃ z, z = h71.size := ⟨_, rfl⟩
  rw [← g72] at A72 st72
  have ne_a_b72 : a ≠ b72 := Nat.ne_of_lt (Nat.lt_of_lt_of_eq V_a.lt g72.symm)
  have ne_b_b72 : b ≠ b72 := Nat.ne_of_lt (Nat.lt_of_lt_of_eq V_b.lt g72.symm)
  have ne_b69_b72 : b69 ≠ b72 := Nat.ne_of_lt (Nat.lt_of_lt_of_eq V_x14.lt g72.symm)
  have g_b72 : n0 ≤ b72 := Nat.le_trans Z71 (Nat.le_of_eq g72.symm)
  have V_a := V_a.ext E72
  have V_b := V_b.ext E72
  have V_x14 := V_x14.ext E72
  have Z72 : n0 ≤ h72.size := Nat.le_trans Z71 E72.1
  have V_b72 : own_A Z h72 b72 .int 2 (fun _ => defaultValue .int) := own_A.new A72 (by decide)
  refine own_st (U' := (T72.setTop (mkF m 215 #[.val (.int i0), .val (.int i1), .val (.int i2), .val (.int i3), .val (.int i4), .val (.int i5), .val (.ref a), .val (.int bv), .val (.ref b), .val (.int p1), .val (.int pc), .val (.int p2), .val (.int fB), .val (.int fA), .val (.ref b69), .unset, .unset, .unset, .unset, .unset, .unset, .unset, .unset, .unset, .unset, .unset] [(.ref b72)]))) st72 ?_
  refine own_st (U' := (T72.setTop (mkF m 216 #[.val (.int i0), .val (.int i1), .val (.int i2), .val (.int i3), .val (.int i4), .val (.int i5), .val (.ref a), .val (.int bv), .val (.ref b), .val (.int p1), .val (.int pc), .val (.int p2), .val (.int fB), .val (.int fA), .val (.ref b69), .unset, .unset, .unset, .unset, .unset, .unset, .unset, .unset, .unset, .unset, .unset] [(.ref b72), (.ref b72)]))) (fun _ k => XS.dup X72.here hx rfl (hb hby at_215) rfl rfl k) ?_
  refine own_st (U' := (T72.setTop (mkF m 217 #[.val (.int i0), .val (.int i1), .val (.int i2), .val (.int i3), .val (.int i4), .val (.int i5), .val (.ref a), .val (.int bv), .val (.ref b), .val (.int p1), .val (.int pc), .val (.int p2), .val (.int fB), .val (.int fA), .val (.ref b69), .unset, .unset, .unset, .unset, .unset, .unset, .unset, .unset, .unset, .unset, .unset] [(.int (0 : Int32)), (.ref b72), (.ref b72)]))) (fun _ k => XS.iconst X72.here hx rfl (hb hby at_216) k) ?_
  refine own_st (U' := (T72.setTop (mkF m 219 #[.val (.int i0), .val (.int i1), .val (.int i2), .val (.int i3), .val (.int i4), .val (.int i5), .val (.ref a), .val (.int bv), .val (.ref b), .val (.int p1), .val (.int pc), .val (.int p2), .val (.int fB), .val (.int fA), .val (.ref b69), .unset, .unset, .unset, .unset, .unset, .unset, .unset, .unset, .unset, .unset, .unset] [(.ref b), (.int (0 : Int32)), (.ref b72), (.ref b72)]))) (fun _ k => XS.aload X72.here hx rfl (hb hby at_217) rfl rfl k) ?_
  refine own_st (U' := (T72.setTop (mkF m 220 #[.val (.int i0), .val (.int i1), .val (.int i2), .val (.int i3), .val (.int i4), .val (.int i5), .val (.ref a), .val (.int bv), .val (.ref b), .val (.int p1), .val (.int pc), .val (.int p2), .val (.int fB), .val (.int fA), .val (.ref b69), .unset, .unset, .unset, .unset, .unset, .unset, .unset, .unset, .unset, .unset, .unset] [(.int (0 : Int32)), (.ref b), (.int (0 : Int32)), (.ref b72), (.ref b72)]))) (fun _ k => XS.iconst X72.here hx rfl (hb hby at_219) k) ?_
  refine own_st (U' := (T72.setTop (mkF m 221 #[.val (.int i0), .val (.int i1), .val (.int i2), .val (.int i3), .val (.int i4), .val (.int i5), .val (.ref a), .val (.int bv), .val (.ref b), .val (.int p1), .val (.int pc), .val (.int p2), .val (.int fB), .val (.int fA), .val (.ref b69), .unset, .unset, .unset, .unset, .unset, .unset, .unset, .unset, .unset, .unset, .unset] [(.int b0), (.int (0 : Int32)), (.ref b72), (.ref b72)]))) (own_ldI X72 hx hZ e72 V_b (j := (0 : Int32)) (i := 0) (by decide) rfl (by decide) (v := (.int b0)) rfl (g := (mkF m 220 #[.val (.int i0), .val (.int i1), .val (.int i2), .val (.int i3), .val (.int i4), .val (.int i5), .val (.ref a), .val (.int bv), .val (.ref b), .val (.int p1), .val (.int pc), .val (.int p2), .val (.int fB), .val (.int fA), .val (.ref b69), .unset, .unset, .unset, .unset, .unset, .unset, .unset, .unset, .unset, .unset, .unset] [(.int (0 : Int32)), (.ref b), (.int (0 : Int32)), (.ref b72), (.ref b72)])) rfl rfl (hb hby at_220)) ?_
  obtain ⟨T73, h73, X73, e73, W73, V73, st73⟩ := own_stI X72 hx hZ e72 V_b72 (j := (0 : Int32)) (i := 0) (by decide) rfl (by decide) (g := (mkF m 221 #[.val (.int i0), .val (.int i1), .val (.int i2), .val (.int i3), .val (.int i4), .val (.int i5), .val (.ref a), .val (.int bv), .val (.ref b), .val (.int p1), .val (.int pc), .val (.int p2), .val (.int fB), .val (.int fA), .val (.ref b69), .unset, .unset, .unset, .unset, .unset, .unset, .unset, .unset, .unset, .unset, .unset] [(.int b0), (.int (0 : Int32)), (.ref b72), (.ref b72)])) rfl rfl (hb hby at_221)
  have V_a := V_a.other W73 ne_a_b72
  have V_b := V_b.other W73 ne_b_b72
  have V_x14 := V_x14.other W73 ne_b69_b72
  have V_b72 := V73
  have N73 := Fr.snoc X73 N71 g_b72
  have Z73 : n0 ≤ h73.size := Nat.le_trans Z72 (Nat.le_of_eq W73.size.symm)
  refine own_st (U' := (T73.setTop (mkF m 222 #[.val (.int i0), .val (.int i1), .val (.int i2), .val (.int i3), .val (.int i4), .val (.int i5), .val (.ref a), .val (.int bv), .val (.ref b), .val (.int p1), .val (.int pc), .val (.int p2), .val (.int fB), .val (.int fA), .val (.ref b69), .unset, .unset, .unset, .unset, .unset, .unset, .unset, .unset, .unset, .unset, .unset] [(.ref b72)]))) st73 ?_
  refine own_st (U' := (T73.setTop (mkF m 223 #[.val (.int i0), .val (.int i1), .val (.int i2), .val (.int i3), .val (.int i4), .val (.int i5), .val (.ref a), .val (.int bv), .val (.ref b), .val (.int p1), .val (.int pc), .val (.int p2), .val (.int fB), .val (.int fA), .val (.ref b69), .unset, .unset, .unset, .unset, .unset, .unset, .unset, .unset, .unset, .unset, .unset] [(.ref b72), (.ref b72)]))) (fun _ k => XS.dup X73.here hx rfl (hb hby at_222) rfl rfl k) ?_
  refine own_st (U' := (T73.setTop (mkF m 224 #[.val (.int i0), .val (.int i1), .val (.int i2), .val (.int i3), .val (.int i4), .val (.int i5), .val (.ref a), .val (.int bv), .val (.ref b), .val (.int p1), .val (.int pc), .val (.int p2), .val (.int fB), .val (.int fA), .val (.ref b69), .unset, .unset, .unset, .unset, .unset, .unset, .unset, .unset, .unset, .unset, .unset] [(.int (1 : Int32)), (.ref b72), (.ref b72)]))) (fun _ k => XS.iconst X73.here hx rfl (hb hby at_223) k) ?_
  refine own_st (U' := (T73.setTop (mkF m 226 #[.val (.int i0), .val (.int i1), .val (.int i2), .val (.int i3), .val (.int i4), .val (.int i5), .val (.ref a), .val (.int bv), .val (.ref b), .val (.int p1), .val (.int pc), .val (.int p2), .val (.int fB), .val (.int fA), .val (.ref b69), .unset, .unset, .unset, .unset, .unset, .unset, .unset, .unset, .unset, .unset, .unset] [(.ref b), (.int (1 : Int32)), (.ref b72), (.ref b72)]))) (fun _ k => XS.aload X73.here hx rfl (hb hby at_224) rfl rfl k) ?_
  refine own_st (U' := (T73.setTop (mkF m 227 #[.val (.int i0), .val (.int i1), .val (.int i2), .val (.int i3), .val (.int i4), .val (.int i5), .val (.ref a), .val (.int bv), .val (.ref b), .val (.int p1), .val (.int pc), .val (.int p2), .val (.int fB), .val (.int fA), .val (.ref b69), .unset, .unset, .unset, .unset, .unset, .unset, .unset, .unset, .unset, .unset, .unset] [(.int (1 : Int32)), (.ref b), (.int (1 : Int32)), (.ref b72), (.ref b72)]))) (fun _ k => XS.iconst X73.here hx rfl (hb hby at_226) k) ?_
  refine own_st (U' := (T73.setTop (mkF m 228 #[.val (.int i0), .val (.int i1), .val (.int i2), .val (.int i3), .val (.int i4), .val (.int i5), .val (.ref a), .val (.int bv), .val (.ref b), .val (.int p1), .val (.int pc), .val (.int p2), .val (.int fB), .val (.int fA), .val (.ref b69), .unset, .unset, .unset, .unset, .unset, .unset, .unset, .unset, .unset, .unset, .unset] [(.int b1), (.int (1 : Int32)), (.ref b72), (.ref b72)]))) (own_ldI X73 hx hZ e73 V_b (j := (1 : Int32)) (i := 1) (by decide) rfl (by decide) (v := (.int b1)) rfl (g := (mkF m 227 #[.val (.int i0), .val (.int i1), .val (.int i2), .val (.int i3), .val (.int i4), .val (.int i5), .val (.ref a), .val (.int bv), .val (.ref b), .val (.int p1), .val (.int pc), .val (.int p2), .val (.int fB), .val (.int fA), .val (.ref b69), .unset, .unset, .unset, .unset, .unset, .unset, .unset, .unset, .unset, .unset, .unset] [(.int (1 : Int32)), (.ref b), (.int (1 : Int32)), (.ref b72), (.ref b72)])) rfl rfl (hb hby at_227)) ?_
  obtain ⟨T74, h74, X74, e74, W74, V74, st74⟩ := own_stI X73 hx hZ e73 V_b72 (j := (1 : Int32)) (i := 1) (by decide) rfl (by decide) (g := (mkF m 228 #[.val (.int i0), .val (.int i1), .val (.int i2), .val (.int i3), .val (.int i4), .val (.int i5), .val (.ref a), .val (.int bv), .val (.ref b), .val (.int p1), .val (.int pc), .val (.int p2), .val (.int fB), .val (.int fA), .val (.ref b69), .unset, .unset, .unset, .unset, .unset, .unset, .unset, .unset, .unset, .unset, .unset] [(.int b1), (.int (1 : Int32)), (.ref b72), (.ref b72)])) rfl rfl (hb hby at_228)
  have V_a := V_a.other W74 ne_a_b72
  have V_b := V_b.other W74 ne_b_b72
  have V_x14 := V_x14.other W74 ne_b69_b72
  have V_b72 := V74
  have N74 := Fr.snoc X74 N73 g_b72
  have Z74 : n0 ≤ h74.size := Nat.le_trans Z73 (Nat.le_of_eq W74.size.symm)
  refine own_st (U' := (T74.setTop (mkF m 229 #[.val (.int i0), .val (.int i1), .val (.int i2), .val (.int i3), .val (.int i4), .val (.int i5), .val (.ref a), .val (.int bv), .val (.ref b), .val (.int p1), .val (.int pc), .val (.int p2), .val (.int fB), .val (.int fA), .val (.ref b69), .unset, .unset, .unset, .unset, .unset, .unset, .unset, .unset, .unset, .unset, .unset] [(.ref b72)]))) st74 ?_
  have V_b72 : own_A Z h74 b72 .int 2 (own_L [b0, b1]) := V_b72.congr (by intro j hj; rcases j with _ | _ | j <;> first | rfl | omega)
  have V_x15 := V_b72
  refine own_st (U' := (T74.setTop (mkF m 231 #[.val (.int i0), .val (.int i1), .val (.int i2), .val (.int i3), .val (.int i4), .val (.int i5), .val (.ref a), .val (.int bv), .val (.ref b), .val (.int p1), .val (.int pc), .val (.int p2), .val (.int fB), .val (.int fA), .val (.ref b69), .val (.ref b72), .unset, .unset, .unset, .unset, .unset, .unset, .unset, .unset, .unset, .unset] []))) (fun _ k => XS.astore X74.here hx rfl (hb hby at_229) rfl rfl (l' := #[.val (.int i0), .val (.int i1), .val (.int i2), .val (.int i3), .val (.int i4), .val (.int i5), .val (.ref a), .val (.int bv), .val (.ref b), .val (.int p1), .val (.int pc), .val (.int p2), .val (.int fB), .val (.int fA), .val (.ref b69), .val (.ref b72), .unset, .unset, .unset, .unset, .unset, .unset, .unset, .unset, .unset, .unset]) rfl k) ?_
  refine own_st (U' := (T74.setTop (mkF m 232 #[.val (.int i0), .val (.int i1), .val (.int i2), .val (.int i3), .val (.int i4), .val (.int i5), .val (.ref a), .val (.int bv), .val (.ref b), .val (.int p1), .val (.int pc), .val (.int p2), .val (.int fB), .val (.int fA), .val (.ref b69), .val (.ref b72), .unset, .unset, .unset, .unset, .unset, .unset, .unset, .unset, .unset, .unset] [(.int (2 : Int32))]))) (fun _ k => XS.iconst X74.here hx rfl (hb hby at_231) k) ?_
  obtain ⟨T75, h75, k75, X75, e75, E75, A75, st75⟩ := newP X74 hx hZ (hw _ (List.mem_of_getElem? (i := 0) rfl)) e74 (g := (mkF m 232 #[.val (.int i0), .val (.int i1), .val (.int i2), .val (.int i3), .val (.int i4), .val (.int i5), .val (.ref a), .val (.int bv), .val (.ref b), .val (.int p1), .val (.int pc), .val (.int p2), .val (.int fB), .val (.int fA), .val (.ref b69), .val (.ref b72), .unset, .unset, .unset, .unset, .unset, .unset, .unset, .unset, .unset, .unset] [(.int (2 : Int32))])) rfl (hb hby at_232) rfl (by decide) (cap := 2) (by decide) (by decide) (by decide) (by decide)
  obtain ⟨b75, g75⟩ : ∃ z, z = h74.size := ⟨_, rfl⟩
  rw [← g75] at A75 st75
  have ne_a_b75 : a ≠ b75 := Nat.ne_of_lt (Nat.lt_of_lt_of_eq V_a.lt g75.symm)
  have ne_b_b75 : b ≠ b75 := Nat.ne_of_lt (Nat.lt_of_lt_of_eq V_b.lt g75.symm)
  have ne_b69_b75 : b69 ≠ b75 := Nat.ne_of_lt (Nat.lt_of_lt_of_eq V_x14.lt g75.symm)
  have ne_b72_b75 : b72 ≠ b75 := Nat.ne_of_lt (Nat.lt_of_lt_of_eq V_x15.lt g75.symm)
  have g_b75 : n0 ≤ b75 := Nat.le_trans Z74 (Nat.le_of_eq g75.symm)
  have V_a := V_a.ext E75
  have V_b := V_b.ext E75
  have V_x14 := V_x14.ext E75
  have V_x15 := V_x15.ext E75
  have Z75 : n0 ≤ h75.size := Nat.le_trans Z74 E75.1
  have V_b75 : own_A Z h75 b75 .int 2 (fun _ => defaultValue .int) := own_A.new A75 (by decide)
  refine own_st (U' := (T75.setTop (mkF m 234 #[.val (.int i0), .val (.int i1), .val (.int i2), .val (.int i3), .val (.int i4), .val (.int i5), .val (.ref a), .val (.int bv), .val (.ref b), .val (.int p1), .val (.int pc), .val (.int p2), .val (.int fB), .val (.int fA), .val (.ref b69), .val (.ref b72), .unset, .unset, .unset, .unset, .unset, .unset, .unset, .unset, .unset, .unset] [(.ref b75)]))) st75 ?_
  refine own_st (U' := (T75.setTop (mkF m 235 #[.val (.int i0), .val (.int i1), .val (.int i2), .val (.int i3), .val (.int i4), .val (.int i5), .val (.ref a), .val (.int bv), .val (.ref b), .val (.int p1), .val (.int pc), .val (.int p2), .val (.int fB), .val (.int fA), .val (.ref b69), .val (.ref b72), .unset, .unset, .unset, .unset, .unset, .unset, .unset, .unset, .unset, .unset] [(.ref b75), (.ref b75)]))) (fun _ k => XS.dup X75.here hx rfl (hb hby at_234) rfl rfl k) ?_
  refine own_st (U' := (T75.setTop (mkF m 236 #[.val (.int i0), .val (.int i1), .val (.int i2), .val (.int i3), .val (.int i4), .val (.int i5), .val (.ref a), .val (.int bv), .val (.ref b), .val (.int p1), .val (.int pc), .val (.int p2), .val (.int fB), .val (.int fA), .val (.ref b69), .val (.ref b72), .unset, .unset, .unset, .unset, .unset, .unset, .unset, .unset, .unset, .unset] [(.int (0 : Int32)), (.ref b75), (.ref b75)]))) (fun _ k => XS.iconst X75.here hx rfl (hb hby at_235) k) ?_
  refine own_st (U' := (T75.setTop (mkF m 237 #[.val (.int i0), .val (.int i1), .val (.int i2), .val (.int i3), .val (.int i4), .val (.int i5), .val (.ref a), .val (.int bv), .val (.ref b), .val (.int p1), .val (.int pc), .val (.int p2), .val (.int fB), .val (.int fA), .val (.ref b69), .val (.ref b72), .unset, .unset, .unset, .unset, .unset, .unset, .unset, .unset, .unset, .unset] [(.int i0), (.int (0 : Int32)), (.ref b75), (.ref b75)]))) (fun _ k => XS.iloadN X75.here hx rfl (hb hby at_236) rfl k) ?_
  obtain ⟨T76, h76, X76, e76, W76, V76, st76⟩ := own_stI X75 hx hZ e75 V_b75 (j := (0 : Int32)) (i := 0) (by decide) rfl (by decide) (g := (mkF m 237 #[.val (.int i0), .val (.int i1), .val (.int i2), .val (.int i3), .val (.int i4), .val (.int i5), .val (.ref a), .val (.int bv), .val (.ref b), .val (.int p1), .val (.int pc), .val (.int p2), .val (.int fB), .val (.int fA), .val (.ref b69), .val (.ref b72), .unset, .unset, .unset, .unset, .unset, .unset, .unset, .unset, .unset, .unset] [(.int i0), (.int (0 : Int32)), (.ref b75), (.ref b75)])) rfl rfl (hb hby at_237)
  have V_a := V_a.other W76 ne_a_b75
  have V_b := V_b.other W76 ne_b_b75
  have V_x14 := V_x14.other W76 ne_b69_b75
  have V_x15 := V_x15.other W76 ne_b72_b75
  have V_b75 := V76
  have N76 := Fr.snoc X76 N74 g_b75
  have Z76 : n0 ≤ h76.size := Nat.le_trans Z75 (Nat.le_of_eq W76.size.symm)
  refine own_st (U' := (T76.setTop (mkF m 238 #[.val (.int i0), .val (.int i1), .val (.int i2), .val (.int i3), .val (.int i4), .val (.int i5), .val (.ref a), .val (.int bv), .val (.ref b), .val (.int p1), .val (.int pc), .val (.int p2), .val (.int fB), .val (.int fA), .val (.ref b69), .val (.ref b72), .unset, .unset, .unset, .unset, .unset, .unset, .unset, .unset, .unset, .unset] [(.ref b75)]))) st76 ?_
  refine own_st (U' := (T76.setTop (mkF m 239 #[.val (.int i0), .val (.int i1), .val (.int i2), .val (.int i3), .val (.int i4), .val (.int i5), .val (.ref a), .val (.int bv), .val (.ref b), .val (.int p1), .val (.int pc), .val (.int p2), .val (.int fB), .val (.int fA), .val (.ref b69), .val (.ref b72), .unset, .unset, .unset, .unset, .unset, .unset, .unset, .unset, .unset, .unset] [(.ref b75), (.ref b75)]))) (fun _ k => XS.dup X76.here hx rfl (hb hby at_238) rfl rfl k) ?_
  refine own_st (U' := (T76.setTop (mkF m 240 #[.val (.int i0), .val (.int i1), .val (.int i2), .val (.int i3), .val (.int i4), .val (.int i5), .val (.ref a), .val (.int bv), .val (.ref b), .val (.int p1), .val (.int pc), .val (.int p2), .val (.int fB), .val (.int fA), .val (.ref b69), .val (.ref b72), .unset, .unset, .unset, .unset, .unset, .unset, .unset, .unset, .unset, .unset] [(.int (1 : Int32)), (.ref b75), (.ref b75)]))) (fun _ k => XS.iconst X76.here hx rfl (hb hby at_239) k) ?_
  refine own_st (U' := (T76.setTop (mkF m 241 #[.val (.int i0), .val (.int i1), .val (.int i2), .val (.int i3), .val (.int i4), .val (.int i5), .val (.ref a), .val (.int bv), .val (.ref b), .val (.int p1), .val (.int pc), .val (.int p2), .val (.int fB), .val (.int fA), .val (.ref b69), .val (.ref b72), .unset, .unset, .unset, .unset, .unset, .unset, .unset, .unset, .unset, .unset] [(.int i1), (.int (1 : Int32)), (.ref b75), (.ref b75)]))) (fun _ k => XS.iloadN X76.here hx rfl (hb hby at_240) rfl k) ?_
  obtain ⟨T77, h77, X77, e77, W77, V77, st77⟩ := own_stI X76 hx hZ e76 V_b75 (j := (1 : Int32)) (i := 1) (by decide) rfl (by decide) (g := (mkF m 241 #[.val (.int i0), .val (.int i1), .val (.int i2), .val (.int i3), .val (.int i4), .val (.int i5), .val (.ref a), .val (.int bv), .val (.ref b), .val (.int p1), .val (.int pc), .val (.int p2), .val (.int fB), .val (.int fA), .val (.ref b69), .val (.ref b72), .unset, .unset, .unset, .unset, .unset, .unset, .unset, .unset, .unset, .unset] [(.int i1), (.int (1 : Int32)), (.ref b75), (.ref b75)])) rfl rfl (hb hby at_241)
  have V_a := V_a.other W77 ne_a_b75
  have V_b := V_b.other W77 ne_b_b75
  have V_x14 := V_x14.other W77 ne_b69_b75
  have V_x15 := V_x15.other W77 ne_b72_b75
  have V_b75 := V77
  have N77 := Fr.snoc X77 N76 g_b75
  have Z77 : n0 ≤ h77.size := Nat.le_trans Z76 (Nat.le_of_eq W77.size.symm)
  refine own_st (U' := (T77.setTop (mkF m 242 #[.val (.int i0), .val (.int i1), .val (.int i2), .val (.int i3), .val (.int i4), .val (.int i5), .val (.ref a), .val (.int bv), .val (.ref b), .val (.int p1), .val (.int pc), .val (.int p2), .val (.int fB), .val (.int fA), .val (.ref b69), .val (.ref b72), .unset, .unset, .unset, .unset, .unset, .unset, .unset, .unset, .unset, .unset] [(.ref b75)]))) st77 ?_
  have V_b75 : own_A Z h77 b75 .int 2 (own_L [i0, i1]) := V_b75.congr (by intro j hj; rcases j with _ | _ | j <;> first | rfl | omega)
  have V_x16 := V_b75
  refine own_st (U' := (T77.setTop (mkF m 244 #[.val (.int i0), .val (.int i1), .val (.int i2), .val (.int i3), .val (.int i4), .val (.int i5), .val (.ref a), .val (.int bv), .val (.ref b), .val (.int p1), .val (.int pc), .val (.int p2), .val (.int fB), .val (.int fA), .val (.ref b69), .val (.ref b72), .val (.ref b75), .unset, .unset, .unset, .unset, .unset, .unset, .unset, .unset, .unset] []))) (fun _ k => XS.astore X77.here hx rfl (hb hby at_242) rfl rfl (l' := #[.val (.int i0), .val (.int i1), .val (.int i2), .val (.int i3), .val (.int i4), .val (.int i5), .val (.ref a), .val (.int bv), .val (.ref b), .val (.int p1), .val (.int pc), .val (.int p2), .val (.int fB), .val (.int fA), .val (.ref b69), .val (.ref b72), .val (.ref b75), .unset, .unset, .unset, .unset, .unset, .unset, .unset, .unset, .unset]) rfl k) ?_
  refine own_st (U' := (T77.setTop (mkF m 246 #[.val (.int i0), .val (.int i1), .val (.int i2), .val (.int i3), .val (.int i4), .val (.int i5), .val (.ref a), .val (.int bv), .val (.ref b), .val (.int p1), .val (.int pc), .val (.int p2), .val (.int fB), .val (.int fA), .val (.ref b69), .val (.ref b72), .val (.ref b75), .unset, .unset, .unset, .unset, .unset, .unset, .unset, .unset, .unset] [(.int i5)]))) (fun _ k => XS.iload X77.here hx rfl (hb hby at_244) rfl k) ?_
  refine own_st (U' := (T77.setTop (mkF m 248 #[.val (.int i0), .val (.int i1), .val (.int i2), .val (.int i3), .val (.int i4), .val (.int i5), .val (.ref a), .val (.int bv), .val (.ref b), .val (.int p1), .val (.int pc), .val (.int p2), .val (.int fB), .val (.int fA), .val (.ref b69), .val (.ref b72), .val (.ref b75), .unset, .unset, .unset, .unset, .unset, .unset, .unset, .unset, .unset] [(.int (6 : Int32)), (.int i5)]))) (fun _ k => XS.bipush X77.here hx rfl (hb hby at_246) k) ?_
  refine own_st (U' := (T77.setTop (mkF m 249 #[.val (.int i0), .val (.int i1), .val (.int i2), .val (.int i3), .val (.int i4), .val (.int i5), .val (.ref a), .val (.int bv), .val (.ref b), .val (.int p1), .val (.int pc), .val (.int p2), .val (.int fB), .val (.int fA), .val (.ref b69), .val (.ref b72), .val (.ref b75), .unset, .unset, .unset, .unset, .unset, .unset, .unset, .unset, .unset] [(.int ((i5.toUInt32 >>> ((6 : Int32) &&& 31).toUInt32).toInt32))]))) (fun _ k => XS.iushr X77.here hx rfl (hb hby at_248) rfl k) ?_
  refine own_st (U' := (T77.setTop (mkF m 250 #[.val (.int i0), .val (.int i1), .val (.int i2), .val (.int i3), .val (.int i4), .val (.int i5), .val (.ref a), .val (.int bv), .val (.ref b), .val (.int p1), .val (.int pc), .val (.int p2), .val (.int fB), .val (.int fA), .val (.ref b69), .val (.ref b72), .val (.ref b75), .unset, .unset, .unset, .unset, .unset, .unset, .unset, .unset, .unset] [(.int (3 : Int32)), (.int ((i5.toUInt32 >>> ((6 : Int32) &&& 31).toUInt32).toInt32))]))) (fun _ k => XS.iconst X77.here hx rfl (hb hby at_249) k) ?_
  refine own_st (U' := (T77.setTop (mkF m 251 #[.val (.int i0), .val (.int i1), .val (.int i2), .val (.int i3), .val (.int i4), .val (.int i5), .val (.ref a), .val (.int bv), .val (.ref b), .val (.int p1), .val (.int pc), .val (.int p2), .val (.int fB), .val (.int fA), .val (.ref b69), .val (.ref b72), .val (.ref b75), .unset, .unset, .unset, .unset, .unset, .unset, .unset, .unset, .unset] [(.int (((i5.toUInt32 >>> ((6 : Int32) &&& 31).toUInt32).toInt32) &&& (3 : Int32)))]))) (fun _ k => XS.iand X77.here hx rfl (hb hby at_250) rfl k) ?_
  refine own_st (U' := (T77.setTop (mkF m 253 #[.val (.int i0), .val (.int i1), .val (.int i2), .val (.int i3), .val (.int i4), .val (.int i5), .val (.ref a), .val (.int bv), .val (.ref b), .val (.int p1), .val (.int pc), .val (.int p2), .val (.int fB), .val (.int fA), .val (.ref b69), .val (.ref b72), .val (.ref b75), .unset, .unset, .unset, .unset, .unset, .unset, .unset, .unset, .unset] [(.ref a), (.int (((i5.toUInt32 >>> ((6 : Int32) &&& 31).toUInt32).toInt32) &&& (3 : Int32)))]))) (fun _ k => XS.aload X77.here hx rfl (hb hby at_251) rfl rfl k) ?_
  refine own_st (U' := (T77.setTop (mkF m 255 #[.val (.int i0), .val (.int i1), .val (.int i2), .val (.int i3), .val (.int i4), .val (.int i5), .val (.ref a), .val (.int bv), .val (.ref b), .val (.int p1), .val (.int pc), .val (.int p2), .val (.int fB), .val (.int fA), .val (.ref b69), .val (.ref b72), .val (.ref b75), .unset, .unset, .unset, .unset, .unset, .unset, .unset, .unset, .unset] [(.ref b), (.ref a), (.int (((i5.toUInt32 >>> ((6 : Int32) &&& 31).toUInt32).toInt32) &&& (3 : Int32)))]))) (fun _ k => XS.aload X77.here hx rfl (hb hby at_253) rfl rfl k) ?_
  refine own_st (U' := (T77.setTop (mkF m 257 #[.val (.int i0), .val (.int i1), .val (.int i2), .val (.int i3), .val (.int i4), .val (.int i5), .val (.ref a), .val (.int bv), .val (.ref b), .val (.int p1), .val (.int pc), .val (.int p2), .val (.int fB), .val (.int fA), .val (.ref b69), .val (.ref b72), .val (.ref b75), .unset, .unset, .unset, .unset, .unset, .unset, .unset, .unset, .unset] [(.int i4), (.ref b), (.ref a), (.int (((i5.toUInt32 >>> ((6 : Int32) &&& 31).toUInt32).toInt32) &&& (3 : Int32)))]))) (fun _ k => XS.iload X77.here hx rfl (hb hby at_255) rfl k) ?_
  obtain ⟨_, _, ⟨T78, L78, k78, n78⟩, -, X78, ⟨Lc78, hQ78, l78, y78, z78⟩, st78⟩ := Jvm.LawKit.callS X77 hx (y := (⟨"com/example/quorum/quorum/FailedStatesContainsPinLaw", "pickKey", "(I[I[II)[I"⟩ : MethodName)) hown (mvT hZ (hw _ (List.mem_of_getElem? (i := 2) rfl))) (mvT hZ (hw _ (List.mem_of_getElem? (i := 3) rfl))) (mvT hZ (hw _ (List.mem_of_getElem? (i := 4) rfl))) (mvT hZ (hw _ (List.mem_of_getElem? (i := 5) rfl))) (by decide) (backOf (W := 0) (rmPK l Z a0 hw [] (((i5.toUInt32 >>> ((6 : Int32) &&& 31).toUInt32).toInt32) &&& (3 : Int32)) a b i4 i0 i1 b0 b1 h77 n0 Z77 V_a V_b) hZ (hw _ (List.mem_of_getElem? (i := 5) rfl)) (hw _ (List.mem_of_getElem? (i := 4) rfl)) (by decide) (by decide)) (g := (mkF m 257 #[.val (.int i0), .val (.int i1), .val (.int i2), .val (.int i3), .val (.int i4), .val (.int i5), .val (.ref a), .val (.int bv), .val (.ref b), .val (.int p1), .val (.int pc), .val (.int p2), .val (.int fB), .val (.int fA), .val (.ref b69), .val (.ref b72), .val (.ref b75), .unset, .unset, .unset, .unset, .unset, .unset, .unset, .unset, .unset] [(.int i4), (.ref b), (.ref a), (.int (((i5.toUInt32 >>> ((6 : Int32) &&& 31).toUInt32).toInt32) &&& (3 : Int32)))])) rfl (by rw [hml]; rfl) (argsL := [(.int (((i5.toUInt32 >>> ((6 : Int32) &&& 31).toUInt32).toInt32) &&& (3 : Int32))), (.ref a), (.ref b), (.int i4)]) (rest := []) (lenOf (pd_d1) rfl) rfl (by show 2 * 0 + _ ≤ _; exact Nat.le_of_eq rfl) (hb hby at_257) (fun _ _ => ⟨rfl, e77, (Nat.le_of_ble_eq_true rfl), (Nat.le_of_ble_eq_true rfl)⟩)
  dsimp only [Pt.U, Pt.locs, Pt.cells, Pt.slots] at X78 l78 y78 z78 st78 hQ78
  subst l78 y78 z78
  obtain ⟨q1, rfl, Nq78, Kq78, sz78, V_q1⟩ := hQ78
  have V_a := V_a.keep Kq78 nin0
  have V_b := V_b.keep Kq78 nin0
  have V_x14 := V_x14.keep Kq78 nin0
  have V_x15 := V_x15.keep Kq78 nin0
  have V_x16 := V_x16.keep Kq78 nin0
  have N78 := Fr.app N77 Nq78
  have Z78 : n0 ≤ T78.heap.size := Nat.le_trans Z77 Kq78.1
  refine own_st (U' := (T78.setTop (mkF m 260 #[.val (.int i0), .val (.int i1), .val (.int i2), .val (.int i3), .val (.int i4), .val (.int i5), .val (.ref a), .val (.int bv), .val (.ref b), .val (.int p1), .val (.int pc), .val (.int p2), .val (.int fB), .val (.int fA), .val (.ref b69), .val (.ref b72), .val (.ref b75), .unset, .unset, .unset, .unset, .unset, .unset, .unset, .unset, .unset] [(.ref q1)]))) st78 ?_
  refine own_st (U' := (T78.setTop (mkF m 262 #[.val (.int i0), .val (.int i1), .val (.int i2), .val (.int i3), .val (.int i4), .val (.int i5), .val (.ref a), .val (.int bv), .val (.ref b), .val (.int p1), .val (.int pc), .val (.int p2), .val (.int fB), .val (.int fA), .val (.ref b69), .val (.ref b72), .val (.ref b75), .val (.ref q1), .unset, .unset, .unset, .unset, .unset, .unset, .unset, .unset] []))) (fun _ k => XS.astore X78.here hx rfl (hb hby at_260) rfl rfl (l' := #[.val (.int i0), .val (.int i1), .val (.int i2), .val (.int i3), .val (.int i4), .val (.int i5), .val (.ref a), .val (.int bv), .val (.ref b), .val (.int p1), .val (.int pc), .val (.int p2), .val (.int fB), .val (.int fA), .val (.ref b69), .val (.ref b72), .val (.ref b75), .val (.ref q1), .unset, .unset, .unset, .unset, .unset, .unset, .unset, .unset]) rfl k) ?_
  refine own_st (U' := (T78.setTop (mkF m 264 #[.val (.int i0), .val (.int i1), .val (.int i2), .val (.int i3), .val (.int i4), .val (.int i5), .val (.ref a), .val (.int bv), .val (.ref b), .val (.int p1), .val (.int pc), .val (.int p2), .val (.int fB), .val (.int fA), .val (.ref b69), .val (.ref b72), .val (.ref b75), .val (.ref q1), .unset, .unset, .unset, .unset, .unset, .unset, .unset, .unset] [(.int i5)]))) (fun _ k => XS.iload X78.here hx rfl (hb hby at_262) rfl k) ?_
  refine own_st (U' := (T78.setTop (mkF m 266 #[.val (.int i0), .val (.int i1), .val (.int i2), .val (.int i3), .val (.int i4), .val (.int i5), .val (.ref a), .val (.int bv), .val (.ref b), .val (.int p1), .val (.int pc), .val (.int p2), .val (.int fB), .val (.int fA), .val (.ref b69), .val (.ref b72), .val (.ref b75), .val (.ref q1), .unset, .unset, .unset, .unset, .unset, .unset, .unset, .unset] [(.int (8 : Int32)), (.int i5)]))) (fun _ k => XS.bipush X78.here hx rfl (hb hby at_264) k) ?_
  refine own_st (U' := (T78.setTop (mkF m 267 #[.val (.int i0), .val (.int i1), .val (.int i2), .val (.int i3), .val (.int i4), .val (.int i5), .val (.ref a), .val (.int bv), .val (.ref b), .val (.int p1), .val (.int pc), .val (.int p2), .val (.int fB), .val (.int fA), .val (.ref b69), .val (.ref b72), .val (.ref b75), .val (.ref q1), .unset, .unset, .unset, .unset, .unset, .unset, .unset, .unset] [(.int ((i5.toUInt32 >>> ((8 : Int32) &&& 31).toUInt32).toInt32))]))) (fun _ k => XS.iushr X78.here hx rfl (hb hby at_266) rfl k) ?_
  refine own_st (U' := (T78.setTop (mkF m 268 #[.val (.int i0), .val (.int i1), .val (.int i2), .val (.int i3), .val (.int i4), .val (.int i5), .val (.ref a), .val (.int bv), .val (.ref b), .val (.int p1), .val (.int pc), .val (.int p2), .val (.int fB), .val (.int fA), .val (.ref b69), .val (.ref b72), .val (.ref b75), .val (.ref q1), .unset, .unset, .unset, .unset, .unset, .unset, .unset, .unset] [(.int (3 : Int32)), (.int ((i5.toUInt32 >>> ((8 : Int32) &&& 31).toUInt32).toInt32))]))) (fun _ k => XS.iconst X78.here hx rfl (hb hby at_267) k) ?_
  refine own_st (U' := (T78.setTop (mkF m 269 #[.val (.int i0), .val (.int i1), .val (.int i2), .val (.int i3), .val (.int i4), .val (.int i5), .val (.ref a), .val (.int bv), .val (.ref b), .val (.int p1), .val (.int pc), .val (.int p2), .val (.int fB), .val (.int fA), .val (.ref b69), .val (.ref b72), .val (.ref b75), .val (.ref q1), .unset, .unset, .unset, .unset, .unset, .unset, .unset, .unset] [(.int (((i5.toUInt32 >>> ((8 : Int32) &&& 31).toUInt32).toInt32) &&& (3 : Int32)))]))) (fun _ k => XS.iand X78.here hx rfl (hb hby at_268) rfl k) ?_
  refine own_st (U' := (T78.setTop (mkF m 271 #[.val (.int i0), .val (.int i1), .val (.int i2), .val (.int i3), .val (.int i4), .val (.int i5), .val (.ref a), .val (.int bv), .val (.ref b), .val (.int p1), .val (.int pc), .val (.int p2), .val (.int fB), .val (.int fA), .val (.ref b69), .val (.ref b72), .val (.ref b75), .val (.ref q1), .unset, .unset, .unset, .unset, .unset, .unset, .unset, .unset] [(.int p1), (.int (((i5.toUInt32 >>> ((8 : Int32) &&& 31).toUInt32).toInt32) &&& (3 : Int32)))]))) (fun _ k => XS.iload X78.here hx rfl (hb hby at_269) rfl k) ?_
  refine own_st (U' := (T78.setTop (mkF m 273 #[.val (.int i0), .val (.int i1), .val (.int i2), .val (.int i3), .val (.int i4), .val (.int i5), .val (.ref a), .val (.int bv), .val (.ref b), .val (.int p1), .val (.int pc), .val (.int p2), .val (.int fB), .val (.int fA), .val (.ref b69), .val (.ref b72), .val (.ref b75), .val (.ref q1), .unset, .unset, .unset, .unset, .unset, .unset, .unset, .unset] [(.int p2), (.int p1), (.int (((i5.toUInt32 >>> ((8 : Int32) &&& 31).toUInt32).toInt32) &&& (3 : Int32)))]))) (fun _ k => XS.iload X78.here hx rfl (hb hby at_271) rfl k) ?_
  refine own_st (U' := (T78.setTop (mkF m 275 #[.val (.int i0), .val (.int i1), .val (.int i2), .val (.int i3), .val (.int i4), .val (.int i5), .val (.ref a), .val (.int bv), .val (.ref b), .val (.int p1), .val (.int pc), .val (.int p2), .val (.int fB), .val (.int fA), .val (.ref b69), .val (.ref b72), .val (.ref b75), .val (.ref q1), .unset, .unset, .unset, .unset, .unset, .unset, .unset, .unset] [(.int i4), (.int p2), (.int p1), (.int (((i5.toUInt32 >>> ((8 : Int32) &&& 31).toUInt32).toInt32) &&& (3 : Int32)))]))) (fun _ k => XS.iload X78.here hx rfl (hb hby at_273) rfl k) ?_
  obtain ⟨_, _, ⟨T79, L79, k79, n79⟩, -, X79, ⟨Lc79, hQ79, l79, y79, z79⟩, st79⟩ := Jvm.LawKit.callS X78 hx (y := (⟨"com/example/quorum/quorum/FailedStatesContainsPinLaw", "pickPos", "(IIII)I"⟩ : MethodName)) hown (mvT hZ (hw _ (List.mem_of_getElem? (i := 6) rfl))) (mvT hZ (hw _ (List.mem_of_getElem? (i := 7) rfl))) (mvT hZ (hw _ (List.mem_of_getElem? (i := 4) rfl))) (mvT hZ (hw _ (List.mem_of_getElem? (i := 8) rfl))) (by decide) (backOf (W := 0) (rmPP l Z a0 hw [] (((i5.toUInt32 >>> ((8 : Int32) &&& 31).toUInt32).toInt32) &&& (3 : Int32)) p1 p2 i4 T78.heap n0 Z78) hZ (hw _ (List.mem_of_getElem? (i := 8) rfl)) (hw _ (List.mem_of_getElem? (i := 4) rfl)) (by decide) (by decide)) (g := (mkF m 275 #[.val (.int i0), .val (.int i1), .val (.int i2), .val (.int i3), .val (.int i4), .val (.int i5), .val (.ref a), .val (.int bv), .val (.ref b), .val (.int p1), .val (.int pc), .val (.int p2), .val (.int fB), .val (.int fA), .val (.ref b69), .val (.ref b72), .val (.ref b75), .val (.ref q1), .unset, .unset, .unset, .unset, .unset, .unset, .unset, .unset] [(.int i4), (.int p2), (.int p1), (.int (((i5.toUInt32 >>> ((8 : Int32) &&& 31).toUInt32).toInt32) &&& (3 : Int32)))])) rfl (by rw [hml]; rfl) (argsL := [(.int (((i5.toUInt32 >>> ((8 : Int32) &&& 31).toUInt32).toInt32) &&& (3 : Int32))), (.int p1), (.int p2), (.int i4)]) (rest := []) (lenOf (pd_d2) rfl) rfl (by show 2 * 0 + _ ≤ _; exact Nat.le_of_eq rfl) (hb hby at_275) (fun _ _ => ⟨rfl, rfl, (Nat.le_of_ble_eq_true rfl), (Nat.le_of_ble_eq_true rfl)⟩)
  dsimp only [Pt.U, Pt.locs, Pt.cells, Pt.slots] at X79 l79 y79 z79 st79 hQ79
  subst l79 y79 z79
  obtain ⟨rfl, Nq79, eq79⟩ := hQ79
  have N79 := Fr.app N78 Nq79
  refine own_st (U' := (T79.setTop (mkF m 278 #[.val (.int i0), .val (.int i1), .val (.int i2), .val (.int i3), .val (.int i4), .val (.int i5), .val (.ref a), .val (.int bv), .val (.ref b), .val (.int p1), .val (.int pc), .val (.int p2), .val (.int fB), .val (.int fA), .val (.ref b69), .val (.ref b72), .val (.ref b75), .val (.ref q1), .unset, .unset, .unset, .unset, .unset, .unset, .unset, .unset] [(.int (own_pp (((i5.toUInt32 >>> ((8 : Int32) &&& 31).toUInt32).toInt32) &&& (3 : Int32)) p1 p2 i4))]))) st79 ?_
  refine own_st (U' := (T79.setTop (mkF m 280 #[.val (.int i0), .val (.int i1), .val (.int i2), .val (.int i3), .val (.int i4), .val (.int i5), .val (.ref a), .val (.int bv), .val (.ref b), .val (.int p1), .val (.int pc), .val (.int p2), .val (.int fB), .val (.int fA), .val (.ref b69), .val (.ref b72), .val (.ref b75), .val (.ref q1), .val (.int (own_pp (((i5.toUInt32 >>> ((8 : Int32) &&& 31).toUInt32).toInt32) &&& (3 : Int32)) p1 p2 i4)), .unset, .unset, .unset, .unset, .unset, .unset, .unset] []))) (fun _ k => XS.istore X79.here hx rfl (hb hby at_278) rfl (l' := #[.val (.int i0), .val (.int i1), .val (.int i2), .val (.int i3), .val (.int i4), .val (.int i5), .val (.ref a), .val (.int bv), .val (.ref b), .val (.int p1), .val (.int pc), .val (.int p2), .val (.int fB), .val (.int fA), .val (.ref b69), .val (.ref b72), .val (.ref b75), .val (.ref q1), .val (.int (own_pp (((i5.toUInt32 >>> ((8 : Int32) &&& 31).toUInt32).toInt32) &&& (3 : Int32)) p1 p2 i4)), .unset, .unset, .unset, .unset, .unset, .unset, .unset]) rfl k) ?_
  refine own_st (U' := (T79.setTop (mkF m 282 #[.val (.int i0), .val (.int i1), .val (.int i2), .val (.int i3), .val (.int i4), .val (.int i5), .val (.ref a), .val (.int bv), .val (.ref b), .val (.int p1), .val (.int pc), .val (.int p2), .val (.int fB), .val (.int fA), .val (.ref b69), .val (.ref b72), .val (.ref b75), .val (.ref q1), .val (.int (own_pp (((i5.toUInt32 >>> ((8 : Int32) &&& 31).toUInt32).toInt32) &&& (3 : Int32)) p1 p2 i4)), .unset, .unset, .unset, .unset, .unset, .unset, .unset] [(.int i5)]))) (fun _ k => XS.iload X79.here hx rfl (hb hby at_280) rfl k) ?_
  refine own_st (U' := (T79.setTop (mkF m 284 #[.val (.int i0), .val (.int i1), .val (.int i2), .val (.int i3), .val (.int i4), .val (.int i5), .val (.ref a), .val (.int bv), .val (.ref b), .val (.int p1), .val (.int pc), .val (.int p2), .val (.int fB), .val (.int fA), .val (.ref b69), .val (.ref b72), .val (.ref b75), .val (.ref q1), .val (.int (own_pp (((i5.toUInt32 >>> ((8 : Int32) &&& 31).toUInt32).toInt32) &&& (3 : Int32)) p1 p2 i4)), .unset, .unset, .unset, .unset, .unset, .unset, .unset] [(.int (10 : Int32)), (.int i5)]))) (fun _ k => XS.bipush X79.here hx rfl (hb hby at_282) k) ?_
  refine own_st (U' := (T79.setTop (mkF m 285 #[.val (.int i0), .val (.int i1), .val (.int i2), .val (.int i3), .val (.int i4), .val (.int i5), .val (.ref a), .val (.int bv), .val (.ref b), .val (.int p1), .val (.int pc), .val (.int p2), .val (.int fB), .val (.int fA), .val (.ref b69), .val (.ref b72), .val (.ref b75), .val (.ref q1), .val (.int (own_pp (((i5.toUInt32 >>> ((8 : Int32) &&& 31).toUInt32).toInt32) &&& (3 : Int32)) p1 p2 i4)), .unset, .unset, .unset, .unset, .unset, .unset, .unset] [(.int ((i5.toUInt32 >>> ((10 : Int32) &&& 31).toUInt32).toInt32))]))) (fun _ k => XS.iushr X79.here hx rfl (hb hby at_284) rfl k) ?_
  refine own_st (U' := (T79.setTop (mkF m 286 #[.val (.int i0), .val (.int i1), .val (.int i2), .val (.int i3), .val (.int i4), .val (.int i5), .val (.ref a), .val (.int bv), .val (.ref b), .val (.int p1), .val (.int pc), .val (.int p2), .val (.int fB), .val (.int fA), .val (.ref b69), .val (.ref b72), .val (.ref b75), .val (.ref q1), .val (.int (own_pp (((i5.toUInt32 >>> ((8 : Int32) &&& 31).toUInt32).toInt32) &&& (3 : Int32)) p1 p2 i4)), .unset, .unset, .unset, .unset, .unset, .unset, .unset] [(.int (3 : Int32)), (.int ((i5.toUInt32 >>> ((10 : Int32) &&& 31).toUInt32).toInt32))]))) (fun _ k => XS.iconst X79.here hx rfl (hb hby at_285) k) ?_
  refine own_st (U' := (T79.setTop (mkF m 287 #[.val (.int i0), .val (.int i1), .val (.int i2), .val (.int i3), .val (.int i4), .val (.int i5), .val (.ref a), .val (.int bv), .val (.ref b), .val (.int p1), .val (.int pc), .val (.int p2), .val (.int fB), .val (.int fA), .val (.ref b69), .val (.ref b72), .val (.ref b75), .val (.ref q1), .val (.int (own_pp (((i5.toUInt32 >>> ((8 : Int32) &&& 31).toUInt32).toInt32) &&& (3 : Int32)) p1 p2 i4)), .unset, .unset, .unset, .unset, .unset, .unset, .unset] [(.int (((i5.toUInt32 >>> ((10 : Int32) &&& 31).toUInt32).toInt32) &&& (3 : Int32)))]))) (fun _ k => XS.iand X79.here hx rfl (hb hby at_286) rfl k) ?_
  refine own_st (U' := (T79.setTop (mkF m 289 #[.val (.int i0), .val (.int i1), .val (.int i2), .val (.int i3), .val (.int i4), .val (.int i5), .val (.ref a), .val (.int bv), .val (.ref b), .val (.int p1), .val (.int pc), .val (.int p2), .val (.int fB), .val (.int fA), .val (.ref b69), .val (.ref b72), .val (.ref b75), .val (.ref q1), .val (.int (own_pp (((i5.toUInt32 >>> ((8 : Int32) &&& 31).toUInt32).toInt32) &&& (3 : Int32)) p1 p2 i4)), .unset, .unset, .unset, .unset, .unset, .unset, .unset] [(.ref a), (.int (((i5.toUInt32 >>> ((10 : Int32) &&& 31).toUInt32).toInt32) &&& (3 : Int32)))]))) (fun _ k => XS.aload X79.here hx rfl (hb hby at_287) rfl rfl k) ?_
  refine own_st (U' := (T79.setTop (mkF m 291 #[.val (.int i0), .val (.int i1), .val (.int i2), .val (.int i3), .val (.int i4), .val (.int i5), .val (.ref a), .val (.int bv), .val (.ref b), .val (.int p1), .val (.int pc), .val (.int p2), .val (.int fB), .val (.int fA), .val (.ref b69), .val (.ref b72), .val (.ref b75), .val (.ref q1), .val (.int (own_pp (((i5.toUInt32 >>> ((8 : Int32) &&& 31).toUInt32).toInt32) &&& (3 : Int32)) p1 p2 i4)), .unset, .unset, .unset, .unset, .unset, .unset, .unset] [(.ref b), (.ref a), (.int (((i5.toUInt32 >>> ((10 : Int32) &&& 31).toUInt32).toInt32) &&& (3 : Int32)))]))) (fun _ k => XS.aload X79.here hx rfl (hb hby at_289) rfl rfl k) ?_
  refine own_st (U' := (T79.setTop (mkF m 293 #[.val (.int i0), .val (.int i1), .val (.int i2), .val (.int i3), .val (.int i4), .val (.int i5), .val (.ref a), .val (.int bv), .val (.ref b), .val (.int p1), .val (.int pc), .val (.int p2), .val (.int fB), .val (.int fA), .val (.ref b69), .val (.ref b72), .val (.ref b75), .val (.ref q1), .val (.int (own_pp (((i5.toUInt32 >>> ((8 : Int32) &&& 31).toUInt32).toInt32) &&& (3 : Int32)) p1 p2 i4)), .unset, .unset, .unset, .unset, .unset, .unset, .unset] [(.int i4), (.ref b), (.ref a), (.int (((i5.toUInt32 >>> ((10 : Int32) &&& 31).toUInt32).toInt32) &&& (3 : Int32)))]))) (fun _ k => XS.iload X79.here hx rfl (hb hby at_291) rfl k) ?_
  obtain ⟨_, _, ⟨T80, L80, k80, n80⟩, -, X80, ⟨Lc80, hQ80, l80, y80, z80⟩, st80⟩ := Jvm.LawKit.callS X79 hx (y := (⟨"com/example/quorum/quorum/FailedStatesContainsPinLaw", "pickKey", "(I[I[II)[I"⟩ : MethodName)) hown (mvT hZ (hw _ (List.mem_of_getElem? (i := 2) rfl))) (mvT hZ (hw _ (List.mem_of_getElem? (i := 3) rfl))) (mvT hZ (hw _ (List.mem_of_getElem? (i := 4) rfl))) (mvT hZ (hw _ (List.mem_of_getElem? (i := 5) rfl))) (by decide) (backOf (W := 0) (rmPK l Z a0 hw [] (((i5.toUInt32 >>> ((10 : Int32) &&& 31).toUInt32).toInt32) &&& (3 : Int32)) a b i4 i0 i1 b0 b1 T78.heap n0 Z78 V_a V_b) hZ (hw _ (List.mem_of_getElem? (i := 5) rfl)) (hw _ (List.mem_of_getElem? (i := 4) rfl)) (by decide) (by decide)) (g := (mkF m 293 #[.val (.int i0), .val (.int i1), .val (.int i2), .val (.int i3), .val (.int i4), .val (.int i5), .val (.ref a), .val (.int bv), .val (.ref b), .val (.int p1), .val (.int pc), .val (.int p2), .val (.int fB), .val (.int fA), .val (.ref b69), .val (.ref b72), .val (.ref b75), .val (.ref q1), .val (.int (own_pp (((i5.toUInt32 >>> ((8 : Int32) &&& 31).toUInt32).toInt32) &&& (3 : Int32)) p1 p2 i4)), .unset, .unset, .unset, .unset, .unset, .unset, .unset] [(.int i4), (.ref b), (.ref a), (.int (((i5.toUInt32 >>> ((10 : Int32) &&& 31).toUInt32).toInt32) &&& (3 : Int32)))])) rfl (by rw [hml]; rfl) (argsL := [(.int (((i5.toUInt32 >>> ((10 : Int32) &&& 31).toUInt32).toInt32) &&& (3 : Int32))), (.ref a), (.ref b), (.int i4)]) (rest := []) (lenOf (pd_d1) rfl) rfl (by show 2 * 0 + _ ≤ _; exact Nat.le_of_eq rfl) (hb hby at_293) (fun _ _ => ⟨rfl, eq79, (Nat.le_of_ble_eq_true rfl), (Nat.le_of_ble_eq_true rfl)⟩)
  dsimp only [Pt.U, Pt.locs, Pt.cells, Pt.slots] at X80 l80 y80 z80 st80 hQ80
  subst l80 y80 z80
  obtain ⟨q2, rfl, Nq80, Kq80, sz80, V_q2⟩ := hQ80
  have V_a := V_a.keep Kq80 nin0
  have V_b := V_b.keep Kq80 nin0
  have V_x14 := V_x14.keep Kq80 nin0
  have V_x15 := V_x15.keep Kq80 nin0
  have V_x16 := V_x16.keep Kq80 nin0
  have V_q1 := V_q1.keep Kq80 nin0
  have N80 := Fr.app N79 Nq80
  have Z80 : n0 ≤ T80.heap.size := Nat.le_trans Z78 Kq80.1
  refine own_st (U' := (T80.setTop (mkF m 296 #[.val (.int i0), .val (.int i1), .val (.int i2), .val (.int i3), .val (.int i4), .val (.int i5), .val (.ref a), .val (.int bv), .val (.ref b), .val (.int p1), .val (.int pc), .val (.int p2), .val (.int fB), .val (.int fA), .val (.ref b69), .val (.ref b72), .val (.ref b75), .val (.ref q1), .val (.int (own_pp (((i5.toUInt32 >>> ((8 : Int32) &&& 31).toUInt32).toInt32) &&& (3 : Int32)) p1 p2 i4)), .unset, .unset, .unset, .unset, .unset, .unset, .unset] [(.ref q2)]))) st80 ?_
  refine own_st (U' := (T80.setTop (mkF m 298 #[.val (.int i0), .val (.int i1), .val (.int i2), .val (.int i3), .val (.int i4), .val (.int i5), .val (.ref a), .val (.int bv), .val (.ref b), .val (.int p1), .val (.int pc), .val (.int p2), .val (.int fB), .val (.int fA), .val (.ref b69), .val (.ref b72), .val (.ref b75), .val (.ref q1), .val (.int (own_pp (((i5.toUInt32 >>> ((8 : Int32) &&& 31).toUInt32).toInt32) &&& (3 : Int32)) p1 p2 i4)), .val (.ref q2), .unset, .unset, .unset, .unset, .unset, .unset] []))) (fun _ k => XS.astore X80.here hx rfl (hb hby at_296) rfl rfl (l' := #[.val (.int i0), .val (.int i1), .val (.int i2), .val (.int i3), .val (.int i4), .val (.int i5), .val (.ref a), .val (.int bv), .val (.ref b), .val (.int p1), .val (.int pc), .val (.int p2), .val (.int fB), .val (.int fA), .val (.ref b69), .val (.ref b72), .val (.ref b75), .val (.ref q1), .val (.int (own_pp (((i5.toUInt32 >>> ((8 : Int32) &&& 31).toUInt32).toInt32) &&& (3 : Int32)) p1 p2 i4)), .val (.ref q2), .unset, .unset, .unset, .unset, .unset, .unset]) rfl k) ?_
  refine own_st (U' := (T80.setTop (mkF m 300 #[.val (.int i0), .val (.int i1), .val (.int i2), .val (.int i3), .val (.int i4), .val (.int i5), .val (.ref a), .val (.int bv), .val (.ref b), .val (.int p1), .val (.int pc), .val (.int p2), .val (.int fB), .val (.int fA), .val (.ref b69), .val (.ref b72), .val (.ref b75), .val (.ref q1), .val (.int (own_pp (((i5.toUInt32 >>> ((8 : Int32) &&& 31).toUInt32).toInt32) &&& (3 : Int32)) p1 p2 i4)), .val (.ref q2), .unset, .unset, .unset, .unset, .unset, .unset] [(.int i5)]))) (fun _ k => XS.iload X80.here hx rfl (hb hby at_298) rfl k) ?_
  refine own_st (U' := (T80.setTop (mkF m 302 #[.val (.int i0), .val (.int i1), .val (.int i2), .val (.int i3), .val (.int i4), .val (.int i5), .val (.ref a), .val (.int bv), .val (.ref b), .val (.int p1), .val (.int pc), .val (.int p2), .val (.int fB), .val (.int fA), .val (.ref b69), .val (.ref b72), .val (.ref b75), .val (.ref q1), .val (.int (own_pp (((i5.toUInt32 >>> ((8 : Int32) &&& 31).toUInt32).toInt32) &&& (3 : Int32)) p1 p2 i4)), .val (.ref q2), .unset, .unset, .unset, .unset, .unset, .unset] [(.int (12 : Int32)), (.int i5)]))) (fun _ k => XS.bipush X80.here hx rfl (hb hby at_300) k) ?_
  refine own_st (U' := (T80.setTop (mkF m 303 #[.val (.int i0), .val (.int i1), .val (.int i2), .val (.int i3), .val (.int i4), .val (.int i5), .val (.ref a), .val (.int bv), .val (.ref b), .val (.int p1), .val (.int pc), .val (.int p2), .val (.int fB), .val (.int fA), .val (.ref b69), .val (.ref b72), .val (.ref b75), .val (.ref q1), .val (.int (own_pp (((i5.toUInt32 >>> ((8 : Int32) &&& 31).toUInt32).toInt32) &&& (3 : Int32)) p1 p2 i4)), .val (.ref q2), .unset, .unset, .unset, .unset, .unset, .unset] [(.int ((i5.toUInt32 >>> ((12 : Int32) &&& 31).toUInt32).toInt32))]))) (fun _ k => XS.iushr X80.here hx rfl (hb hby at_302) rfl k) ?_
  refine own_st (U' := (T80.setTop (mkF m 304 #[.val (.int i0), .val (.int i1), .val (.int i2), .val (.int i3), .val (.int i4), .val (.int i5), .val (.ref a), .val (.int bv), .val (.ref b), .val (.int p1), .val (.int pc), .val (.int p2), .val (.int fB), .val (.int fA), .val (.ref b69), .val (.ref b72), .val (.ref b75), .val (.ref q1), .val (.int (own_pp (((i5.toUInt32 >>> ((8 : Int32) &&& 31).toUInt32).toInt32) &&& (3 : Int32)) p1 p2 i4)), .val (.ref q2), .unset, .unset, .unset, .unset, .unset, .unset] [(.int (3 : Int32)), (.int ((i5.toUInt32 >>> ((12 : Int32) &&& 31).toUInt32).toInt32))]))) (fun _ k => XS.iconst X80.here hx rfl (hb hby at_303) k) ?_
  refine own_st (U' := (T80.setTop (mkF m 305 #[.val (.int i0), .val (.int i1), .val (.int i2), .val (.int i3), .val (.int i4), .val (.int i5), .val (.ref a), .val (.int bv), .val (.ref b), .val (.int p1), .val (.int pc), .val (.int p2), .val (.int fB), .val (.int fA), .val (.ref b69), .val (.ref b72), .val (.ref b75), .val (.ref q1), .val (.int (own_pp (((i5.toUInt32 >>> ((8 : Int32) &&& 31).toUInt32).toInt32) &&& (3 : Int32)) p1 p2 i4)), .val (.ref q2), .unset, .unset, .unset, .unset, .unset, .unset] [(.int (((i5.toUInt32 >>> ((12 : Int32) &&& 31).toUInt32).toInt32) &&& (3 : Int32)))]))) (fun _ k => XS.iand X80.here hx rfl (hb hby at_304) rfl k) ?_
  refine own_st (U' := (T80.setTop (mkF m 307 #[.val (.int i0), .val (.int i1), .val (.int i2), .val (.int i3), .val (.int i4), .val (.int i5), .val (.ref a), .val (.int bv), .val (.ref b), .val (.int p1), .val (.int pc), .val (.int p2), .val (.int fB), .val (.int fA), .val (.ref b69), .val (.ref b72), .val (.ref b75), .val (.ref q1), .val (.int (own_pp (((i5.toUInt32 >>> ((8 : Int32) &&& 31).toUInt32).toInt32) &&& (3 : Int32)) p1 p2 i4)), .val (.ref q2), .unset, .unset, .unset, .unset, .unset, .unset] [(.int p1), (.int (((i5.toUInt32 >>> ((12 : Int32) &&& 31).toUInt32).toInt32) &&& (3 : Int32)))]))) (fun _ k => XS.iload X80.here hx rfl (hb hby at_305) rfl k) ?_
  refine own_st (U' := (T80.setTop (mkF m 309 #[.val (.int i0), .val (.int i1), .val (.int i2), .val (.int i3), .val (.int i4), .val (.int i5), .val (.ref a), .val (.int bv), .val (.ref b), .val (.int p1), .val (.int pc), .val (.int p2), .val (.int fB), .val (.int fA), .val (.ref b69), .val (.ref b72), .val (.ref b75), .val (.ref q1), .val (.int (own_pp (((i5.toUInt32 >>> ((8 : Int32) &&& 31).toUInt32).toInt32) &&& (3 : Int32)) p1 p2 i4)), .val (.ref q2), .unset, .unset, .unset, .unset, .unset, .unset] [(.int p2), (.int p1), (.int (((i5.toUInt32 >>> ((12 : Int32) &&& 31).toUInt32).toInt32) &&& (3 : Int32)))]))) (fun _ k => XS.iload X80.here hx rfl (hb hby at_307) rfl k) ?_
  refine own_st (U' := (T80.setTop (mkF m 311 #[.val (.int i0), .val (.int i1), .val (.int i2), .val (.int i3), .val (.int i4), .val (.int i5), .val (.ref a), .val (.int bv), .val (.ref b), .val (.int p1), .val (.int pc), .val (.int p2), .val (.int fB), .val (.int fA), .val (.ref b69), .val (.ref b72), .val (.ref b75), .val (.ref q1), .val (.int (own_pp (((i5.toUInt32 >>> ((8 : Int32) &&& 31).toUInt32).toInt32) &&& (3 : Int32)) p1 p2 i4)), .val (.ref q2), .unset, .unset, .unset, .unset, .unset, .unset] [(.int i4), (.int p2), (.int p1), (.int (((i5.toUInt32 >>> ((12 : Int32) &&& 31).toUInt32).toInt32) &&& (3 : Int32)))]))) (fun _ k => XS.iload X80.here hx rfl (hb hby at_309) rfl k) ?_
  obtain ⟨_, _, ⟨T81, L81, k81, n81⟩, -, X81, ⟨Lc81, hQ81, l81, y81, z81⟩, st81⟩ := Jvm.LawKit.callS X80 hx (y := (⟨"com/example/quorum/quorum/FailedStatesContainsPinLaw", "pickPos", "(IIII)I"⟩ : MethodName)) hown (mvT hZ (hw _ (List.mem_of_getElem? (i := 6) rfl))) (mvT hZ (hw _ (List.mem_of_getElem? (i := 7) rfl))) (mvT hZ (hw _ (List.mem_of_getElem? (i := 4) rfl))) (mvT hZ (hw _ (List.mem_of_getElem? (i := 8) rfl))) (by decide) (backOf (W := 0) (rmPP l Z a0 hw [] (((i5.toUInt32 >>> ((12 : Int32) &&& 31).toUInt32).toInt32) &&& (3 : Int32)) p1 p2 i4 T80.heap n0 Z80) hZ (hw _ (List.mem_of_getElem? (i := 8) rfl)) (hw _ (List.mem_of_getElem? (i := 4) rfl)) (by decide) (by decide)) (g := (mkF m 311 #[.val (.int i0), .val (.int i1), .val (.int i2), .val (.int i3), .val (.int i4), .val (.int i5), .val (.ref a), .val (.int bv), .val (.ref b), .val (.int p1), .val (.int pc), .val (.int p2), .val (.int fB), .val (.int fA), .val (.ref b69), .val (.ref b72), .val (.ref b75), .val (.ref q1), .val (.int (own_pp (((i5.toUInt32 >>> ((8 : Int32) &&& 31).toUInt32).toInt32) &&& (3 : Int32)) p1 p2 i4)), .val (.ref q2), .unset, .unset, .unset, .unset, .unset, .unset] [(.int i4), (.int p2), (.int p1), (.int (((i5.toUInt32 >>> ((12 : Int32) &&& 31).toUInt32).toInt32) &&& (3 : Int32)))])) rfl (by rw [hml]; rfl) (argsL := [(.int (((i5.toUInt32 >>> ((12 : Int32) &&& 31).toUInt32).toInt32) &&& (3 : Int32))), (.int p1), (.int p2), (.int i4)]) (rest := []) (lenOf (pd_d2) rfl) rfl (by show 2 * 0 + _ ≤ _; exact Nat.le_of_eq rfl) (hb hby at_311) (fun _ _ => ⟨rfl, rfl, (Nat.le_of_ble_eq_true rfl), (Nat.le_of_ble_eq_true rfl)⟩)
  dsimp only [Pt.U, Pt.locs, Pt.cells, Pt.slots] at X81 l81 y81 z81 st81 hQ81
  subst l81 y81 z81
  obtain ⟨rfl, Nq81, eq81⟩ := hQ81
  have N81 := Fr.app N80 Nq81
  refine own_st (U' := (T81.setTop (mkF m 314 #[.val (.int i0), .val (.int i1), .val (.int i2), .val (.int i3), .val (.int i4), .val (.int i5), .val (.ref a), .val (.int bv), .val (.ref b), .val (.int p1), .val (.int pc), .val (.int p2), .val (.int fB), .val (.int fA), .val (.ref b69), .val (.ref b72), .val (.ref b75), .val (.ref q1), .val (.int (own_pp (((i5.toUInt32 >>> ((8 : Int32) &&& 31).toUInt32).toInt32) &&& (3 : Int32)) p1 p2 i4)), .val (.ref q2), .unset, .unset, .unset, .unset, .unset, .unset] [(.int (own_pp (((i5.toUInt32 >>> ((12 : Int32) &&& 31).toUInt32).toInt32) &&& (3 : Int32)) p1 p2 i4))]))) st81 ?_
  refine own_st (U' := (T81.setTop (mkF m 316 #[.val (.int i0), .val (.int i1), .val (.int i2), .val (.int i3), .val (.int i4), .val (.int i5), .val (.ref a), .val (.int bv), .val (.ref b), .val (.int p1), .val (.int pc), .val (.int p2), .val (.int fB), .val (.int fA), .val (.ref b69), .val (.ref b72), .val (.ref b75), .val (.ref q1), .val (.int (own_pp (((i5.toUInt32 >>> ((8 : Int32) &&& 31).toUInt32).toInt32) &&& (3 : Int32)) p1 p2 i4)), .val (.ref q2), .val (.int (own_pp (((i5.toUInt32 >>> ((12 : Int32) &&& 31).toUInt32).toInt32) &&& (3 : Int32)) p1 p2 i4)), .unset, .unset, .unset, .unset, .unset] []))) (fun _ k => XS.istore X81.here hx rfl (hb hby at_314) rfl (l' := #[.val (.int i0), .val (.int i1), .val (.int i2), .val (.int i3), .val (.int i4), .val (.int i5), .val (.ref a), .val (.int bv), .val (.ref b), .val (.int p1), .val (.int pc), .val (.int p2), .val (.int fB), .val (.int fA), .val (.ref b69), .val (.ref b72), .val (.ref b75), .val (.ref q1), .val (.int (own_pp (((i5.toUInt32 >>> ((8 : Int32) &&& 31).toUInt32).toInt32) &&& (3 : Int32)) p1 p2 i4)), .val (.ref q2), .val (.int (own_pp (((i5.toUInt32 >>> ((12 : Int32) &&& 31).toUInt32).toInt32) &&& (3 : Int32)) p1 p2 i4)), .unset, .unset, .unset, .unset, .unset]) rfl k) ?_
  refine own_st (U' := (T81.setTop (mkF m 318 #[.val (.int i0), .val (.int i1), .val (.int i2), .val (.int i3), .val (.int i4), .val (.int i5), .val (.ref a), .val (.int bv), .val (.ref b), .val (.int p1), .val (.int pc), .val (.int p2), .val (.int fB), .val (.int fA), .val (.ref b69), .val (.ref b72), .val (.ref b75), .val (.ref q1), .val (.int (own_pp (((i5.toUInt32 >>> ((8 : Int32) &&& 31).toUInt32).toInt32) &&& (3 : Int32)) p1 p2 i4)), .val (.ref q2), .val (.int (own_pp (((i5.toUInt32 >>> ((12 : Int32) &&& 31).toUInt32).toInt32) &&& (3 : Int32)) p1 p2 i4)), .unset, .unset, .unset, .unset, .unset] [(.ref q1)]))) (fun _ k => XS.aload X81.here hx rfl (hb hby at_316) rfl rfl k) ?_
  refine own_st (U' := (T81.setTop (mkF m 320 #[.val (.int i0), .val (.int i1), .val (.int i2), .val (.int i3), .val (.int i4), .val (.int i5), .val (.ref a), .val (.int bv), .val (.ref b), .val (.int p1), .val (.int pc), .val (.int p2), .val (.int fB), .val (.int fA), .val (.ref b69), .val (.ref b72), .val (.ref b75), .val (.ref q1), .val (.int (own_pp (((i5.toUInt32 >>> ((8 : Int32) &&& 31).toUInt32).toInt32) &&& (3 : Int32)) p1 p2 i4)), .val (.ref q2), .val (.int (own_pp (((i5.toUInt32 >>> ((12 : Int32) &&& 31).toUInt32).toInt32) &&& (3 : Int32)) p1 p2 i4)), .unset, .unset, .unset, .unset, .unset] [(.int (own_pp (((i5.toUInt32 >>> ((8 : Int32) &&& 31).toUInt32).toInt32) &&& (3 : Int32)) p1 p2 i4)), (.ref q1)]))) (fun _ k => XS.iload X81.here hx rfl (hb hby at_318) rfl k) ?_
  refine own_st (U' := (T81.setTop (mkF m 322 #[.val (.int i0), .val (.int i1), .val (.int i2), .val (.int i3), .val (.int i4), .val (.int i5), .val (.ref a), .val (.int bv), .val (.ref b), .val (.int p1), .val (.int pc), .val (.int p2), .val (.int fB), .val (.int fA), .val (.ref b69), .val (.ref b72), .val (.ref b75), .val (.ref q1), .val (.int (own_pp (((i5.toUInt32 >>> ((8 : Int32) &&& 31).toUInt32).toInt32) &&& (3 : Int32)) p1 p2 i4)), .val (.ref q2), .val (.int (own_pp (((i5.toUInt32 >>> ((12 : Int32) &&& 31).toUInt32).toInt32) &&& (3 : Int32)) p1 p2 i4)), .unset, .unset, .unset, .unset, .unset] [(.ref a), (.int (own_pp (((i5.toUInt32 >>> ((8 : Int32) &&& 31).toUInt32).toInt32) &&& (3 : Int32)) p1 p2 i4)), (.ref q1)]))) (fun _ k => XS.aload X81.here hx rfl (hb hby at_320) rfl rfl k) ?_
  refine own_st (U' := (T81.setTop (mkF m 324 #[.val (.int i0), .val (.int i1), .val (.int i2), .val (.int i3), .val (.int i4), .val (.int i5), .val (.ref a), .val (.int bv), .val (.ref b), .val (.int p1), .val (.int pc), .val (.int p2), .val (.int fB), .val (.int fA), .val (.ref b69), .val (.ref b72), .val (.ref b75), .val (.ref q1), .val (.int (own_pp (((i5.toUInt32 >>> ((8 : Int32) &&& 31).toUInt32).toInt32) &&& (3 : Int32)) p1 p2 i4)), .val (.ref q2), .val (.int (own_pp (((i5.toUInt32 >>> ((12 : Int32) &&& 31).toUInt32).toInt32) &&& (3 : Int32)) p1 p2 i4)), .unset, .unset, .unset, .unset, .unset] [(.int p1), (.ref a), (.int (own_pp (((i5.toUInt32 >>> ((8 : Int32) &&& 31).toUInt32).toInt32) &&& (3 : Int32)) p1 p2 i4)), (.ref q1)]))) (fun _ k => XS.iload X81.here hx rfl (hb hby at_322) rfl k) ?_
  refine own_st (U' := (T81.setTop (mkF m 326 #[.val (.int i0), .val (.int i1), .val (.int i2), .val (.int i3), .val (.int i4), .val (.int i5), .val (.ref a), .val (.int bv), .val (.ref b), .val (.int p1), .val (.int pc), .val (.int p2), .val (.int fB), .val (.int fA), .val (.ref b69), .val (.ref b72), .val (.ref b75), .val (.ref q1), .val (.int (own_pp (((i5.toUInt32 >>> ((8 : Int32) &&& 31).toUInt32).toInt32) &&& (3 : Int32)) p1 p2 i4)), .val (.ref q2), .val (.int (own_pp (((i5.toUInt32 >>> ((12 : Int32) &&& 31).toUInt32).toInt32) &&& (3 : Int32)) p1 p2 i4)), .unset, .unset, .unset, .unset, .unset] [(.int fB), (.int p1), (.ref a), (.int (own_pp (((i5.toUInt32 >>> ((8 : Int32) &&& 31).toUInt32).toInt32) &&& (3 : Int32)) p1 p2 i4)), (.ref q1)]))) (fun _ k => XS.iload X81.here hx rfl (hb hby at_324) rfl k) ?_
  refine own_st (U' := (T81.setTop (mkF m 328 #[.val (.int i0), .val (.int i1), .val (.int i2), .val (.int i3), .val (.int i4), .val (.int i5), .val (.ref a), .val (.int bv), .val (.ref b), .val (.int p1), .val (.int pc), .val (.int p2), .val (.int fB), .val (.int fA), .val (.ref b69), .val (.ref b72), .val (.ref b75), .val (.ref q1), .val (.int (own_pp (((i5.toUInt32 >>> ((8 : Int32) &&& 31).toUInt32).toInt32) &&& (3 : Int32)) p1 p2 i4)), .val (.ref q2), .val (.int (own_pp (((i5.toUInt32 >>> ((12 : Int32) &&& 31).toUInt32).toInt32) &&& (3 : Int32)) p1 p2 i4)), .unset, .unset, .unset, .unset, .unset] [(.ref b), (.int fB), (.int p1), (.ref a), (.int (own_pp (((i5.toUInt32 >>> ((8 : Int32) &&& 31).toUInt32).toInt32) &&& (3 : Int32)) p1 p2 i4)), (.ref q1)]))) (fun _ k => XS.aload X81.here hx rfl (hb hby at_326) rfl rfl k) ?_
  refine own_st (U' := (T81.setTop (mkF m 330 #[.val (.int i0), .val (.int i1), .val (.int i2), .val (.int i3), .val (.int i4), .val (.int i5), .val (.ref a), .val (.int bv), .val (.ref b), .val (.int p1), .val (.int pc), .val (.int p2), .val (.int fB), .val (.int fA), .val (.ref b69), .val (.ref b72), .val (.ref b75), .val (.ref q1), .val (.int (own_pp (((i5.toUInt32 >>> ((8 : Int32) &&& 31).toUInt32).toInt32) &&& (3 : Int32)) p1 p2 i4)), .val (.ref q2), .val (.int (own_pp (((i5.toUInt32 >>> ((12 : Int32) &&& 31).toUInt32).toInt32) &&& (3 : Int32)) p1 p2 i4)), .unset, .unset, .unset, .unset, .unset] [(.int p2), (.ref b), (.int fB), (.int p1), (.ref a), (.int (own_pp (((i5.toUInt32 >>> ((8 : Int32) &&& 31).toUInt32).toInt32) &&& (3 : Int32)) p1 p2 i4)), (.ref q1)]))) (fun _ k => XS.iload X81.here hx rfl (hb hby at_328) rfl k) ?_
  refine own_st (U' := (T81.setTop (mkF m 332 #[.val (.int i0), .val (.int i1), .val (.int i2), .val (.int i3), .val (.int i4), .val (.int i5), .val (.ref a), .val (.int bv), .val (.ref b), .val (.int p1), .val (.int pc), .val (.int p2), .val (.int fB), .val (.int fA), .val (.ref b69), .val (.ref b72), .val (.ref b75), .val (.ref q1), .val (.int (own_pp (((i5.toUInt32 >>> ((8 : Int32) &&& 31).toUInt32).toInt32) &&& (3 : Int32)) p1 p2 i4)), .val (.ref q2), .val (.int (own_pp (((i5.toUInt32 >>> ((12 : Int32) &&& 31).toUInt32).toInt32) &&& (3 : Int32)) p1 p2 i4)), .unset, .unset, .unset, .unset, .unset] [(.int fA), (.int p2), (.ref b), (.int fB), (.int p1), (.ref a), (.int (own_pp (((i5.toUInt32 >>> ((8 : Int32) &&& 31).toUInt32).toInt32) &&& (3 : Int32)) p1 p2 i4)), (.ref q1)]))) (fun _ k => XS.iload X81.here hx rfl (hb hby at_330) rfl k) ?_
  obtain ⟨_, _, ⟨T82, L82, k82, n82⟩, -, X82, ⟨Lc82, hQ82, l82, y82, z82⟩, st82⟩ := Jvm.LawKit.callS X81 hx (y := (⟨"com/example/quorum/quorum/FailedStatesContainsPinLaw", "expect", "([II[IIZ[IIZ)Z"⟩ : MethodName)) hown (mvT hZ (hw _ (List.mem_of_getElem? (i := 9) rfl))) (mvT hZ (hw _ (List.mem_of_getElem? (i := 10) rfl))) (mvT hZ (hw _ (List.mem_of_getElem? (i := 4) rfl))) (mvT hZ (hw _ (List.mem_of_getElem? (i := 11) rfl))) (by decide) (backOf (W := 0) (rmEx l Z a0 hw [] q1 (own_pp (((i5.toUInt32 >>> ((8 : Int32) &&& 31).toUInt32).toInt32) &&& (3 : Int32)) p1 p2 i4) a p1 fB b p2 fA (own_pk0 (((i5.toUInt32 >>> ((6 : Int32) &&& 31).toUInt32).toInt32) &&& (3 : Int32)) i0 b0 i4) (own_pk1 (((i5.toUInt32 >>> ((6 : Int32) &&& 31).toUInt32).toInt32) &&& (3 : Int32)) i1 b1 i4) i0 i1 b0 b1 T80.heap n0 Z80 V_q1 V_a V_b) hZ (hw _ (List.mem_of_getElem? (i := 11) rfl)) (hw _ (List.mem_of_getElem? (i := 4) rfl)) (by decide) (by decide)) (g := (mkF m 332 #[.val (.int i0), .val (.int i1), .val (.int i2), .val (.int i3), .val (.int i4), .val (.int i5), .val (.ref a), .val (.int bv), .val (.ref b), .val (.int p1), .val (.int pc), .val (.int p2), .val (.int fB), .val (.int fA), .val (.ref b69), .val (.ref b72), .val (.ref b75), .val (.ref q1), .val (.int (own_pp (((i5.toUInt32 >>> ((8 : Int32) &&& 31).toUInt32).toInt32) &&& (3 : Int32)) p1 p2 i4)), .val (.ref q2), .val (.int (own_pp (((i5.toUInt32 >>> ((12 : Int32) &&& 31).toUInt32).toInt32) &&& (3 : Int32)) p1 p2 i4)), .unset, .unset, .unset, .unset, .unset] [(.int fA), (.int p2), (.ref b), (.int fB), (.int p1), (.ref a), (.int (own_pp (((i5.toUInt32 >>> ((8 : Int32) &&& 31).toUInt32).toInt32) &&& (3 : Int32)) p1 p2 i4)), (.ref q1)])) rfl (by rw [hml]; rfl) (argsL := [(.ref q1), (.int (own_pp (((i5.toUInt32 >>> ((8 : Int32) &&& 31).toUInt32).toInt32) &&& (3 : Int32)) p1 p2 i4)), (.ref a), (.int p1), (.int fB), (.ref b), (.int p2), (.int fA)]) (rest := []) (lenOf (pd_d3) rfl) rfl (by show 2 * 0 + _ ≤ _; exact Nat.le_of_eq rfl) (hb hby at_332) (fun _ _ => ⟨rfl, eq81, (Nat.le_of_ble_eq_true rfl), (Nat.le_of_ble_eq_true rfl)⟩)
  dsimp only [Pt.U, Pt.locs, Pt.cells, Pt.slots] at X82 l82 y82 z82 st82 hQ82
  subst l82 y82 z82
  obtain ⟨rfl, Nq82, eq82⟩ := hQ82
  have N82 := Fr.app N81 Nq82
  refine own_st (U' := (T82.setTop (mkF m 335 #[.val (.int i0), .val (.int i1), .val (.int i2), .val (.int i3), .val (.int i4), .val (.int i5), .val (.ref a), .val (.int bv), .val (.ref b), .val (.int p1), .val (.int pc), .val (.int p2), .val (.int fB), .val (.int fA), .val (.ref b69), .val (.ref b72), .val (.ref b75), .val (.ref q1), .val (.int (own_pp (((i5.toUInt32 >>> ((8 : Int32) &&& 31).toUInt32).toInt32) &&& (3 : Int32)) p1 p2 i4)), .val (.ref q2), .val (.int (own_pp (((i5.toUInt32 >>> ((12 : Int32) &&& 31).toUInt32).toInt32) &&& (3 : Int32)) p1 p2 i4)), .unset, .unset, .unset, .unset, .unset] [(.int (own_b (own_M3 i0 i1 p1 fB b0 b1 p2 fA (own_pk0 (((i5.toUInt32 >>> ((6 : Int32) &&& 31).toUInt32).toInt32) &&& (3 : Int32)) i0 b0 i4) (own_pk1 (((i5.toUInt32 >>> ((6 : Int32) &&& 31).toUInt32).toInt32) &&& (3 : Int32)) i1 b1 i4) (own_pp (((i5.toUInt32 >>> ((8 : Int32) &&& 31).toUInt32).toInt32) &&& (3 : Int32)) p1 p2 i4))))]))) st82 ?_
  refine own_st (U' := (T82.setTop (mkF m 337 #[.val (.int i0), .val (.int i1), .val (.int i2), .val (.int i3), .val (.int i4), .val (.int i5), .val (.ref a), .val (.int bv), .val (.ref b), .val (.int p1), .val (.int pc), .val (.int p2), .val (.int fB), .val (.int fA), .val (.ref b69), .val (.ref b72), .val (.ref b75), .val (.ref q1), .val (.int (own_pp (((i5.toUInt32 >>> ((8 : Int32) &&& 31).toUInt32).toInt32) &&& (3 : Int32)) p1 p2 i4)), .val (.ref q2), .val (.int (own_pp (((i5.toUInt32 >>> ((12 : Int32) &&& 31).toUInt32).toInt32) &&& (3 : Int32)) p1 p2 i4)), .val (.int (own_b (own_M3 i0 i1 p1 fB b0 b1 p2 fA (own_pk0 (((i5.toUInt32 >>> ((6 : Int32) &&& 31).toUInt32).toInt32) &&& (3 : Int32)) i0 b0 i4) (own_pk1 (((i5.toUInt32 >>> ((6 : Int32) &&& 31).toUInt32).toInt32) &&& (3 : Int32)) i1 b1 i4) (own_pp (((i5.toUInt32 >>> ((8 : Int32) &&& 31).toUInt32).toInt32) &&& (3 : Int32)) p1 p2 i4)))), .unset, .unset, .unset, .unset] []))) (fun _ k => XS.istore X82.here hx rfl (hb hby at_335) rfl (l' := #[.val (.int i0), .val (.int i1), .val (.int i2), .val (.int i3), .val (.int i4), .val (.int i5), .val (.ref a), .val (.int bv), .val (.ref b), .val (.int p1), .val (.int pc), .val (.int p2), .val (.int fB), .val (.int fA), .val (.ref b69), .val (.ref b72), .val (.ref b75), .val (.ref q1), .val (.int (own_pp (((i5.toUInt32 >>> ((8 : Int32) &&& 31).toUInt32).toInt32) &&& (3 : Int32)) p1 p2 i4)), .val (.ref q2), .val (.int (own_pp (((i5.toUInt32 >>> ((12 : Int32) &&& 31).toUInt32).toInt32) &&& (3 : Int32)) p1 p2 i4)), .val (.int (own_b (own_M3 i0 i1 p1 fB b0 b1 p2 fA (own_pk0 (((i5.toUInt32 >>> ((6 : Int32) &&& 31).toUInt32).toInt32) &&& (3 : Int32)) i0 b0 i4) (own_pk1 (((i5.toUInt32 >>> ((6 : Int32) &&& 31).toUInt32).toInt32) &&& (3 : Int32)) i1 b1 i4) (own_pp (((i5.toUInt32 >>> ((8 : Int32) &&& 31).toUInt32).toInt32) &&& (3 : Int32)) p1 p2 i4)))), .unset, .unset, .unset, .unset]) rfl k) ?_
  refine own_st (U' := (T82.setTop (mkF m 339 #[.val (.int i0), .val (.int i1), .val (.int i2), .val (.int i3), .val (.int i4), .val (.int i5), .val (.ref a), .val (.int bv), .val (.ref b), .val (.int p1), .val (.int pc), .val (.int p2), .val (.int fB), .val (.int fA), .val (.ref b69), .val (.ref b72), .val (.ref b75), .val (.ref q1), .val (.int (own_pp (((i5.toUInt32 >>> ((8 : Int32) &&& 31).toUInt32).toInt32) &&& (3 : Int32)) p1 p2 i4)), .val (.ref q2), .val (.int (own_pp (((i5.toUInt32 >>> ((12 : Int32) &&& 31).toUInt32).toInt32) &&& (3 : Int32)) p1 p2 i4)), .val (.int (own_b (own_M3 i0 i1 p1 fB b0 b1 p2 fA (own_pk0 (((i5.toUInt32 >>> ((6 : Int32) &&& 31).toUInt32).toInt32) &&& (3 : Int32)) i0 b0 i4) (own_pk1 (((i5.toUInt32 >>> ((6 : Int32) &&& 31).toUInt32).toInt32) &&& (3 : Int32)) i1 b1 i4) (own_pp (((i5.toUInt32 >>> ((8 : Int32) &&& 31).toUInt32).toInt32) &&& (3 : Int32)) p1 p2 i4)))), .unset, .unset, .unset, .unset] [(.ref q2)]))) (fun _ k => XS.aload X82.here hx rfl (hb hby at_337) rfl rfl k) ?_
  refine own_st (U' := (T82.setTop (mkF m 341 #[.val (.int i0), .val (.int i1), .val (.int i2), .val (.int i3), .val (.int i4), .val (.int i5), .val (.ref a), .val (.int bv), .val (.ref b), .val (.int p1), .val (.int pc), .val (.int p2), .val (.int fB), .val (.int fA), .val (.ref b69), .val (.ref b72), .val (.ref b75), .val (.ref q1), .val (.int (own_pp (((i5.toUInt32 >>> ((8 : Int32) &&& 31).toUInt32).toInt32) &&& (3 : Int32)) p1 p2 i4)), .val (.ref q2), .val (.int (own_pp (((i5.toUInt32 >>> ((12 : Int32) &&& 31).toUInt32).toInt32) &&& (3 : Int32)) p1 p2 i4)), .val (.int (own_b (own_M3 i0 i1 p1 fB b0 b1 p2 fA (own_pk0 (((i5.toUInt32 >>> ((6 : Int32) &&& 31).toUInt32).toInt32) &&& (3 : Int32)) i0 b0 i4) (own_pk1 (((i5.toUInt32 >>> ((6 : Int32) &&& 31).toUInt32).toInt32) &&& (3 : Int32)) i1 b1 i4) (own_pp (((i5.toUInt32 >>> ((8 : Int32) &&& 31).toUInt32).toInt32) &&& (3 : Int32)) p1 p2 i4)))), .unset, .unset, .unset, .unset] [(.int (own_pp (((i5.toUInt32 >>> ((12 : Int32) &&& 31).toUInt32).toInt32) &&& (3 : Int32)) p1 p2 i4)), (.ref q2)]))) (fun _ k => XS.iload X82.here hx rfl (hb hby at_339) rfl k) ?_
  refine own_st (U' := (T82.setTop (mkF m 343 #[.val (.int i0), .val (.int i1), .val (.int i2), .val (.int i3), .val (.int i4), .val (.int i5), .val (.ref a), .val (.int bv), .val (.ref b), .val (.int p1), .val (.int pc), .val (.int p2), .val (.int fB), .val (.int fA), .val (.ref b69), .val (.ref b72), .val (.ref b75), .val (.ref q1), .val (.int (own_pp (((i5.toUInt32 >>> ((8 : Int32) &&& 31).toUInt32).toInt32) &&& (3 : Int32)) p1 p2 i4)), .val (.ref q2), .val (.int (own_pp (((i5.toUInt32 >>> ((12 : Int32) &&& 31).toUInt32).toInt32) &&& (3 : Int32)) p1 p2 i4)), .val (.int (own_b (own_M3 i0 i1 p1 fB b0 b1 p2 fA (own_pk0 (((i5.toUInt32 >>> ((6 : Int32) &&& 31).toUInt32).toInt32) &&& (3 : Int32)) i0 b0 i4) (own_pk1 (((i5.toUInt32 >>> ((6 : Int32) &&& 31).toUInt32).toInt32) &&& (3 : Int32)) i1 b1 i4) (own_pp (((i5.toUInt32 >>> ((8 : Int32) &&& 31).toUInt32).toInt32) &&& (3 : Int32)) p1 p2 i4)))), .unset, .unset, .unset, .unset] [(.ref a), (.int (own_pp (((i5.toUInt32 >>> ((12 : Int32) &&& 31).toUInt32).toInt32) &&& (3 : Int32)) p1 p2 i4)), (.ref q2)]))) (fun _ k => XS.aload X82.here hx rfl (hb hby at_341) rfl rfl k) ?_
  refine own_st (U' := (T82.setTop (mkF m 345 #[.val (.int i0), .val (.int i1), .val (.int i2), .val (.int i3), .val (.int i4), .val (.int i5), .val (.ref a), .val (.int bv), .val (.ref b), .val (.int p1), .val (.int pc), .val (.int p2), .val (.int fB), .val (.int fA), .val (.ref b69), .val (.ref b72), .val (.ref b75), .val (.ref q1), .val (.int (own_pp (((i5.toUInt32 >>> ((8 : Int32) &&& 31).toUInt32).toInt32) &&& (3 : Int32)) p1 p2 i4)), .val (.ref q2), .val (.int (own_pp (((i5.toUInt32 >>> ((12 : Int32) &&& 31).toUInt32).toInt32) &&& (3 : Int32)) p1 p2 i4)), .val (.int (own_b (own_M3 i0 i1 p1 fB b0 b1 p2 fA (own_pk0 (((i5.toUInt32 >>> ((6 : Int32) &&& 31).toUInt32).toInt32) &&& (3 : Int32)) i0 b0 i4) (own_pk1 (((i5.toUInt32 >>> ((6 : Int32) &&& 31).toUInt32).toInt32) &&& (3 : Int32)) i1 b1 i4) (own_pp (((i5.toUInt32 >>> ((8 : Int32) &&& 31).toUInt32).toInt32) &&& (3 : Int32)) p1 p2 i4)))), .unset, .unset, .unset, .unset] [(.int p1), (.ref a), (.int (own_pp (((i5.toUInt32 >>> ((12 : Int32) &&& 31).toUInt32).toInt32) &&& (3 : Int32)) p1 p2 i4)), (.ref q2)]))) (fun _ k => XS.iload X82.here hx rfl (hb hby at_343) rfl k) ?_
  refine own_st (U' := (T82.setTop (mkF m 347 #[.val (.int i0), .val (.int i1), .val (.int i2), .val (.int i3), .val (.int i4), .val (.int i5), .val (.ref a), .val (.int bv), .val (.ref b), .val (.int p1), .val (.int pc), .val (.int p2), .val (.int fB), .val (.int fA), .val (.ref b69), .val (.ref b72), .val (.ref b75), .val (.ref q1), .val (.int (own_pp (((i5.toUInt32 >>> ((8 : Int32) &&& 31).toUInt32).toInt32) &&& (3 : Int32)) p1 p2 i4)), .val (.ref q2), .val (.int (own_pp (((i5.toUInt32 >>> ((12 : Int32) &&& 31).toUInt32).toInt32) &&& (3 : Int32)) p1 p2 i4)), .val (.int (own_b (own_M3 i0 i1 p1 fB b0 b1 p2 fA (own_pk0 (((i5.toUInt32 >>> ((6 : Int32) &&& 31).toUInt32).toInt32) &&& (3 : Int32)) i0 b0 i4) (own_pk1 (((i5.toUInt32 >>> ((6 : Int32) &&& 31).toUInt32).toInt32) &&& (3 : Int32)) i1 b1 i4) (own_pp (((i5.toUInt32 >>> ((8 : Int32) &&& 31).toUInt32).toInt32) &&& (3 : Int32)) p1 p2 i4)))), .unset, .unset, .unset, .unset] [(.int fB), (.int p1), (.ref a), (.int (own_pp (((i5.toUInt32 >>> ((12 : Int32) &&& 31).toUInt32).toInt32) &&& (3 : Int32)) p1 p2 i4)), (.ref q2)]))) (fun _ k => XS.iload X82.here hx rfl (hb hby at_345) rfl k) ?_
  refine own_st (U' := (T82.setTop (mkF m 349 #[.val (.int i0), .val (.int i1), .val (.int i2), .val (.int i3), .val (.int i4), .val (.int i5), .val (.ref a), .val (.int bv), .val (.ref b), .val (.int p1), .val (.int pc), .val (.int p2), .val (.int fB), .val (.int fA), .val (.ref b69), .val (.ref b72), .val (.ref b75), .val (.ref q1), .val (.int (own_pp (((i5.toUInt32 >>> ((8 : Int32) &&& 31).toUInt32).toInt32) &&& (3 : Int32)) p1 p2 i4)), .val (.ref q2), .val (.int (own_pp (((i5.toUInt32 >>> ((12 : Int32) &&& 31).toUInt32).toInt32) &&& (3 : Int32)) p1 p2 i4)), .val (.int (own_b (own_M3 i0 i1 p1 fB b0 b1 p2 fA (own_pk0 (((i5.toUInt32 >>> ((6 : Int32) &&& 31).toUInt32).toInt32) &&& (3 : Int32)) i0 b0 i4) (own_pk1 (((i5.toUInt32 >>> ((6 : Int32) &&& 31).toUInt32).toInt32) &&& (3 : Int32)) i1 b1 i4) (own_pp (((i5.toUInt32 >>> ((8 : Int32) &&& 31).toUInt32).toInt32) &&& (3 : Int32)) p1 p2 i4)))), .unset, .unset, .unset, .unset] [(.ref b), (.int fB), (.int p1), (.ref a), (.int (own_pp (((i5.toUInt32 >>> ((12 : Int32) &&& 31).toUInt32).toInt32) &&& (3 : Int32)) p1 p2 i4)), (.ref q2)]))) (fun _ k => XS.aload X82.here hx rfl (hb hby at_347) rfl rfl k) ?_
  refine own_st (U' := (T82.setTop (mkF m 351 #[.val (.int i0), .val (.int i1), .val (.int i2), .val (.int i3), .val (.int i4), .val (.int i5), .val (.ref a), .val (.int bv), .val (.ref b), .val (.int p1), .val (.int pc), .val (.int p2), .val (.int fB), .val (.int fA), .val (.ref b69), .val (.ref b72), .val (.ref b75), .val (.ref q1), .val (.int (own_pp (((i5.toUInt32 >>> ((8 : Int32) &&& 31).toUInt32).toInt32) &&& (3 : Int32)) p1 p2 i4)), .val (.ref q2), .val (.int (own_pp (((i5.toUInt32 >>> ((12 : Int32) &&& 31).toUInt32).toInt32) &&& (3 : Int32)) p1 p2 i4)), .val (.int (own_b (own_M3 i0 i1 p1 fB b0 b1 p2 fA (own_pk0 (((i5.toUInt32 >>> ((6 : Int32) &&& 31).toUInt32).toInt32) &&& (3 : Int32)) i0 b0 i4) (own_pk1 (((i5.toUInt32 >>> ((6 : Int32) &&& 31).toUInt32).toInt32) &&& (3 : Int32)) i1 b1 i4) (own_pp (((i5.toUInt32 >>> ((8 : Int32) &&& 31).toUInt32).toInt32) &&& (3 : Int32)) p1 p2 i4)))), .unset, .unset, .unset, .unset] [(.int p2), (.ref b), (.int fB), (.int p1), (.ref a), (.int (own_pp (((i5.toUInt32 >>> ((12 : Int32) &&& 31).toUInt32).toInt32) &&& (3 : Int32)) p1 p2 i4)), (.ref q2)]))) (fun _ k => XS.iload X82.here hx rfl (hb hby at_349) rfl k) ?_
  refine own_st (U' := (T82.setTop (mkF m 353 #[.val (.int i0), .val (.int i1), .val (.int i2), .val (.int i3), .val (.int i4), .val (.int i5), .val (.ref a), .val (.int bv), .val (.ref b), .val (.int p1), .val (.int pc), .val (.int p2), .val (.int fB), .val (.int fA), .val (.ref b69), .val (.ref b72), .val (.ref b75), .val (.ref q1), .val (.int (own_pp (((i5.toUInt32 >>> ((8 : Int32) &&& 31).toUInt32).toInt32) &&& (3 : Int32)) p1 p2 i4)), .val (.ref q2), .val (.int (own_pp (((i5.toUInt32 >>> ((12 : Int32) &&& 31).toUInt32).toInt32) &&& (3 : Int32)) p1 p2 i4)), .val (.int (own_b (own_M3 i0 i1 p1 fB b0 b1 p2 fA (own_pk0 (((i5.toUInt32 >>> ((6 : Int32) &&& 31).toUInt32).toInt32) &&& (3 : Int32)) i0 b0 i4) (own_pk1 (((i5.toUInt32 >>> ((6 : Int32) &&& 31).toUInt32).toInt32) &&& (3 : Int32)) i1 b1 i4) (own_pp (((i5.toUInt32 >>> ((8 : Int32) &&& 31).toUInt32).toInt32) &&& (3 : Int32)) p1 p2 i4)))), .unset, .unset, .unset, .unset] [(.int fA), (.int p2), (.ref b), (.int fB), (.int p1), (.ref a), (.int (own_pp (((i5.toUInt32 >>> ((12 : Int32) &&& 31).toUInt32).toInt32) &&& (3 : Int32)) p1 p2 i4)), (.ref q2)]))) (fun _ k => XS.iload X82.here hx rfl (hb hby at_351) rfl k) ?_
  obtain ⟨_, _, ⟨T83, L83, k83, n83⟩, -, X83, ⟨Lc83, hQ83, l83, y83, z83⟩, st83⟩ := Jvm.LawKit.callS X82 hx (y := (⟨"com/example/quorum/quorum/FailedStatesContainsPinLaw", "expect", "([II[IIZ[IIZ)Z"⟩ : MethodName)) hown (mvT hZ (hw _ (List.mem_of_getElem? (i := 9) rfl))) (mvT hZ (hw _ (List.mem_of_getElem? (i := 10) rfl))) (mvT hZ (hw _ (List.mem_of_getElem? (i := 4) rfl))) (mvT hZ (hw _ (List.mem_of_getElem? (i := 11) rfl))) (by decide) (backOf (W := 0) (rmEx l Z a0 hw [] q2 (own_pp (((i5.toUInt32 >>> ((12 : Int32) &&& 31).toUInt32).toInt32) &&& (3 : Int32)) p1 p2 i4) a p1 fB b p2 fA (own_pk0 (((i5.toUInt32 >>> ((10 : Int32) &&& 31).toUInt32).toInt32) &&& (3 : Int32)) i0 b0 i4) (own_pk1 (((i5.toUInt32 >>> ((10 : Int32) &&& 31).toUInt32).toInt32) &&& (3 : Int32)) i1 b1 i4) i0 i1 b0 b1 T80.heap n0 Z80 V_q2 V_a V_b) hZ (hw _ (List.mem_of_getElem? (i := 11) rfl)) (hw _ (List.mem_of_getElem? (i := 4) rfl)) (by decide) (by decide)) (g := (mkF m 353 #[.val (.int i0), .val (.int i1), .val (.int i2), .val (.int i3), .val (.int i4), .val (.int i5), .val (.ref a), .val (.int bv), .val (.ref b), .val (.int p1), .val (.int pc), .val (.int p2), .val (.int fB), .val (.int fA), .val (.ref b69), .val (.ref b72), .val (.ref b75), .val (.ref q1), .val (.int (own_pp (((i5.toUInt32 >>> ((8 : Int32) &&& 31).toUInt32).toInt32) &&& (3 : Int32)) p1 p2 i4)), .val (.ref q2), .val (.int (own_pp (((i5.toUInt32 >>> ((12 : Int32) &&& 31).toUInt32).toInt32) &&& (3 : Int32)) p1 p2 i4)), .val (.int (own_b (own_M3 i0 i1 p1 fB b0 b1 p2 fA (own_pk0 (((i5.toUInt32 >>> ((6 : Int32) &&& 31).toUInt32).toInt32) &&& (3 : Int32)) i0 b0 i4) (own_pk1 (((i5.toUInt32 >>> ((6 : Int32) &&& 31).toUInt32).toInt32) &&& (3 : Int32)) i1 b1 i4) (own_pp (((i5.toUInt32 >>> ((8 : Int32) &&& 31).toUInt32).toInt32) &&& (3 : Int32)) p1 p2 i4)))), .unset, .unset, .unset, .unset] [(.int fA), (.int p2), (.ref b), (.int fB), (.int p1), (.ref a), (.int (own_pp (((i5.toUInt32 >>> ((12 : Int32) &&& 31).toUInt32).toInt32) &&& (3 : Int32)) p1 p2 i4)), (.ref q2)])) rfl (by rw [hml]; rfl) (argsL := [(.ref q2), (.int (own_pp (((i5.toUInt32 >>> ((12 : Int32) &&& 31).toUInt32).toInt32) &&& (3 : Int32)) p1 p2 i4)), (.ref a), (.int p1), (.int fB), (.ref b), (.int p2), (.int fA)]) (rest := []) (lenOf (pd_d3) rfl) rfl (by show 2 * 0 + _ ≤ _; exact Nat.le_of_eq rfl) (hb hby at_353) (fun _ _ => ⟨rfl, eq82, (Nat.le_of_ble_eq_true rfl), (Nat.le_of_ble_eq_true rfl)⟩)
  dsimp only [Pt.U, Pt.locs, Pt.cells, Pt.slots] at X83 l83 y83 z83 st83 hQ83
  subst l83 y83 z83
  obtain ⟨rfl, Nq83, eq83⟩ := hQ83
  have N83 := Fr.app N82 Nq83
  refine own_st (U' := (T83.setTop (mkF m 356 #[.val (.int i0), .val (.int i1), .val (.int i2), .val (.int i3), .val (.int i4), .val (.int i5), .val (.ref a), .val (.int bv), .val (.ref b), .val (.int p1), .val (.int pc), .val (.int p2), .val (.int fB), .val (.int fA), .val (.ref b69), .val (.ref b72), .val (.ref b75), .val (.ref q1), .val (.int (own_pp (((i5.toUInt32 >>> ((8 : Int32) &&& 31).toUInt32).toInt32) &&& (3 : Int32)) p1 p2 i4)), .val (.ref q2), .val (.int (own_pp (((i5.toUInt32 >>> ((12 : Int32) &&& 31).toUInt32).toInt32) &&& (3 : Int32)) p1 p2 i4)), .val (.int (own_b (own_M3 i0 i1 p1 fB b0 b1 p2 fA (own_pk0 (((i5.toUInt32 >>> ((6 : Int32) &&& 31).toUInt32).toInt32) &&& (3 : Int32)) i0 b0 i4) (own_pk1 (((i5.toUInt32 >>> ((6 : Int32) &&& 31).toUInt32).toInt32) &&& (3 : Int32)) i1 b1 i4) (own_pp (((i5.toUInt32 >>> ((8 : Int32) &&& 31).toUInt32).toInt32) &&& (3 : Int32)) p1 p2 i4)))), .unset, .unset, .unset, .unset] [(.int (own_b (own_M3 i0 i1 p1 fB b0 b1 p2 fA (own_pk0 (((i5.toUInt32 >>> ((10 : Int32) &&& 31).toUInt32).toInt32) &&& (3 : Int32)) i0 b0 i4) (own_pk1 (((i5.toUInt32 >>> ((10 : Int32) &&& 31).toUInt32).toInt32) &&& (3 : Int32)) i1 b1 i4) (own_pp (((i5.toUInt32 >>> ((12 : Int32) &&& 31).toUInt32).toInt32) &&& (3 : Int32)) p1 p2 i4))))]))) st83 ?_
  refine own_st (U' := (T83.setTop (mkF m 358 #[.val (.int i0), .val (.int i1), .val (.int i2), .val (.int i3), .val (.int i4), .val (.int i5), .val (.ref a), .val (.int bv), .val (.ref b), .val (.int p1), .val (.int pc), .val (.int p2), .val (.int fB), .val (.int fA), .val (.ref b69), .val (.ref b72), .val (.ref b75), .val (.ref q1), .val (.int (own_pp (((i5.toUInt32 >>> ((8 : Int32) &&& 31).toUInt32).toInt32) &&& (3 : Int32)) p1 p2 i4)), .val (.ref q2), .val (.int (own_pp (((i5.toUInt32 >>> ((12 : Int32) &&& 31).toUInt32).toInt32) &&& (3 : Int32)) p1 p2 i4)), .val (.int (own_b (own_M3 i0 i1 p1 fB b0 b1 p2 fA (own_pk0 (((i5.toUInt32 >>> ((6 : Int32) &&& 31).toUInt32).toInt32) &&& (3 : Int32)) i0 b0 i4) (own_pk1 (((i5.toUInt32 >>> ((6 : Int32) &&& 31).toUInt32).toInt32) &&& (3 : Int32)) i1 b1 i4) (own_pp (((i5.toUInt32 >>> ((8 : Int32) &&& 31).toUInt32).toInt32) &&& (3 : Int32)) p1 p2 i4)))), .val (.int (own_b (own_M3 i0 i1 p1 fB b0 b1 p2 fA (own_pk0 (((i5.toUInt32 >>> ((10 : Int32) &&& 31).toUInt32).toInt32) &&& (3 : Int32)) i0 b0 i4) (own_pk1 (((i5.toUInt32 >>> ((10 : Int32) &&& 31).toUInt32).toInt32) &&& (3 : Int32)) i1 b1 i4) (own_pp (((i5.toUInt32 >>> ((12 : Int32) &&& 31).toUInt32).toInt32) &&& (3 : Int32)) p1 p2 i4)))), .unset, .unset, .unset] []))) (fun _ k => XS.istore X83.here hx rfl (hb hby at_356) rfl (l' := #[.val (.int i0), .val (.int i1), .val (.int i2), .val (.int i3), .val (.int i4), .val (.int i5), .val (.ref a), .val (.int bv), .val (.ref b), .val (.int p1), .val (.int pc), .val (.int p2), .val (.int fB), .val (.int fA), .val (.ref b69), .val (.ref b72), .val (.ref b75), .val (.ref q1), .val (.int (own_pp (((i5.toUInt32 >>> ((8 : Int32) &&& 31).toUInt32).toInt32) &&& (3 : Int32)) p1 p2 i4)), .val (.ref q2), .val (.int (own_pp (((i5.toUInt32 >>> ((12 : Int32) &&& 31).toUInt32).toInt32) &&& (3 : Int32)) p1 p2 i4)), .val (.int (own_b (own_M3 i0 i1 p1 fB b0 b1 p2 fA (own_pk0 (((i5.toUInt32 >>> ((6 : Int32) &&& 31).toUInt32).toInt32) &&& (3 : Int32)) i0 b0 i4) (own_pk1 (((i5.toUInt32 >>> ((6 : Int32) &&& 31).toUInt32).toInt32) &&& (3 : Int32)) i1 b1 i4) (own_pp (((i5.toUInt32 >>> ((8 : Int32) &&& 31).toUInt32).toInt32) &&& (3 : Int32)) p1 p2 i4)))), .val (.int (own_b (own_M3 i0 i1 p1 fB b0 b1 p2 fA (own_pk0 (((i5.toUInt32 >>> ((10 : Int32) &&& 31).toUInt32).toInt32) &&& (3 : Int32)) i0 b0 i4) (own_pk1 (((i5.toUInt32 >>> ((10 : Int32) &&& 31).toUInt32).toInt32) &&& (3 : Int32)) i1 b1 i4) (own_pp (((i5.toUInt32 >>> ((12 : Int32) &&& 31).toUInt32).toInt32) &&& (3 : Int32)) p1 p2 i4)))), .unset, .unset, .unset]) rfl k) ?_
  exact own_t358 i0 i1 i2 i3 i4 i5 bv p1 pc p2 fB fA (own_pp (((i5.toUInt32 >>> ((8 : Int32) &&& 31).toUInt32).toInt32) &&& (3 : Int32)) p1 p2 i4) (own_pp (((i5.toUInt32 >>> ((12 : Int32) &&& 31).toUInt32).toInt32) &&& (3 : Int32)) p1 p2 i4) _ _ (own_pk0 (((i5.toUInt32 >>> ((6 : Int32) &&& 31).toUInt32).toInt32) &&& (3 : Int32)) i0 b0 i4) (own_pk1 (((i5.toUInt32 >>> ((6 : Int32) &&& 31).toUInt32).toInt32) &&& (3 : Int32)) i1 b1 i4) (own_pk0 (((i5.toUInt32 >>> ((10 : Int32) &&& 31).toUInt32).toInt32) &&& (3 : Int32)) i0 b0 i4) (own_pk1 (((i5.toUInt32 >>> ((10 : Int32) &&& 31).toUInt32).toInt32) &&& (3 : Int32)) i1 b1 i4) i0 i1 b0 b1 a b b69 b72 b75 q1 q2 hx hZ hw hby hml hown hret hlk X83 eq83 N83 Z80 V_q1 V_q2 V_x14 V_x15 V_x16 (own_pp_pos hp1 hp2) (own_pp_pos hp1 hp2) hp1 hp2 rfl rfl
set_option maxRecDepth 65536 in
set_option maxHeartbeats 40000000 in
theorem own_t167 {p : Program} {l : Launch} {e : Env} {s : State} {m : MethodId} {below : List Frame} {meth : Method} {c : Code} {Z : State} {a0 : Array Value} {T : State} {locs : List Loc} {n0 : Nat} (i0 i1 i2 i3 i4 i5 bv p1 pc p2 b0 b1 : Int32) (a b : Addr)  (hx : p.tables.exec = Jvm.exec) (hZ : Z.Warmed39 s.vm) (hw : ∀ d ∈ tables_1, d.before a0 Z = true) (hby : c.code = code) (hml : c.maxLocals = 26) (hown : s.vm.findClass "com/example/quorum/quorum/FailedStatesContainsPinLaw" = some m.cls) (hret : meth.sig.returnType = some .boolean) (hlk : meth.locks = false) {h : Heap} (X : Stand p l e room_1 s m #[(.int i0), (.int i1), (.int i2), (.int i3), (.int i4), (.int i5)] below meth c T locs 2 4) (eT : T.heap = h) (N : Fr n0 locs) (Zn : n0 ≤ h.size) (V_a : own_A Z h a .int 2 (own_L [i0, i1])) (V_b : own_A Z h b .int 2 (own_L [b0, b1])) (hp1 : ¬ p1 < 0) (hp2 : ¬ p2 < 0) :
    own_Ends p e s below (fun v _ L => v = some (.int 1) ∧ Fr n0 L) 32 256 (T.setTop (mkF m 167 #[.val (.int i0), .val (.int i1), .val (.int i2), .val (.int i3), .val (.int i4), .val (.int i5), .val (.ref a), .val (.int bv), .val (.ref b), .val (.int p1), .val (.int pc), .val (.int p2), .unset, .unset, .unset, .unset, .unset, .unset, .unset, .unset, .unset, .unset, .unset, .unset, .unset, .unset] [])) := by
  have tail2 : ∀ fB fA : Int32, own_Ends p e s below (fun v _ L => v = some (.int 1) ∧ Fr n0 L) 32 256 (T.setTop (mkF m 197 #[.val (.int i0), .val (.int i1), .val (.int i2), .val (.int i3), .val (.int i4), .val (.int i5), .val (.ref a), .val (.int bv), .val (.ref b), .val (.int p1), .val (.int pc), .val (.int p2), .val (.int fB), .unset, .unset, .unset, .unset, .unset, .unset, .unset, .unset, .unset, .unset, .unset, .unset, .unset] [(.int fA)])) := by
    intro fB fA
    refine own_st (U' := (T.setTop (mkF m 199 #[.val (.int i0), .val (.int i1), .val (.int i2), .val (.int i3), .val (.int i4), .val (.int i5), .val (.ref a), .val (.int bv), .val (.ref b), .val (.int p1), .val (.int pc), .val (.int p2), .val (.int fB), .val (.int fA), .unset, .unset, .unset, .unset, .unset, .unset, .unset, .unset, .unset, .unset, .unset, .unset] []))) (fun _ k => XS.istore X.here hx rfl (hb hby at_197) rfl (l' := #[.val (.int i0), .val (.int i1), .val (.int i2), .val (.int i3), .val (.int i4), .val (.int i5), .val (.ref a), .val (.int bv), .val (.ref b), .val (.int p1), .val (.int pc), .val (.int p2), .val (.int fB), .val (.int fA), .unset, .unset, .unset, .unset, .unset, .unset, .unset, .unset, .unset, .unset, .unset, .unset]) rfl k) ?_
    exact own_t199 i0 i1 i2 i3 i4 i5 bv p1 pc p2 fB fA b0 b1 a b hx hZ hw hby hml hown hret hlk X eT N Zn V_a V_b hp1 hp2
  have tail1 : ∀ fB : Int32, own_Ends p e s below (fun v _ L => v = some (.int 1) ∧ Fr n0 L) 32 256 (T.setTop (mkF m 181 #[.val (.int i0), .val (.int i1), .val (.int i2), .val (.int i3), .val (.int i4), .val (.int i5), .val (.ref a), .val (.int bv), .val (.ref b), .val (.int p1), .val (.int pc), .val (.int p2), .unset, .unset, .unset, .unset, .unset, .unset, .unset, .unset, .unset, .unset, .unset, .unset, .unset, .unset] [(.int fB)])) := by
    intro fB
    refine own_st (U' := (T.setTop (mkF m 183 #[.val (.int i0), .val (.int i1), .val (.int i2), .val (.int i3), .val (.int i4), .val (.int i5), .val (.ref a), .val (.int bv), .val (.ref b), .val (.int p1), .val (.int pc), .val (.int p2), .val (.int fB), .unset, .unset, .unset, .unset, .unset, .unset, .unset, .unset, .unset, .unset, .unset, .unset, .unset] []))) (fun _ k => XS.istore X.here hx rfl (hb hby at_181) rfl (l' := #[.val (.int i0), .val (.int i1), .val (.int i2), .val (.int i3), .val (.int i4), .val (.int i5), .val (.ref a), .val (.int bv), .val (.ref b), .val (.int p1), .val (.int pc), .val (.int p2), .val (.int fB), .unset, .unset, .unset, .unset, .unset, .unset, .unset, .unset, .unset, .unset, .unset, .unset, .unset]) rfl k) ?_
    refine own_st (U' := (T.setTop (mkF m 185 #[.val (.int i0), .val (.int i1), .val (.int i2), .val (.int i3), .val (.int i4), .val (.int i5), .val (.ref a), .val (.int bv), .val (.ref b), .val (.int p1), .val (.int pc), .val (.int p2), .val (.int fB), .unset, .unset, .unset, .unset, .unset, .unset, .unset, .unset, .unset, .unset, .unset, .unset, .unset] [(.int i5)]))) (fun _ k => XS.iload X.here hx rfl (hb hby at_183) rfl k) ?_
    refine own_st (U' := (T.setTop (mkF m 186 #[.val (.int i0), .val (.int i1), .val (.int i2), .val (.int i3), .val (.int i4), .val (.int i5), .val (.ref a), .val (.int bv), .val (.ref b), .val (.int p1), .val (.int pc), .val (.int p2), .val (.int fB), .unset, .unset, .unset, .unset, .unset, .unset, .unset, .unset, .unset, .unset, .unset, .unset, .unset] [(.int (5 : Int32)), (.int i5)]))) (fun _ k => XS.iconst X.here hx rfl (hb hby at_185) k) ?_
    refine own_st (U' := (T.setTop (mkF m 187 #[.val (.int i0), .val (.int i1), .val (.int i2), .val (.int i3), .val (.int i4), .val (.int i5), .val (.ref a), .val (.int bv), .val (.ref b), .val (.int p1), .val (.int pc), .val (.int p2), .val (.int fB), .unset, .unset, .unset, .unset, .unset, .unset, .unset, .unset, .unset, .unset, .unset, .unset, .unset] [(.int ((i5.toUInt32 >>> ((5 : Int32) &&& 31).toUInt32).toInt32))]))) (fun _ k => XS.iushr X.here hx rfl (hb hby at_186) rfl k) ?_
    refine own_st (U' := (T.setTop (mkF m 188 #[.val (.int i0), .val (.int i1), .val (.int i2), .val (.int i3), .val (.int i4), .val (.int i5), .val (.ref a), .val (.int bv), .val (.ref b), .val (.int p1), .val (.int pc), .val (.int p2), .val (.int fB), .unset, .unset, .unset, .unset, .unset, .unset, .unset, .unset, .unset, .unset, .unset, .unset, .unset] [(.int (1 : Int32)), (.int ((i5.toUInt32 >>> ((5 : Int32) &&& 31).toUInt32).toInt32))]))) (fun _ k => XS.iconst X.here hx rfl (hb hby at_187) k) ?_
    refine own_st (U' := (T.setTop (mkF m 189 #[.val (.int i0), .val (.int i1), .val (.int i2), .val (.int i3), .val (.int i4), .val (.int i5), .val (.ref a), .val (.int bv), .val (.ref b), .val (.int p1), .val (.int pc), .val (.int p2), .val (.int fB), .unset, .unset, .unset, .unset, .unset, .unset, .unset, .unset, .unset, .unset, .unset, .unset, .unset] [(.int (((i5.toUInt32 >>> ((5 : Int32) &&& 31).toUInt32).toInt32) &&& (1 : Int32)))]))) (fun _ k => XS.iand X.here hx rfl (hb hby at_188) rfl k) ?_
    by_cases c5 : (((i5.toUInt32 >>> ((5 : Int32) &&& 31).toUInt32).toInt32) &&& (1 : Int32)) = (0 : Int32)
    · skip
      refine own_st (U' := (T.setTop (mkF m 196 #[.val (.int i0), .val (.int i1), .val (.int i2), .val (.int i3), .val (.int i4), .val (.int i5), .val (.ref a), .val (.int bv), .val (.ref b), .val (.int p1), .val (.int pc), .val (.int p2), .val (.int fB), .unset, .unset, .unset, .unset, .unset, .unset, .unset, .unset, .unset, .unset, .unset, .unset, .unset] []))) (fun _ k => XS.ifYes X.here hx rfl (pc0 := 189) (pc' := 196) rfl (hb hby at_189) rfl ((if0 _ _).trans (teq c5).1) (by decide) (by decide) k) ?_
      refine own_st (U' := (T.setTop (mkF m 197 #[.val (.int i0), .val (.int i1), .val (.int i2), .val (.int i3), .val (.int i4), .val (.int i5), .val (.ref a), .val (.int bv), .val (.ref b), .val (.int p1), .val (.int pc), .val (.int p2), .val (.int fB), .unset, .unset, .unset, .unset, .unset, .unset, .unset, .unset, .unset, .unset, .unset, .unset, .unset] [(.int (0 : Int32))]))) (fun _ k => XS.iconst X.here hx rfl (hb hby at_196) k) ?_
      exact tail2 _ _
    · skip
      refine own_st (U' := (T.setTop (mkF m 192 #[.val (.int i0), .val (.int i1), .val (.int i2), .val (.int i3), .val (.int i4), .val (.int i5), .val (.ref a), .val (.int bv), .val (.ref b), .val (.int p1), .val (.int pc), .val (.int p2), .val (.int fB), .unset, .unset, .unset, .unset, .unset, .unset, .unset, .unset, .unset, .unset, .unset, .unset, .unset] []))) (fun _ k => XS.ifNo X.here hx rfl (hb hby at_189) rfl ((if0 _ _).trans (feq c5).1) k) ?_
      refine own_st (U' := (T.setTop (mkF m 193 #[.val (.int i0), .val (.int i1), .val (.int i2), .val (.int i3), .val (.int i4), .val (.int i5), .val (.ref a), .val (.int bv), .val (.ref b), .val (.int p1), .val (.int pc), .val (.int p2), .val (.int fB), .unset, .unset, .unset, .unset, .unset, .unset, .unset, .unset, .unset, .unset, .unset, .unset, .unset] [(.int (1 : Int32))]))) (fun _ k => XS.iconst X.here hx rfl (hb hby at_192) k) ?_
      refine own_st (U' := (T.setTop (mkF m 197 #[.val (.int i0), .val (.int i1), .val (.int i2), .val (.int i3), .val (.int i4), .val (.int i5), .val (.ref a), .val (.int bv), .val (.ref b), .val (.int p1), .val (.int pc), .val (.int p2), .val (.int fB), .unset, .unset, .unset, .unset, .unset, .unset, .unset, .unset, .unset, .unset, .unset, .unset, .unset] [(.int (1 : Int32))]))) (fun _ k => XS.goto X.here hx rfl (pc0 := 193) (pc' := 197) rfl (hb hby at_193) (by decide) (by decide) k) ?_
      exact tail2 _ _
  refine own_st (U' := (T.setTop (mkF m 169 #[.val (.int i0), .val (.int i1), .val (.int i2), .val (.int i3), .val (.int i4), .val (.int i5), .val (.ref a), .val (.int bv), .val (.ref b), .val (.int p1), .val (.int pc), .val (.int p2), .unset, .unset, .unset, .unset, .unset, .unset, .unset, .unset, .unset, .unset, .unset, .unset, .unset, .unset] [(.int i5)]))) (fun _ k => XS.iload X.here hx rfl (hb hby at_167) rfl k) ?_
  refine own_st (U' := (T.setTop (mkF m 170 #[.val (.int i0), .val (.int i1), .val (.int i2), .val (.int i3), .val (.int i4), .val (.int i5), .val (.ref a), .val (.int bv), .val (.ref b), .val (.int p1), .val (.int pc), .val (.int p2), .unset, .unset, .unset, .unset, .unset, .unset, .unset, .unset, .unset, .unset, .unset, .unset, .unset, .unset] [(.int (4 : Int32)), (.int i5)]))) (fun _ k => XS.iconst X.here hx rfl (hb hby at_169) k) ?_
  refine own_st (U' := (T.setTop (mkF m 171 #[.val (.int i0), .val (.int i1), .val (.int i2), .val (.int i3), .val (.int i4), .val (.int i5), .val (.ref a), .val (.int bv), .val (.ref b), .val (.int p1), .val (.int pc), .val (.int p2), .unset, .unset, .unset, .unset, .unset, .unset, .unset, .unset, .unset, .unset, .unset, .unset, .unset, .unset] [(.int ((i5.toUInt32 >>> ((4 : Int32) &&& 31).toUInt32).toInt32))]))) (fun _ k => XS.iushr X.here hx rfl (hb hby at_170) rfl k) ?_
  refine own_st (U' := (T.setTop (mkF m 172 #[.val (.int i0), .val (.int i1), .val (.int i2), .val (.int i3), .val (.int i4), .val (.int i5), .val (.ref a), .val (.int bv), .val (.ref b), .val (.int p1), .val (.int pc), .val (.int p2), .unset, .unset, .unset, .unset, .unset, .unset, .unset, .unset, .unset, .unset, .unset, .unset, .unset, .unset] [(.int (1 : Int32)), (.int ((i5.toUInt32 >>> ((4 : Int32) &&& 31).toUInt32).toInt32))]))) (fun _ k => XS.iconst X.here hx rfl (hb hby at_171) k) ?_
  refine own_st (U' := (T.setTop (mkF m 173 #[.val (.int i0), .val (.int i1), .val (.int i2), .val (.int i3), .val (.int i4), .val (.int i5), .val (.ref a), .val (.int bv), .val (.ref b), .val (.int p1), .val (.int pc), .val (.int p2), .unset, .unset, .unset, .unset, .unset, .unset, .unset, .unset, .unset, .unset, .unset, .unset, .unset, .unset] [(.int (((i5.toUInt32 >>> ((4 : Int32) &&& 31).toUInt32).toInt32) &&& (1 : Int32)))]))) (fun _ k => XS.iand X.here hx rfl (hb hby at_172) rfl k) ?_
  by_cases c4 : (((i5.toUInt32 >>> ((4 : Int32) &&& 31).toUInt32).toInt32) &&& (1 : Int32)) = (0 : Int32)
  · skip
    refine own_st (U' := (T.setTop (mkF m 180 #[.val (.int i0), .val (.int i1), .val (.int i2), .val (.int i3), .val (.int i4), .val (.int i5), .val (.ref a), .val (.int bv), .val (.ref b), .val (.int p1), .val (.int pc), .val (.int p2), .unset, .unset, .unset, .unset, .unset, .unset, .unset, .unset, .unset, .unset, .unset, .unset, .unset, .unset] []))) (fun _ k => XS.ifYes X.here hx rfl (pc0 := 173) (pc' := 180) rfl (hb hby at_173) rfl ((if0 _ _).trans (teq c4).1) (by decide) (by decide) k) ?_
    refine own_st (U' := (T.setTop (mkF m 181 #[.val (.int i0), .val (.int i1), .val (.int i2), .val (.int i3), .val (.int i4), .val (.int i5), .val (.ref a), .val (.int bv), .val (.ref b), .val (.int p1), .val (.int pc), .val (.int p2), .unset, .unset, .unset, .unset, .unset, .unset, .unset, .unset, .unset, .unset, .unset, .unset, .unset, .unset] [(.int (0 : Int32))]))) (fun _ k => XS.iconst X.here hx rfl (hb hby at_180) k) ?_
    exact tail1 _
  · skip
    refine own_st (U' := (T.setTop (mkF m 176 #[.val (.int i0), .val (.int i1), .val (.int i2), .val (.int i3), .val (.int i4), .val (.int i5), .val (.ref a), .val (.int bv), .val (.ref b), .val (.int p1), .val (.int pc), .val (.int p2), .unset, .unset, .unset, .unset, .unset, .unset, .unset, .unset, .unset, .unset, .unset, .unset, .unset, .unset] []))) (fun _ k => XS.ifNo X.here hx rfl (hb hby at_173) rfl ((if0 _ _).trans (feq c4).1) k) ?_
    refine own_st (U' := (T.setTop (mkF m 177 #[.val (.int i0), .val (.int i1), .val (.int i2), .val (.int i3), .val (.int i4), .val (.int i5), .val (.ref a), .val (.int bv), .val (.ref b), .val (.int p1), .val (.int pc), .val (.int p2), .unset, .unset, .unset, .unset, .unset, .unset, .unset, .unset, .unset, .unset, .unset, .unset, .unset, .unset] [(.int (1 : Int32))]))) (fun _ k => XS.iconst X.here hx rfl (hb hby at_176) k) ?_
    refine own_st (U' := (T.setTop (mkF m 181 #[.val (.int i0), .val (.int i1), .val (.int i2), .val (.int i3), .val (.int i4), .val (.int i5), .val (.ref a), .val (.int bv), .val (.ref b), .val (.int p1), .val (.int pc), .val (.int p2), .unset, .unset, .unset, .unset, .unset, .unset, .unset, .unset, .unset, .unset, .unset, .unset, .unset, .unset] [(.int (1 : Int32))]))) (fun _ k => XS.goto X.here hx rfl (pc0 := 177) (pc' := 181) rfl (hb hby at_177) (by decide) (by decide) k) ?_
    exact tail1 _
set_option maxRecDepth 65536 in
set_option maxHeartbeats 40000000 in
theorem own_t101 {p : Program} {l : Launch} {e : Env} {s : State} {m : MethodId} {below : List Frame} {meth : Method} {c : Code} {Z : State} {a0 : Array Value} {T : State} {locs : List Loc} {n0 : Nat} (i0 i1 i2 i3 i4 i5 bv b0 b1 : Int32) (a b : Addr)  (hx : p.tables.exec = Jvm.exec) (hZ : Z.Warmed39 s.vm) (hw : ∀ d ∈ tables_1, d.before a0 Z = true) (hby : c.code = code) (hml : c.maxLocals = 26) (hown : s.vm.findClass "com/example/quorum/quorum/FailedStatesContainsPinLaw" = some m.cls) (hret : meth.sig.returnType = some .boolean) (hlk : meth.locks = false) {h : Heap} (X : Stand p l e room_1 s m #[(.int i0), (.int i1), (.int i2), (.int i3), (.int i4), (.int i5)] below meth c T locs 2 4) (eT : T.heap = h) (N : Fr n0 locs) (Zn : n0 ≤ h.size) (V_a : own_A Z h a .int 2 (own_L [i0, i1])) (V_b : own_A Z h b .int 2 (own_L [b0, b1])) :
    own_Ends p e s below (fun v _ L => v = some (.int 1) ∧ Fr n0 L) 32 256 (T.setTop (mkF m 101 #[.val (.int i0), .val (.int i1), .val (.int i2), .val (.int i3), .val (.int i4), .val (.int i5), .val (.ref a), .val (.int bv), .val (.ref b), .unset, .unset, .unset, .unset, .unset, .unset, .unset, .unset, .unset, .unset, .unset, .unset, .unset, .unset, .unset, .unset, .unset] [])) := by
  refine own_st (U' := (T.setTop (mkF m 102 #[.val (.int i0), .val (.int i1), .val (.int i2), .val (.int i3), .val (.int i4), .val (.int i5), .val (.ref a), .val (.int bv), .val (.ref b), .unset, .unset, .unset, .unset, .unset, .unset, .unset, .unset, .unset, .unset, .unset, .unset, .unset, .unset, .unset, .unset, .unset] [(.int i2)]))) (fun _ k => XS.iloadN X.here hx rfl (hb hby at_101) rfl k) ?_
  refine own_st (U' := (T.setTop (mkF m 104 #[.val (.int i0), .val (.int i1), .val (.int i2), .val (.int i3), .val (.int i4), .val (.int i5), .val (.ref a), .val (.int bv), .val (.ref b), .unset, .unset, .unset, .unset, .unset, .unset, .unset, .unset, .unset, .unset, .unset, .unset, .unset, .unset, .unset, .unset, .unset] [(.int (2147483647 : Int32)), (.int i2)]))) (fun _ k => Jvm.Stand.ldcI X hx hown (mvT hZ (hw _ (List.mem_of_getElem? (i := 1) rfl))) rfl (hb hby at_102) k) ?_
  refine own_st (U' := (T.setTop (mkF m 105 #[.val (.int i0), .val (.int i1), .val (.int i2), .val (.int i3), .val (.int i4), .val (.int i5), .val (.ref a), .val (.int bv), .val (.ref b), .unset, .unset, .unset, .unset, .unset, .unset, .unset, .unset, .unset, .unset, .unset, .unset, .unset, .unset, .unset, .unset, .unset] [(.int (i2 &&& (2147483647 : Int32)))]))) (fun _ k => XS.iand X.here hx rfl (hb hby at_104) rfl k) ?_
  refine own_st (U' := (T.setTop (mkF m 107 #[.val (.int i0), .val (.int i1), .val (.int i2), .val (.int i3), .val (.int i4), .val (.int i5), .val (.ref a), .val (.int bv), .val (.ref b), .val (.int (i2 &&& (2147483647 : Int32))), .unset, .unset, .unset, .unset, .unset, .unset, .unset, .unset, .unset, .unset, .unset, .unset, .unset, .unset, .unset, .unset] []))) (fun _ k => XS.istore X.here hx rfl (hb hby at_105) rfl (l' := #[.val (.int i0), .val (.int i1), .val (.int i2), .val (.int i3), .val (.int i4), .val (.int i5), .val (.ref a), .val (.int bv), .val (.ref b), .val (.int (i2 &&& (2147483647 : Int32))), .unset, .unset, .unset, .unset, .unset, .unset, .unset, .unset, .unset, .unset, .unset, .unset, .unset, .unset, .unset, .unset]) rfl k) ?_
  refine own_st (U' := (T.setTop (mkF m 109 #[.val (.int i0), .val (.int i1), .val (.int i2), .val (.int i3), .val (.int i4), .val (.int i5), .val (.ref a), .val (.int bv), .val (.ref b), .val (.int (i2 &&& (2147483647 : Int32))), .unset, .unset, .unset, .unset, .unset, .unset, .unset, .unset, .unset, .unset, .unset, .unset, .unset, .unset, .unset, .unset] [(.int i5)]))) (fun _ k => XS.iload X.here hx rfl (hb hby at_107) rfl k) ?_
  refine own_st (U' := (T.setTop (mkF m 110 #[.val (.int i0), .val (.int i1), .val (.int i2), .val (.int i3), .val (.int i4), .val (.int i5), .val (.ref a), .val (.int bv), .val (.ref b), .val (.int (i2 &&& (2147483647 : Int32))), .unset, .unset, .unset, .unset, .unset, .unset, .unset, .unset, .unset, .unset, .unset, .unset, .unset, .unset, .unset, .unset] [(.int (2 : Int32)), (.int i5)]))) (fun _ k => XS.iconst X.here hx rfl (hb hby at_109) k) ?_
  refine own_st (U' := (T.setTop (mkF m 111 #[.val (.int i0), .val (.int i1), .val (.int i2), .val (.int i3), .val (.int i4), .val (.int i5), .val (.ref a), .val (.int bv), .val (.ref b), .val (.int (i2 &&& (2147483647 : Int32))), .unset, .unset, .unset, .unset, .unset, .unset, .unset, .unset, .unset, .unset, .unset, .unset, .unset, .unset, .unset, .unset] [(.int ((i5.toUInt32 >>> ((2 : Int32) &&& 31).toUInt32).toInt32))]))) (fun _ k => XS.iushr X.here hx rfl (hb hby at_110) rfl k) ?_
  refine own_st (U' := (T.setTop (mkF m 112 #[.val (.int i0), .val (.int i1), .val (.int i2), .val (.int i3), .val (.int i4), .val (.int i5), .val (.ref a), .val (.int bv), .val (.ref b), .val (.int (i2 &&& (2147483647 : Int32))), .unset, .unset, .unset, .unset, .unset, .unset, .unset, .unset, .unset, .unset, .unset, .unset, .unset, .unset, .unset, .unset] [(.int (3 : Int32)), (.int ((i5.toUInt32 >>> ((2 : Int32) &&& 31).toUInt32).toInt32))]))) (fun _ k => XS.iconst X.here hx rfl (hb hby at_111) k) ?_
  refine own_st (U' := (T.setTop (mkF m 113 #[.val (.int i0), .val (.int i1), .val (.int i2), .val (.int i3), .val (.int i4), .val (.int i5), .val (.ref a), .val (.int bv), .val (.ref b), .val (.int (i2 &&& (2147483647 : Int32))), .unset, .unset, .unset, .unset, .unset, .unset, .unset, .unset, .unset, .unset, .unset, .unset, .unset, .unset, .unset, .unset] [(.int (((i5.toUInt32 >>> ((2 : Int32) &&& 31).toUInt32).toInt32) &&& (3 : Int32)))]))) (fun _ k => XS.iand X.here hx rfl (hb hby at_112) rfl k) ?_
  refine own_st (U' := (T.setTop (mkF m 115 #[.val (.int i0), .val (.int i1), .val (.int i2), .val (.int i3), .val (.int i4), .val (.int i5), .val (.ref a), .val (.int bv), .val (.ref b), .val (.int (i2 &&& (2147483647 : Int32))), .val (.int (((i5.toUInt32 >>> ((2 : Int32) &&& 31).toUInt32).toInt32) &&& (3 : Int32))), .unset, .unset, .unset, .unset, .unset, .unset, .unset, .unset, .unset, .unset, .unset, .unset, .unset, .unset, .unset] []))) (fun _ k => XS.istore X.here hx rfl (hb hby at_113) rfl (l' := #[.val (.int i0), .val (.int i1), .val (.int i2), .val (.int i3), .val (.int i4), .val (.int i5), .val (.ref a), .val (.int bv), .val (.ref b), .val (.int (i2 &&& (2147483647 : Int32))), .val (.int (((i5.toUInt32 >>> ((2 : Int32) &&& 31).toUInt32).toInt32) &&& (3 : Int32))), .unset, .unset, .unset, .unset, .unset, .unset, .unset, .unset, .unset, .unset, .unset, .unset, .unset, .unset, .unset]) rfl k) ?_
  refine own_st (U' := (T.setTop (mkF m 117 #[.val (.int i0), .val (.int i1), .val (.int i2), .val (.int i3), .val (.int i4), .val (.int i5), .val (.ref a), .val (.int bv), .val (.ref b), .val (.int (i2 &&& (2147483647 : Int32))), .val (.int (((i5.toUInt32 >>> ((2 : Int32) &&& 31).toUInt32).toInt32) &&& (3 : Int32))), .unset, .unset, .unset, .unset, .unset, .unset, .unset, .unset, .unset, .unset, .unset, .unset, .unset, .unset, .unset] [(.int (((i5.toUInt32 >>> ((2 : Int32) &&& 31).toUInt32).toInt32) &&& (3 : Int32)))]))) (fun _ k => XS.iload X.here hx rfl (hb hby at_115) rfl k) ?_
  by_cases c0 : (((i5.toUInt32 >>> ((2 : Int32) &&& 31).toUInt32).toInt32) &&& (3 : Int32)) = (0 : Int32)
  · skip
    refine own_st (U' := (T.setTop (mkF m 120 #[.val (.int i0), .val (.int i1), .val (.int i2), .val (.int i3), .val (.int i4), .val (.int i5), .val (.ref a), .val (.int bv), .val (.ref b), .val (.int (i2 &&& (2147483647 : Int32))), .val (.int (((i5.toUInt32 >>> ((2 : Int32) &&& 31).toUInt32).toInt32) &&& (3 : Int32))), .unset, .unset, .unset, .unset, .unset, .unset, .unset, .unset, .unset, .unset, .unset, .unset, .unset, .unset, .unset] []))) (fun _ k => XS.ifNo X.here hx rfl (hb hby at_117) rfl ((if0 _ _).trans (teq c0).2) k) ?_
    refine own_st (U' := (T.setTop (mkF m 122 #[.val (.int i0), .val (.int i1), .val (.int i2), .val (.int i3), .val (.int i4), .val (.int i5), .val (.ref a), .val (.int bv), .val (.ref b), .val (.int (i2 &&& (2147483647 : Int32))), .val (.int (((i5.toUInt32 >>> ((2 : Int32) &&& 31).toUInt32).toInt32) &&& (3 : Int32))), .unset, .unset, .unset, .unset, .unset, .unset, .unset, .unset, .unset, .unset, .unset, .unset, .unset, .unset, .unset] [(.int (i2 &&& (2147483647 : Int32)))]))) (fun _ k => XS.iload X.here hx rfl (hb hby at_120) rfl k) ?_
    refine own_st (U' := (T.setTop (mkF m 123 #[.val (.int i0), .val (.int i1), .val (.int i2), .val (.int i3), .val (.int i4), .val (.int i5), .val (.ref a), .val (.int bv), .val (.ref b), .val (.int (i2 &&& (2147483647 : Int32))), .val (.int (((i5.toUInt32 >>> ((2 : Int32) &&& 31).toUInt32).toInt32) &&& (3 : Int32))), .unset, .unset, .unset, .unset, .unset, .unset, .unset, .unset, .unset, .unset, .unset, .unset, .unset, .unset, .unset] [(.int i3), (.int (i2 &&& (2147483647 : Int32)))]))) (fun _ k => XS.iloadN X.here hx rfl (hb hby at_122) rfl k) ?_
    refine own_st (U' := (T.setTop (mkF m 125 #[.val (.int i0), .val (.int i1), .val (.int i2), .val (.int i3), .val (.int i4), .val (.int i5), .val (.ref a), .val (.int bv), .val (.ref b), .val (.int (i2 &&& (2147483647 : Int32))), .val (.int (((i5.toUInt32 >>> ((2 : Int32) &&& 31).toUInt32).toInt32) &&& (3 : Int32))), .unset, .unset, .unset, .unset, .unset, .unset, .unset, .unset, .unset, .unset, .unset, .unset, .unset, .unset, .unset] [(.int (63 : Int32)), (.int i3), (.int (i2 &&& (2147483647 : Int32)))]))) (fun _ k => XS.bipush X.here hx rfl (hb hby at_123) k) ?_
    refine own_st (U' := (T.setTop (mkF m 126 #[.val (.int i0), .val (.int i1), .val (.int i2), .val (.int i3), .val (.int i4), .val (.int i5), .val (.ref a), .val (.int bv), .val (.ref b), .val (.int (i2 &&& (2147483647 : Int32))), .val (.int (((i5.toUInt32 >>> ((2 : Int32) &&& 31).toUInt32).toInt32) &&& (3 : Int32))), .unset, .unset, .unset, .unset, .unset, .unset, .unset, .unset, .unset, .unset, .unset, .unset, .unset, .unset, .unset] [(.int (i3 &&& (63 : Int32))), (.int (i2 &&& (2147483647 : Int32)))]))) (fun _ k => XS.iand X.here hx rfl (hb hby at_125) rfl k) ?_
    refine own_st (U' := (T.setTop (mkF m 127 #[.val (.int i0), .val (.int i1), .val (.int i2), .val (.int i3), .val (.int i4), .val (.int i5), .val (.ref a), .val (.int bv), .val (.ref b), .val (.int (i2 &&& (2147483647 : Int32))), .val (.int (((i5.toUInt32 >>> ((2 : Int32) &&& 31).toUInt32).toInt32) &&& (3 : Int32))), .unset, .unset, .unset, .unset, .unset, .unset, .unset, .unset, .unset, .unset, .unset, .unset, .unset, .unset, .unset] [(.int ((i2 &&& (2147483647 : Int32)) ^^^ (i3 &&& (63 : Int32))))]))) (fun _ k => XS.ixor X.here hx rfl (hb hby at_126) rfl k) ?_
    refine own_st (U' := (T.setTop (mkF m 129 #[.val (.int i0), .val (.int i1), .val (.int i2), .val (.int i3), .val (.int i4), .val (.int i5), .val (.ref a), .val (.int bv), .val (.ref b), .val (.int (i2 &&& (2147483647 : Int32))), .val (.int (((i5.toUInt32 >>> ((2 : Int32) &&& 31).toUInt32).toInt32) &&& (3 : Int32))), .val (.int ((i2 &&& (2147483647 : Int32)) ^^^ (i3 &&& (63 : Int32)))), .unset, .unset, .unset, .unset, .unset, .unset, .unset, .unset, .unset, .unset, .unset, .unset, .unset, .unset] []))) (fun _ k => XS.istore X.here hx rfl (hb hby at_127) rfl (l' := #[.val (.int i0), .val (.int i1), .val (.int i2), .val (.int i3), .val (.int i4), .val (.int i5), .val (.ref a), .val (.int bv), .val (.ref b), .val (.int (i2 &&& (2147483647 : Int32))), .val (.int (((i5.toUInt32 >>> ((2 : Int32) &&& 31).toUInt32).toInt32) &&& (3 : Int32))), .val (.int ((i2 &&& (2147483647 : Int32)) ^^^ (i3 &&& (63 : Int32)))), .unset, .unset, .unset, .unset, .unset, .unset, .unset, .unset, .unset, .unset, .unset, .unset, .unset, .unset]) rfl k) ?_
    refine own_st (U' := (T.setTop (mkF m 167 #[.val (.int i0), .val (.int i1), .val (.int i2), .val (.int i3), .val (.int i4), .val (.int i5), .val (.ref a), .val (.int bv), .val (.ref b), .val (.int (i2 &&& (2147483647 : Int32))), .val (.int (((i5.toUInt32 >>> ((2 : Int32) &&& 31).toUInt32).toInt32) &&& (3 : Int32))), .val (.int ((i2 &&& (2147483647 : Int32)) ^^^ (i3 &&& (63 : Int32)))), .unset, .unset, .unset, .unset, .unset, .unset, .unset, .unset, .unset, .unset, .unset, .unset, .unset, .unset] []))) (fun _ k => XS.goto X.here hx rfl (pc0 := 129) (pc' := 167) rfl (hb hby at_129) (by decide) (by decide) k) ?_
    exact own_t167 i0 i1 i2 i3 i4 i5 bv _ _ _ b0 b1 a b hx hZ hw hby hml hown hret hlk X eT N Zn V_a V_b (own_pos _) (own_xor (own_pos _) (own_low _))
  · skip
    refine own_st (U' := (T.setTop (mkF m 132 #[.val (.int i0), .val (.int i1), .val (.int i2), .val (.int i3), .val (.int i4), .val (.int i5), .val (.ref a), .val (.int bv), .val (.ref b), .val (.int (i2 &&& (2147483647 : Int32))), .val (.int (((i5.toUInt32 >>> ((2 : Int32) &&& 31).toUInt32).toInt32) &&& (3 : Int32))), .unset, .unset, .unset, .unset, .unset, .unset, .unset, .unset, .unset, .unset, .unset, .unset, .unset, .unset, .unset] []))) (fun _ k => XS.ifYes X.here hx rfl (pc0 := 117) (pc' := 132) rfl (hb hby at_117) rfl ((if0 _ _).trans (feq c0).2) (by decide) (by decide) k) ?_
    refine own_st (U' := (T.setTop (mkF m 134 #[.val (.int i0), .val (.int i1), .val (.int i2), .val (.int i3), .val (.int i4), .val (.int i5), .val (.ref a), .val (.int bv), .val (.ref b), .val (.int (i2 &&& (2147483647 : Int32))), .val (.int (((i5.toUInt32 >>> ((2 : Int32) &&& 31).toUInt32).toInt32) &&& (3 : Int32))), .unset, .unset, .unset, .unset, .unset, .unset, .unset, .unset, .unset, .unset, .unset, .unset, .unset, .unset, .unset] [(.int (((i5.toUInt32 >>> ((2 : Int32) &&& 31).toUInt32).toInt32) &&& (3 : Int32)))]))) (fun _ k => XS.iload X.here hx rfl (hb hby at_132) rfl k) ?_
    refine own_st (U' := (T.setTop (mkF m 135 #[.val (.int i0), .val (.int i1), .val (.int i2), .val (.int i3), .val (.int i4), .val (.int i5), .val (.ref a), .val (.int bv), .val (.ref b), .val (.int (i2 &&& (2147483647 : Int32))), .val (.int (((i5.toUInt32 >>> ((2 : Int32) &&& 31).toUInt32).toInt32) &&& (3 : Int32))), .unset, .unset, .unset, .unset, .unset, .unset, .unset, .unset, .unset, .unset, .unset, .unset, .unset, .unset, .unset] [(.int (1 : Int32)), (.int (((i5.toUInt32 >>> ((2 : Int32) &&& 31).toUInt32).toInt32) &&& (3 : Int32)))]))) (fun _ k => XS.iconst X.here hx rfl (hb hby at_134) k) ?_
    by_cases c1 : (((i5.toUInt32 >>> ((2 : Int32) &&& 31).toUInt32).toInt32) &&& (3 : Int32)) = (1 : Int32)
    · skip
      refine own_st (U' := (T.setTop (mkF m 138 #[.val (.int i0), .val (.int i1), .val (.int i2), .val (.int i3), .val (.int i4), .val (.int i5), .val (.ref a), .val (.int bv), .val (.ref b), .val (.int (i2 &&& (2147483647 : Int32))), .val (.int (((i5.toUInt32 >>> ((2 : Int32) &&& 31).toUInt32).toInt32) &&& (3 : Int32))), .unset, .unset, .unset, .unset, .unset, .unset, .unset, .unset, .unset, .unset, .unset, .unset, .unset, .unset, .unset] []))) (fun _ k => XS.icmpNo X.here hx rfl (hb hby at_135) rfl (teq c1).2 k) ?_
      refine own_st (U' := (T.setTop (mkF m 140 #[.val (.int i0), .val (.int i1), .val (.int i2), .val (.int i3), .val (.int i4), .val (.int i5), .val (.ref a), .val (.int bv), .val (.ref b), .val (.int (i2 &&& (2147483647 : Int32))), .val (.int (((i5.toUInt32 >>> ((2 : Int32) &&& 31).toUInt32).toInt32) &&& (3 : Int32))), .unset, .unset, .unset, .unset, .unset, .unset, .unset, .unset, .unset, .unset, .unset, .unset, .unset, .unset, .unset] [(.int (i2 &&& (2147483647 : Int32)))]))) (fun _ k => XS.iload X.here hx rfl (hb hby at_138) rfl k) ?_
      refine own_st (U' := (T.setTop (mkF m 142 #[.val (.int i0), .val (.int i1), .val (.int i2), .val (.int i3), .val (.int i4), .val (.int i5), .val (.ref a), .val (.int bv), .val (.ref b), .val (.int (i2 &&& (2147483647 : Int32))), .val (.int (((i5.toUInt32 >>> ((2 : Int32) &&& 31).toUInt32).toInt32) &&& (3 : Int32))), .unset, .unset, .unset, .unset, .unset, .unset, .unset, .unset, .unset, .unset, .unset, .unset, .unset, .unset, .unset] [(.int (64 : Int32)), (.int (i2 &&& (2147483647 : Int32)))]))) (fun _ k => XS.bipush X.here hx rfl (hb hby at_140) k) ?_
      refine own_st (U' := (T.setTop (mkF m 143 #[.val (.int i0), .val (.int i1), .val (.int i2), .val (.int i3), .val (.int i4), .val (.int i5), .val (.ref a), .val (.int bv), .val (.ref b), .val (.int (i2 &&& (2147483647 : Int32))), .val (.int (((i5.toUInt32 >>> ((2 : Int32) &&& 31).toUInt32).toInt32) &&& (3 : Int32))), .unset, .unset, .unset, .unset, .unset, .unset, .unset, .unset, .unset, .unset, .unset, .unset, .unset, .unset, .unset] [(.int ((i2 &&& (2147483647 : Int32)) ^^^ (64 : Int32)))]))) (fun _ k => XS.ixor X.here hx rfl (hb hby at_142) rfl k) ?_
      refine own_st (U' := (T.setTop (mkF m 145 #[.val (.int i0), .val (.int i1), .val (.int i2), .val (.int i3), .val (.int i4), .val (.int i5), .val (.ref a), .val (.int bv), .val (.ref b), .val (.int (i2 &&& (2147483647 : Int32))), .val (.int (((i5.toUInt32 >>> ((2 : Int32) &&& 31).toUInt32).toInt32) &&& (3 : Int32))), .val (.int ((i2 &&& (2147483647 : Int32)) ^^^ (64 : Int32))), .unset, .unset, .unset, .unset, .unset, .unset, .unset, .unset, .unset, .unset, .unset, .unset, .unset, .unset] []))) (fun _ k => XS.istore X.here hx rfl (hb hby at_143) rfl (l' := #[.val (.int i0), .val (.int i1), .val (.int i2), .val (.int i3), .val (.int i4), .val (.int i5), .val (.ref a), .val (.int bv), .val (.ref b), .val (.int (i2 &&& (2147483647 : Int32))), .val (.int (((i5.toUInt32 >>> ((2 : Int32) &&& 31).toUInt32).toInt32) &&& (3 : Int32))), .val (.int ((i2 &&& (2147483647 : Int32)) ^^^ (64 : Int32))), .unset, .unset, .unset, .unset, .unset, .unset, .unset, .unset, .unset, .unset, .unset, .unset, .unset, .unset]) rfl k) ?_
      refine own_st (U' := (T.setTop (mkF m 167 #[.val (.int i0), .val (.int i1), .val (.int i2), .val (.int i3), .val (.int i4), .val (.int i5), .val (.ref a), .val (.int bv), .val (.ref b), .val (.int (i2 &&& (2147483647 : Int32))), .val (.int (((i5.toUInt32 >>> ((2 : Int32) &&& 31).toUInt32).toInt32) &&& (3 : Int32))), .val (.int ((i2 &&& (2147483647 : Int32)) ^^^ (64 : Int32))), .unset, .unset, .unset, .unset, .unset, .unset, .unset, .unset, .unset, .unset, .unset, .unset, .unset, .unset] []))) (fun _ k => XS.goto X.here hx rfl (pc0 := 145) (pc' := 167) rfl (hb hby at_145) (by decide) (by decide) k) ?_
      exact own_t167 i0 i1 i2 i3 i4 i5 bv _ _ _ b0 b1 a b hx hZ hw hby hml hown hret hlk X eT N Zn V_a V_b (own_pos _) (own_xor (own_pos _) (by decide))
    · skip
      refine own_st (U' := (T.setTop (mkF m 148 #[.val (.int i0), .val (.int i1), .val (.int i2), .val (.int i3), .val (.int i4), .val (.int i5), .val (.ref a), .val (.int bv), .val (.ref b), .val (.int (i2 &&& (2147483647 : Int32))), .val (.int (((i5.toUInt32 >>> ((2 : Int32) &&& 31).toUInt32).toInt32) &&& (3 : Int32))), .unset, .unset, .unset, .unset, .unset, .unset, .unset, .unset, .unset, .unset, .unset, .unset, .unset, .unset, .unset] []))) (fun _ k => XS.icmpYes X.here hx rfl (pc0 := 135) (pc' := 148) rfl (hb hby at_135) rfl (feq c1).2 (by decide) (by decide) k) ?_
      refine own_st (U' := (T.setTop (mkF m 150 #[.val (.int i0), .val (.int i1), .val (.int i2), .val (.int i3), .val (.int i4), .val (.int i5), .val (.ref a), .val (.int bv), .val (.ref b), .val (.int (i2 &&& (2147483647 : Int32))), .val (.int (((i5.toUInt32 >>> ((2 : Int32) &&& 31).toUInt32).toInt32) &&& (3 : Int32))), .unset, .unset, .unset, .unset, .unset, .unset, .unset, .unset, .unset, .unset, .unset, .unset, .unset, .unset, .unset] [(.int (((i5.toUInt32 >>> ((2 : Int32) &&& 31).toUInt32).toInt32) &&& (3 : Int32)))]))) (fun _ k => XS.iload X.here hx rfl (hb hby at_148) rfl k) ?_
      refine own_st (U' := (T.setTop (mkF m 151 #[.val (.int i0), .val (.int i1), .val (.int i2), .val (.int i3), .val (.int i4), .val (.int i5), .val (.ref a), .val (.int bv), .val (.ref b), .val (.int (i2 &&& (2147483647 : Int32))), .val (.int (((i5.toUInt32 >>> ((2 : Int32) &&& 31).toUInt32).toInt32) &&& (3 : Int32))), .unset, .unset, .unset, .unset, .unset, .unset, .unset, .unset, .unset, .unset, .unset, .unset, .unset, .unset, .unset] [(.int (2 : Int32)), (.int (((i5.toUInt32 >>> ((2 : Int32) &&& 31).toUInt32).toInt32) &&& (3 : Int32)))]))) (fun _ k => XS.iconst X.here hx rfl (hb hby at_150) k) ?_
      by_cases c2 : (((i5.toUInt32 >>> ((2 : Int32) &&& 31).toUInt32).toInt32) &&& (3 : Int32)) = (2 : Int32)
      · skip
        refine own_st (U' := (T.setTop (mkF m 154 #[.val (.int i0), .val (.int i1), .val (.int i2), .val (.int i3), .val (.int i4), .val (.int i5), .val (.ref a), .val (.int bv), .val (.ref b), .val (.int (i2 &&& (2147483647 : Int32))), .val (.int (((i5.toUInt32 >>> ((2 : Int32) &&& 31).toUInt32).toInt32) &&& (3 : Int32))), .unset, .unset, .unset, .unset, .unset, .unset, .unset, .unset, .unset, .unset, .unset, .unset, .unset, .unset, .unset] []))) (fun _ k => XS.icmpNo X.here hx rfl (hb hby at_151) rfl (teq c2).2 k) ?_
        refine own_st (U' := (T.setTop (mkF m 155 #[.val (.int i0), .val (.int i1), .val (.int i2), .val (.int i3), .val (.int i4), .val (.int i5), .val (.ref a), .val (.int bv), .val (.ref b), .val (.int (i2 &&& (2147483647 : Int32))), .val (.int (((i5.toUInt32 >>> ((2 : Int32) &&& 31).toUInt32).toInt32) &&& (3 : Int32))), .unset, .unset, .unset, .unset, .unset, .unset, .unset, .unset, .unset, .unset, .unset, .unset, .unset, .unset, .unset] [(.int i3)]))) (fun _ k => XS.iloadN X.here hx rfl (hb hby at_154) rfl k) ?_
        refine own_st (U' := (T.setTop (mkF m 157 #[.val (.int i0), .val (.int i1), .val (.int i2), .val (.int i3), .val (.int i4), .val (.int i5), .val (.ref a), .val (.int bv), .val (.ref b), .val (.int (i2 &&& (2147483647 : Int32))), .val (.int (((i5.toUInt32 >>> ((2 : Int32) &&& 31).toUInt32).toInt32) &&& (3 : Int32))), .unset, .unset, .unset, .unset, .unset, .unset, .unset, .unset, .unset, .unset, .unset, .unset, .unset, .unset, .unset] [(.int (2147483647 : Int32)), (.int i3)]))) (fun _ k => Jvm.Stand.ldcI X hx hown (mvT hZ (hw _ (List.mem_of_getElem? (i := 1) rfl))) rfl (hb hby at_155) k) ?_
        refine own_st (U' := (T.setTop (mkF m 158 #[.val (.int i0), .val (.int i1), .val (.int i2), .val (.int i3), .val (.int i4), .val (.int i5), .val (.ref a), .val (.int bv), .val (.ref b), .val (.int (i2 &&& (2147483647 : Int32))), .val (.int (((i5.toUInt32 >>> ((2 : Int32) &&& 31).toUInt32).toInt32) &&& (3 : Int32))), .unset, .unset, .unset, .unset, .unset, .unset, .unset, .unset, .unset, .unset, .unset, .unset, .unset, .unset, .unset] [(.int (i3 &&& (2147483647 : Int32)))]))) (fun _ k => XS.iand X.here hx rfl (hb hby at_157) rfl k) ?_
        refine own_st (U' := (T.setTop (mkF m 160 #[.val (.int i0), .val (.int i1), .val (.int i2), .val (.int i3), .val (.int i4), .val (.int i5), .val (.ref a), .val (.int bv), .val (.ref b), .val (.int (i2 &&& (2147483647 : Int32))), .val (.int (((i5.toUInt32 >>> ((2 : Int32) &&& 31).toUInt32).toInt32) &&& (3 : Int32))), .val (.int (i3 &&& (2147483647 : Int32))), .unset, .unset, .unset, .unset, .unset, .unset, .unset, .unset, .unset, .unset, .unset, .unset, .unset, .unset] []))) (fun _ k => XS.istore X.here hx rfl (hb hby at_158) rfl (l' := #[.val (.int i0), .val (.int i1), .val (.int i2), .val (.int i3), .val (.int i4), .val (.int i5), .val (.ref a), .val (.int bv), .val (.ref b), .val (.int (i2 &&& (2147483647 : Int32))), .val (.int (((i5.toUInt32 >>> ((2 : Int32) &&& 31).toUInt32).toInt32) &&& (3 : Int32))), .val (.int (i3 &&& (2147483647 : Int32))), .unset, .unset, .unset, .unset, .unset, .unset, .unset, .unset, .unset, .unset, .unset, .unset, .unset, .unset]) rfl k) ?_
        refine own_st (U' := (T.setTop (mkF m 167 #[.val (.int i0), .val (.int i1), .val (.int i2), .val (.int i3), .val (.int i4), .val (.int i5), .val (.ref a), .val (.int bv), .val (.ref b), .val (.int (i2 &&& (2147483647 : Int32))), .val (.int (((i5.toUInt32 >>> ((2 : Int32) &&& 31).toUInt32).toInt32) &&& (3 : Int32))), .val (.int (i3 &&& (2147483647 : Int32))), .unset, .unset, .unset, .unset, .unset, .unset, .unset, .unset, .unset, .unset, .unset, .unset, .unset, .unset] []))) (fun _ k => XS.goto X.here hx rfl (pc0 := 160) (pc' := 167) rfl (hb hby at_160) (by decide) (by decide) k) ?_
        exact own_t167 i0 i1 i2 i3 i4 i5 bv _ _ _ b0 b1 a b hx hZ hw hby hml hown hret hlk X eT N Zn V_a V_b (own_pos _) (own_pos _)
      · skip
        refine own_st (U' := (T.setTop (mkF m 163 #[.val (.int i0), .val (.int i1), .val (.int i2), .val (.int i3), .val (.int i4), .val (.int i5), .val (.ref a), .val (.int bv), .val (.ref b), .val (.int (i2 &&& (2147483647 : Int32))), .val (.int (((i5.toUInt32 >>> ((2 : Int32) &&& 31).toUInt32).toInt32) &&& (3 : Int32))), .unset, .unset, .unset, .unset, .unset, .unset, .unset, .unset, .unset, .unset, .unset, .unset, .unset, .unset, .unset] []))) (fun _ k => XS.icmpYes X.here hx rfl (pc0 := 151) (pc' := 163) rfl (hb hby at_151) rfl (feq c2).2 (by decide) (by decide) k) ?_
        refine own_st (U' := (T.setTop (mkF m 165 #[.val (.int i0), .val (.int i1), .val (.int i2), .val (.int i3), .val (.int i4), .val (.int i5), .val (.ref a), .val (.int bv), .val (.ref b), .val (.int (i2 &&& (2147483647 : Int32))), .val (.int (((i5.toUInt32 >>> ((2 : Int32) &&& 31).toUInt32).toInt32) &&& (3 : Int32))), .unset, .unset, .unset, .unset, .unset, .unset, .unset, .unset, .unset, .unset, .unset, .unset, .unset, .unset, .unset] [(.int (i2 &&& (2147483647 : Int32)))]))) (fun _ k => XS.iload X.here hx rfl (hb hby at_163) rfl k) ?_
        refine own_st (U' := (T.setTop (mkF m 167 #[.val (.int i0), .val (.int i1), .val (.int i2), .val (.int i3), .val (.int i4), .val (.int i5), .val (.ref a), .val (.int bv), .val (.ref b), .val (.int (i2 &&& (2147483647 : Int32))), .val (.int (((i5.toUInt32 >>> ((2 : Int32) &&& 31).toUInt32).toInt32) &&& (3 : Int32))), .val (.int (i2 &&& (2147483647 : Int32))), .unset, .unset, .unset, .unset, .unset, .unset, .unset, .unset, .unset, .unset, .unset, .unset, .unset, .unset] []))) (fun _ k => XS.istore X.here hx rfl (hb hby at_165) rfl (l' := #[.val (.int i0), .val (.int i1), .val (.int i2), .val (.int i3), .val (.int i4), .val (.int i5), .val (.ref a), .val (.int bv), .val (.ref b), .val (.int (i2 &&& (2147483647 : Int32))), .val (.int (((i5.toUInt32 >>> ((2 : Int32) &&& 31).toUInt32).toInt32) &&& (3 : Int32))), .val (.int (i2 &&& (2147483647 : Int32))), .unset, .unset, .unset, .unset, .unset, .unset, .unset, .unset, .unset, .unset, .unset, .unset, .unset, .unset]) rfl k) ?_
        exact own_t167 i0 i1 i2 i3 i4 i5 bv _ _ _ b0 b1 a b hx hZ hw hby hml hown hret hlk X eT N Zn V_a V_b (own_pos _) (own_pos _)
theorem pn_rm0 : plainName "com/example/quorum/quorum/FailedStatesContainsPinLaw" = true := by first | (simp [plainName, overriddenIn]; done) | decide +kernel
theorem ef_rm0 (m : MethodId) (x0 : Int32) (x1 : Int32) (x2 : Int32) (x3 : Int32) (x4 : Int32) (x5 : Int32) : entryFrame m #[(.int x0), (.int x1), (.int x2), (.int x3), (.int x4), (.int x5)] maxLocals = mkF m 0 #[.val (.int x0), .val (.int x1), .val (.int x2), .val (.int x3), .val (.int x4), .val (.int x5), .unset, .unset, .unset, .unset, .unset, .unset, .unset, .unset, .unset, .unset, .unset, .unset, .unset, .unset, .unset, .unset, .unset, .unset, .unset, .unset] [] := by first | (simp [entryFrame, mkF, argsToLocals, Value.category, maxLocals]; done) | rfl
def Q_rm0 (Z : State) (i0 : Int32) (i1 : Int32) (i2 : Int32) (i3 : Int32) (i4 : Int32) (i5 : Int32) (h0 : Heap) (n0 : Nat) (v : Option Value) (h : Heap) (L : List Loc) : Prop := v = some (.int 1) ∧ Fr n0 L
set_option maxRecDepth 65536 in
set_option maxHeartbeats 40000000 in
theorem rm0 (l : Launch) (Z : State) (a0 : Array Value) (hw : ∀ d ∈ tables_1, d.before a0 Z = true) (ws : List Jvm.Cond) (i0 : Int32) (i1 : Int32) (i2 : Int32) (i3 : Int32) (i4 : Int32) (i5 : Int32) (h0 : Heap) (n0 : Nat) (Z0 : n0 ≤ h0.size)  :
    MetFree l x (head1 (Jvm.Cond.code x code maxLocals ret :: ws) room_1) (fun as1 U => as1 = #[(.int i0), (.int i1), (.int i2), (.int i3), (.int i4), (.int i5)] ∧ Z.Warmed39 U.vm ∧ U.heap = h0) (fun _ _ _ _ _ => True) (fun _ U o U' => ∃ v L, o = .returned v ∧ Q_rm0 Z i0 i1 i2 i3 i4 i5 h0 n0 v U'.heap L ∧ FrameEnd U o U' L 32 256) := by
  refine MetFree.of_bodySF (plainFor_of_name pn_rm0) hisR ?_
  intro p e s m args below meth c s₁ Bd hml0 hP hK
  obtain ⟨rfl, hZ, hh⟩ := hP
  have hx := Bd.exec
  have hby := Bd.bytes
  have hml : c.maxLocals = 26 := hml0
  have hown : s.vm.findClass "com/example/quorum/quorum/FailedStatesContainsPinLaw" = some m.cls := findClass_of_methodNamed Bd.named
  have hnm := (name_of_methodNamed Bd.named Bd.method).1
  have X0 : Stand p l e room_1 s m #[(.int i0), (.int i1), (.int i2), (.int i3), (.int i4), (.int i5)] below meth c s₁ [] 0 0 := Stand.of_body Bd
  have e0 : s₁.heap = h0 := by rw [← hh, Bd.state]; rfl
  have N0 := Fr.nil n0
  show own_Ends p e s below (Q_rm0 Z i0 i1 i2 i3 i4 i5 h0 n0) 32 256 (s₁.setTop (entryFrame m #[(.int i0), (.int i1), (.int i2), (.int i3), (.int i4), (.int i5)] maxLocals))
  refine own_st (U' := (s₁.setTop (mkF m 0 #[.val (.int i0), .val (.int i1), .val (.int i2), .val (.int i3), .val (.int i4), .val (.int i5), .unset, .unset, .unset, .unset, .unset, .unset, .unset, .unset, .unset, .unset, .unset, .unset, .unset, .unset, .unset, .unset, .unset, .unset, .unset, .unset] []))) (fun _ k => castTop (ef_rm0 m i0 i1 i2 i3 i4 i5) k) ?_
  refine own_st (U' := (s₁.setTop (mkF m 1 #[.val (.int i0), .val (.int i1), .val (.int i2), .val (.int i3), .val (.int i4), .val (.int i5), .unset, .unset, .unset, .unset, .unset, .unset, .unset, .unset, .unset, .unset, .unset, .unset, .unset, .unset, .unset, .unset, .unset, .unset, .unset, .unset] [(.int (2 : Int32))]))) (fun _ k => XS.iconst X0.here hx rfl (hb hby at_0) k) ?_
  obtain ⟨T84, h84, k84, X84, e84, E84, A84, st84⟩ := newP X0 hx hZ (hw _ (List.mem_of_getElem? (i := 0) rfl)) e0 (g := (mkF m 1 #[.val (.int i0), .val (.int i1), .val (.int i2), .val (.int i3), .val (.int i4), .val (.int i5), .unset, .unset, .unset, .unset, .unset, .unset, .unset, .unset, .unset, .unset, .unset, .unset, .unset, .unset, .unset, .unset, .unset, .unset, .unset, .unset] [(.int (2 : Int32))])) rfl (hb hby at_1) rfl (by decide) (cap := 2) (by decide) (by decide) (by decide) (by decide)
  obtain ⟨b84, g84⟩ : ∃ z, z = h0.size := ⟨_, rfl⟩
  rw [← g84] at A84 st84
  have g_b84 : n0 ≤ b84 := Nat.le_trans Z0 (Nat.le_of_eq g84.symm)
  have Z84 : n0 ≤ h84.size := Nat.le_trans Z0 E84.1
  have V_b84 : own_A Z h84 b84 .int 2 (fun _ => defaultValue .int) := own_A.new A84 (by decide)
  refine own_st (U' := (T84.setTop (mkF m 3 #[.val (.int i0), .val (.int i1), .val (.int i2), .val (.int i3), .val (.int i4), .val (.int i5), .unset, .unset, .unset, .unset, .unset, .unset, .unset, .unset, .unset, .unset, .unset, .unset, .unset, .unset, .unset, .unset, .unset, .unset, .unset, .unset] [(.ref b84)]))) st84 ?_
  refine own_st (U' := (T84.setTop (mkF m 4 #[.val (.int i0), .val (.int i1), .val (.int i2), .val (.int i3), .val (.int i4), .val (.int i5), .unset, .unset, .unset, .unset, .unset, .unset, .unset, .unset, .unset, .unset, .unset, .unset, .unset, .unset, .unset, .unset, .unset, .unset, .unset, .unset] [(.ref b84), (.ref b84)]))) (fun _ k => XS.dup X84.here hx rfl (hb hby at_3) rfl rfl k) ?_
  refine own_st (U' := (T84.setTop (mkF m 5 #[.val (.int i0), .val (.int i1), .val (.int i2), .val (.int i3), .val (.int i4), .val (.int i5), .unset, .unset, .unset, .unset, .unset, .unset, .unset, .unset, .unset, .unset, .unset, .unset, .unset, .unset, .unset, .unset, .unset, .unset, .unset, .unset] [(.int (0 : Int32)), (.ref b84), (.ref b84)]))) (fun _ k => XS.iconst X84.here hx rfl (hb hby at_4) k) ?_
  refine own_st (U' := (T84.setTop (mkF m 6 #[.val (.int i0), .val (.int i1), .val (.int i2), .val (.int i3), .val (.int i4), .val (.int i5), .unset, .unset, .unset, .unset, .unset, .unset, .unset, .unset, .unset, .unset, .unset, .unset, .unset, .unset, .unset, .unset, .unset, .unset, .unset, .unset] [(.int i0), (.int (0 : Int32)), (.ref b84), (.ref b84)]))) (fun _ k => XS.iloadN X84.here hx rfl (hb hby at_5) rfl k) ?_
  obtain ⟨T85, h85, X85, e85, W85, V85, st85⟩ := own_stI X84 hx hZ e84 V_b84 (j := (0 : Int32)) (i := 0) (by decide) rfl (by decide) (g := (mkF m 6 #[.val (.int i0), .val (.int i1), .val (.int i2), .val (.int i3), .val (.int i4), .val (.int i5), .unset, .unset, .unset, .unset, .unset, .unset, .unset, .unset, .unset, .unset, .unset, .unset, .unset, .unset, .unset, .unset, .unset, .unset, .unset, .unset] [(.int i0), (.int (0 : Int32)), (.ref b84), (.ref b84)])) rfl rfl (hb hby at_6)
  have V_b84 := V85
  have N85 := Fr.snoc X85 N0 g_b84
  have Z85 : n0 ≤ h85.size := Nat.le_trans Z84 (Nat.le_of_eq W85.size.symm)
  refine own_st (U' := (T85.setTop (mkF m 7 #[.val (.int i0), .val (.int i1), .val (.int i2), .val (.int i3), .val (.int i4), .val (.int i5), .unset, .unset, .unset, .unset, .unset, .unset, .unset, .unset, .unset, .unset, .unset, .unset, .unset, .unset, .unset, .unset, .unset, .unset, .unset, .unset] [(.ref b84)]))) st85 ?_
  refine own_st (U' := (T85.setTop (mkF m 8 #[.val (.int i0), .val (.int i1), .val (.int i2), .val (.int i3), .val (.int i4), .val (.int i5), .unset, .unset, .unset, .unset, .unset, .unset, .unset, .unset, .unset, .unset, .unset, .unset, .unset, .unset, .unset, .unset, .unset, .unset, .unset, .unset] [(.ref b84), (.ref b84)]))) (fun _ k => XS.dup X85.here hx rfl (hb hby at_7) rfl rfl k) ?_
  refine own_st (U' := (T85.setTop (mkF m 9 #[.val (.int i0), .val (.int i1), .val (.int i2), .val (.int i3), .val (.int i4), .val (.int i5), .unset, .unset, .unset, .unset, .unset, .unset, .unset, .unset, .unset, .unset, .unset, .unset, .unset, .unset, .unset, .unset, .unset, .unset, .unset, .unset] [(.int (1 : Int32)), (.ref b84), (.ref b84)]))) (fun _ k => XS.iconst X85.here hx rfl (hb hby at_8) k) ?_
  refine own_st (U' := (T85.setTop (mkF m 10 #[.val (.int i0), .val (.int i1), .val (.int i2), .val (.int i3), .val (.int i4), .val (.int i5), .unset, .unset, .unset, .unset, .unset, .unset, .unset, .unset, .unset, .unset, .unset, .unset, .unset, .unset, .unset, .unset, .unset, .unset, .unset, .unset] [(.int i1), (.int (1 : Int32)), (.ref b84), (.ref b84)]))) (fun _ k => XS.iloadN X85.here hx rfl (hb hby at_9) rfl k) ?_
  obtain ⟨T86, h86, X86, e86, W86, V86, st86⟩ := own_stI X85 hx hZ e85 V_b84 (j := (1 : Int32)) (i := 1) (by decide) rfl (by decide) (g := (mkF m 10 #[.val (.int i0), .val (.int i1), .val (.int i2), .val (.int i3), .val (.int i4), .val (.int i5), .unset, .unset, .unset, .unset, .unset, .unset, .unset, .unset, .unset, .unset, .unset, .unset, .unset, .unset, .unset, .unset, .unset, .unset, .unset, .unset] [(.int i1), (.int (1 : Int32)), (.ref b84), (.ref b84)])) rfl rfl (hb hby at_10)
  have V_b84 := V86
  have N86 := Fr.snoc X86 N85 g_b84
  have Z86 : n0 ≤ h86.size := Nat.le_trans Z85 (Nat.le_of_eq W86.size.symm)
  refine own_st (U' := (T86.setTop (mkF m 11 #[.val (.int i0), .val (.int i1), .val (.int i2), .val (.int i3), .val (.int i4), .val (.int i5), .unset, .unset, .unset, .unset, .unset, .unset, .unset, .unset, .unset, .unset, .unset, .unset, .unset, .unset, .unset, .unset, .unset, .unset, .unset, .unset] [(.ref b84)]))) st86 ?_
  have V_b84 : own_A Z h86 b84 .int 2 (own_L [i0, i1]) := V_b84.congr (by intro j hj; rcases j with _ | _ | j <;> first | rfl | omega)
  refine own_st (U' := (T86.setTop (mkF m 13 #[.val (.int i0), .val (.int i1), .val (.int i2), .val (.int i3), .val (.int i4), .val (.int i5), .val (.ref b84), .unset, .unset, .unset, .unset, .unset, .unset, .unset, .unset, .unset, .unset, .unset, .unset, .unset, .unset, .unset, .unset, .unset, .unset, .unset] []))) (fun _ k => XS.astore X86.here hx rfl (hb hby at_11) rfl rfl (l' := #[.val (.int i0), .val (.int i1), .val (.int i2), .val (.int i3), .val (.int i4), .val (.int i5), .val (.ref b84), .unset, .unset, .unset, .unset, .unset, .unset, .unset, .unset, .unset, .unset, .unset, .unset, .unset, .unset, .unset, .unset, .unset, .unset, .unset]) rfl k) ?_
  refine own_st (U' := (T86.setTop (mkF m 15 #[.val (.int i0), .val (.int i1), .val (.int i2), .val (.int i3), .val (.int i4), .val (.int i5), .val (.ref b84), .unset, .unset, .unset, .unset, .unset, .unset, .unset, .unset, .unset, .unset, .unset, .unset, .unset, .unset, .unset, .unset, .unset, .unset, .unset] [(.int i5)]))) (fun _ k => XS.iload X86.here hx rfl (hb hby at_13) rfl k) ?_
  refine own_st (U' := (T86.setTop (mkF m 16 #[.val (.int i0), .val (.int i1), .val (.int i2), .val (.int i3), .val (.int i4), .val (.int i5), .val (.ref b84), .unset, .unset, .unset, .unset, .unset, .unset, .unset, .unset, .unset, .unset, .unset, .unset, .unset, .unset, .unset, .unset, .unset, .unset, .unset] [(.int (3 : Int32)), (.int i5)]))) (fun _ k => XS.iconst X86.here hx rfl (hb hby at_15) k) ?_
  refine own_st (U' := (T86.setTop (mkF m 17 #[.val (.int i0), .val (.int i1), .val (.int i2), .val (.int i3), .val (.int i4), .val (.int i5), .val (.ref b84), .unset, .unset, .unset, .unset, .unset, .unset, .unset, .unset, .unset, .unset, .unset, .unset, .unset, .unset, .unset, .unset, .unset, .unset, .unset] [(.int (i5 &&& (3 : Int32)))]))) (fun _ k => XS.iand X86.here hx rfl (hb hby at_16) rfl k) ?_
  refine own_st (U' := (T86.setTop (mkF m 19 #[.val (.int i0), .val (.int i1), .val (.int i2), .val (.int i3), .val (.int i4), .val (.int i5), .val (.ref b84), .val (.int (i5 &&& (3 : Int32))), .unset, .unset, .unset, .unset, .unset, .unset, .unset, .unset, .unset, .unset, .unset, .unset, .unset, .unset, .unset, .unset, .unset, .unset] []))) (fun _ k => XS.istore X86.here hx rfl (hb hby at_17) rfl (l' := #[.val (.int i0), .val (.int i1), .val (.int i2), .val (.int i3), .val (.int i4), .val (.int i5), .val (.ref b84), .val (.int (i5 &&& (3 : Int32))), .unset, .unset, .unset, .unset, .unset, .unset, .unset, .unset, .unset, .unset, .unset, .unset, .unset, .unset, .unset, .unset, .unset, .unset]) rfl k) ?_
  refine own_st (U' := (T86.setTop (mkF m 21 #[.val (.int i0), .val (.int i1), .val (.int i2), .val (.int i3), .val (.int i4), .val (.int i5), .val (.ref b84), .val (.int (i5 &&& (3 : Int32))), .unset, .unset, .unset, .unset, .unset, .unset, .unset, .unset, .unset, .unset, .unset, .unset, .unset, .unset, .unset, .unset, .unset, .unset] [(.int (i5 &&& (3 : Int32)))]))) (fun _ k => XS.iload X86.here hx rfl (hb hby at_19) rfl k) ?_
  by_cases c0 : (i5 &&& (3 : Int32)) = (0 : Int32)
  · skip
    refine own_st (U' := (T86.setTop (mkF m 24 #[.val (.int i0), .val (.int i1), .val (.int i2), .val (.int i3), .val (.int i4), .val (.int i5), .val (.ref b84), .val (.int (i5 &&& (3 : Int32))), .unset, .unset, .unset, .unset, .unset, .unset, .unset, .unset, .unset, .unset, .unset, .unset, .unset, .unset, .unset, .unset, .unset, .unset] []))) (fun _ k => XS.ifNo X86.here hx rfl (hb hby at_21) rfl ((if0 _ _).trans (teq c0).2) k) ?_
    refine own_st (U' := (T86.setTop (mkF m 25 #[.val (.int i0), .val (.int i1), .val (.int i2), .val (.int i3), .val (.int i4), .val (.int i5), .val (.ref b84), .val (.int (i5 &&& (3 : Int32))), .unset, .unset, .unset, .unset, .unset, .unset, .unset, .unset, .unset, .unset, .unset, .unset, .unset, .unset, .unset, .unset, .unset, .unset] [(.int (2 : Int32))]))) (fun _ k => XS.iconst X86.here hx rfl (hb hby at_24) k) ?_
    obtain ⟨T87, h87, k87, X87, e87, E87, A87, st87⟩ := newP X86 hx hZ (hw _ (List.mem_of_getElem? (i := 0) rfl)) e86 (g := (mkF m 25 #[.val (.int i0), .val (.int i1), .val (.int i2), .val (.int i3), .val (.int i4), .val (.int i5), .val (.ref b84), .val (.int (i5 &&& (3 : Int32))), .unset, .unset, .unset, .unset, .unset, .unset, .unset, .unset, .unset, .unset, .unset, .unset, .unset, .unset, .unset, .unset, .unset, .unset] [(.int (2 : Int32))])) rfl (hb hby at_25) rfl (by decide) (cap := 2) (by decide) (by decide) (by decide) (by decide)
    obtain ⟨b87, g87⟩ : ∃ z, z = h86.size := ⟨_, rfl⟩
    rw [← g87] at A87 st87
    have ne_b84_b87 : b84 ≠ b87 := Nat.ne_of_lt (Nat.lt_of_lt_of_eq V_b84.lt g87.symm)
    have g_b87 : n0 ≤ b87 := Nat.le_trans Z86 (Nat.le_of_eq g87.symm)
    have V_b84 := V_b84.ext E87
    have Z87 : n0 ≤ h87.size := Nat.le_trans Z86 E87.1
    have V_b87 : own_A Z h87 b87 .int 2 (fun _ => defaultValue .int) := own_A.new A87 (by decide)
    refine own_st (U' := (T87.setTop (mkF m 27 #[.val (.int i0), .val (.int i1), .val (.int i2), .val (.int i3), .val (.int i4), .val (.int i5), .val (.ref b84), .val (.int (i5 &&& (3 : Int32))), .unset, .unset, .unset, .unset, .unset, .unset, .unset, .unset, .unset, .unset, .unset, .unset, .unset, .unset, .unset, .unset, .unset, .unset] [(.ref b87)]))) st87 ?_
    refine own_st (U' := (T87.setTop (mkF m 28 #[.val (.int i0), .val (.int i1), .val (.int i2), .val (.int i3), .val (.int i4), .val (.int i5), .val (.ref b84), .val (.int (i5 &&& (3 : Int32))), .unset, .unset, .unset, .unset, .unset, .unset, .unset, .unset, .unset, .unset, .unset, .unset, .unset, .unset, .unset, .unset, .unset, .unset] [(.ref b87), (.ref b87)]))) (fun _ k => XS.dup X87.here hx rfl (hb hby at_27) rfl rfl k) ?_
    refine own_st (U' := (T87.setTop (mkF m 29 #[.val (.int i0), .val (.int i1), .val (.int i2), .val (.int i3), .val (.int i4), .val (.int i5), .val (.ref b84), .val (.int (i5 &&& (3 : Int32))), .unset, .unset, .unset, .unset, .unset, .unset, .unset, .unset, .unset, .unset, .unset, .unset, .unset, .unset, .unset, .unset, .unset, .unset] [(.int (0 : Int32)), (.ref b87), (.ref b87)]))) (fun _ k => XS.iconst X87.here hx rfl (hb hby at_28) k) ?_
    refine own_st (U' := (T87.setTop (mkF m 30 #[.val (.int i0), .val (.int i1), .val (.int i2), .val (.int i3), .val (.int i4), .val (.int i5), .val (.ref b84), .val (.int (i5 &&& (3 : Int32))), .unset, .unset, .unset, .unset, .unset, .unset, .unset, .unset, .unset, .unset, .unset, .unset, .unset, .unset, .unset, .unset, .unset, .unset] [(.int i0), (.int (0 : Int32)), (.ref b87), (.ref b87)]))) (fun _ k => XS.iloadN X87.here hx rfl (hb hby at_29) rfl k) ?_
    obtain ⟨T88, h88, X88, e88, W88, V88, st88⟩ := own_stI X87 hx hZ e87 V_b87 (j := (0 : Int32)) (i := 0) (by decide) rfl (by decide) (g := (mkF m 30 #[.val (.int i0), .val (.int i1), .val (.int i2), .val (.int i3), .val (.int i4), .val (.int i5), .val (.ref b84), .val (.int (i5 &&& (3 : Int32))), .unset, .unset, .unset, .unset, .unset, .unset, .unset, .unset, .unset, .unset, .unset, .unset, .unset, .unset, .unset, .unset, .unset, .unset] [(.int i0), (.int (0 : Int32)), (.ref b87), (.ref b87)])) rfl rfl (hb hby at_30)
    have V_b84 := V_b84.other W88 ne_b84_b87
    have V_b87 := V88
    have N88 := Fr.snoc X88 N86 g_b87
    have Z88 : n0 ≤ h88.size := Nat.le_trans Z87 (Nat.le_of_eq W88.size.symm)
    refine own_st (U' := (T88.setTop (mkF m 31 #[.val (.int i0), .val (.int i1), .val (.int i2), .val (.int i3), .val (.int i4), .val (.int i5), .val (.ref b84), .val (.int (i5 &&& (3 : Int32))), .unset, .unset, .unset, .unset, .unset, .unset, .unset, .unset, .unset, .unset, .unset, .unset, .unset, .unset, .unset, .unset, .unset, .unset] [(.ref b87)]))) st88 ?_
    refine own_st (U' := (T88.setTop (mkF m 32 #[.val (.int i0), .val (.int i1), .val (.int i2), .val (.int i3), .val (.int i4), .val (.int i5), .val (.ref b84), .val (.int (i5 &&& (3 : Int32))), .unset, .unset, .unset, .unset, .unset, .unset, .unset, .unset, .unset, .unset, .unset, .unset, .unset, .unset, .unset, .unset, .unset, .unset] [(.ref b87), (.ref b87)]))) (fun _ k => XS.dup X88.here hx rfl (hb hby at_31) rfl rfl k) ?_
    refine own_st (U' := (T88.setTop (mkF m 33 #[.val (.int i0), .val (.int i1), .val (.int i2), .val (.int i3), .val (.int i4), .val (.int i5), .val (.ref b84), .val (.int (i5 &&& (3 : Int32))), .unset, .unset, .unset, .unset, .unset, .unset, .unset, .unset, .unset, .unset, .unset, .unset, .unset, .unset, .unset, .unset, .unset, .unset] [(.int (1 : Int32)), (.ref b87), (.ref b87)]))) (fun _ k => XS.iconst X88.here hx rfl (hb hby at_32) k) ?_
    refine own_st (U' := (T88.setTop (mkF m 34 #[.val (.int i0), .val (.int i1), .val (.int i2), .val (.int i3), .val (.int i4), .val (.int i5), .val (.ref b84), .val (.int (i5 &&& (3 : Int32))), .unset, .unset, .unset, .unset, .unset, .unset, .unset, .unset, .unset, .unset, .unset, .unset, .unset, .unset, .unset, .unset, .unset, .unset] [(.int i1), (.int (1 : Int32)), (.ref b87), (.ref b87)]))) (fun _ k => XS.iloadN X88.here hx rfl (hb hby at_33) rfl k) ?_
    obtain ⟨T89, h89, X89, e89, W89, V89, st89⟩ := own_stI X88 hx hZ e88 V_b87 (j := (1 : Int32)) (i := 1) (by decide) rfl (by decide) (g := (mkF m 34 #[.val (.int i0), .val (.int i1), .val (.int i2), .val (.int i3), .val (.int i4), .val (.int i5), .val (.ref b84), .val (.int (i5 &&& (3 : Int32))), .unset, .unset, .unset, .unset, .unset, .unset, .unset, .unset, .unset, .unset, .unset, .unset, .unset, .unset, .unset, .unset, .unset, .unset] [(.int i1), (.int (1 : Int32)), (.ref b87), (.ref b87)])) rfl rfl (hb hby at_34)
    have V_b84 := V_b84.other W89 ne_b84_b87
    have V_b87 := V89
    have N89 := Fr.snoc X89 N88 g_b87
    have Z89 : n0 ≤ h89.size := Nat.le_trans Z88 (Nat.le_of_eq W89.size.symm)
    refine own_st (U' := (T89.setTop (mkF m 35 #[.val (.int i0), .val (.int i1), .val (.int i2), .val (.int i3), .val (.int i4), .val (.int i5), .val (.ref b84), .val (.int (i5 &&& (3 : Int32))), .unset, .unset, .unset, .unset, .unset, .unset, .unset, .unset, .unset, .unset, .unset, .unset, .unset, .unset, .unset, .unset, .unset, .unset] [(.ref b87)]))) st89 ?_
    have V_b87 : own_A Z h89 b87 .int 2 (own_L [i0, i1]) := V_b87.congr (by intro j hj; rcases j with _ | _ | j <;> first | rfl | omega)
    refine own_st (U' := (T89.setTop (mkF m 37 #[.val (.int i0), .val (.int i1), .val (.int i2), .val (.int i3), .val (.int i4), .val (.int i5), .val (.ref b84), .val (.int (i5 &&& (3 : Int32))), .val (.ref b87), .unset, .unset, .unset, .unset, .unset, .unset, .unset, .unset, .unset, .unset, .unset, .unset, .unset, .unset, .unset, .unset, .unset] []))) (fun _ k => XS.astore X89.here hx rfl (hb hby at_35) rfl rfl (l' := #[.val (.int i0), .val (.int i1), .val (.int i2), .val (.int i3), .val (.int i4), .val (.int i5), .val (.ref b84), .val (.int (i5 &&& (3 : Int32))), .val (.ref b87), .unset, .unset, .unset, .unset, .unset, .unset, .unset, .unset, .unset, .unset, .unset, .unset, .unset, .unset, .unset, .unset, .unset]) rfl k) ?_
    refine own_st (U' := (T89.setTop (mkF m 101 #[.val (.int i0), .val (.int i1), .val (.int i2), .val (.int i3), .val (.int i4), .val (.int i5), .val (.ref b84), .val (.int (i5 &&& (3 : Int32))), .val (.ref b87), .unset, .unset, .unset, .unset, .unset, .unset, .unset, .unset, .unset, .unset, .unset, .unset, .unset, .unset, .unset, .unset, .unset] []))) (fun _ k => XS.goto X89.here hx rfl (pc0 := 37) (pc' := 101) rfl (hb hby at_37) (by decide) (by decide) k) ?_
    exact own_t101 i0 i1 i2 i3 i4 i5 _ _ _ b84 b87 hx hZ hw hby hml hown Bd.returns Bd.notSynchronized X89 e89 N89 Z89 V_b84 V_b87
  · skip
    refine own_st (U' := (T86.setTop (mkF m 40 #[.val (.int i0), .val (.int i1), .val (.int i2), .val (.int i3), .val (.int i4), .val (.int i5), .val (.ref b84), .val (.int (i5 &&& (3 : Int32))), .unset, .unset, .unset, .unset, .unset, .unset, .unset, .unset, .unset, .unset, .unset, .unset, .unset, .unset, .unset, .unset, .unset, .unset] []))) (fun _ k => XS.ifYes X86.here hx rfl (pc0 := 21) (pc' := 40) rfl (hb hby at_21) rfl ((if0 _ _).trans (feq c0).2) (by decide) (by decide) k) ?_
    refine own_st (U' := (T86.setTop (mkF m 42 #[.val (.int i0), .val (.int i1), .val (.int i2), .val (.int i3), .val (.int i4), .val (.int i5), .val (.ref b84), .val (.int (i5 &&& (3 : Int32))), .unset, .unset, .unset, .unset, .unset, .unset, .unset, .unset, .unset, .unset, .unset, .unset, .unset, .unset, .unset, .unset, .unset, .unset] [(.int (i5 &&& (3 : Int32)))]))) (fun _ k => XS.iload X86.here hx rfl (hb hby at_40) rfl k) ?_
    refine own_st (U' := (T86.setTop (mkF m 43 #[.val (.int i0), .val (.int i1), .val (.int i2), .val (.int i3), .val (.int i4), .val (.int i5), .val (.ref b84), .val (.int (i5 &&& (3 : Int32))), .unset, .unset, .unset, .unset, .unset, .unset, .unset, .unset, .unset, .unset, .unset, .unset, .unset, .unset, .unset, .unset, .unset, .unset] [(.int (1 : Int32)), (.int (i5 &&& (3 : Int32)))]))) (fun _ k => XS.iconst X86.here hx rfl (hb hby at_42) k) ?_
    by_cases c1 : (i5 &&& (3 : Int32)) = (1 : Int32)
    · skip
      refine own_st (U' := (T86.setTop (mkF m 46 #[.val (.int i0), .val (.int i1), .val (.int i2), .val (.int i3), .val (.int i4), .val (.int i5), .val (.ref b84), .val (.int (i5 &&& (3 : Int32))), .unset, .unset, .unset, .unset, .unset, .unset, .unset, .unset, .unset, .unset, .unset, .unset, .unset, .unset, .unset, .unset, .unset, .unset] []))) (fun _ k => XS.icmpNo X86.here hx rfl (hb hby at_43) rfl (teq c1).2 k) ?_
      refine own_st (U' := (T86.setTop (mkF m 47 #[.val (.int i0), .val (.int i1), .val (.int i2), .val (.int i3), .val (.int i4), .val (.int i5), .val (.ref b84), .val (.int (i5 &&& (3 : Int32))), .unset, .unset, .unset, .unset, .unset, .unset, .unset, .unset, .unset, .unset, .unset, .unset, .unset, .unset, .unset, .unset, .unset, .unset] [(.int (2 : Int32))]))) (fun _ k => XS.iconst X86.here hx rfl (hb hby at_46) k) ?_
      obtain ⟨T90, h90, k90, X90, e90, E90, A90, st90⟩ := newP X86 hx hZ (hw _ (List.mem_of_getElem? (i := 0) rfl)) e86 (g := (mkF m 47 #[.val (.int i0), .val (.int i1), .val (.int i2), .val (.int i3), .val (.int i4), .val (.int i5), .val (.ref b84), .val (.int (i5 &&& (3 : Int32))), .unset, .unset, .unset, .unset, .unset, .unset, .unset, .unset, .unset, .unset, .unset, .unset, .unset, .unset, .unset, .unset, .unset, .unset] [(.int (2 : Int32))])) rfl (hb hby at_47) rfl (by decide) (cap := 2) (by decide) (by decide) (by decide) (by decide)
      obtain ⟨b90, g90⟩ : ∃ z, z = h86.size := ⟨_, rfl⟩
      rw [← g90] at A90 st90
      have ne_b84_b90 : b84 ≠ b90 := Nat.ne_of_lt (Nat.lt_of_lt_of_eq V_b84.lt g90.symm)
      have g_b90 : n0 ≤ b90 := Nat.le_trans Z86 (Nat.le_of_eq g90.symm)
      have V_b84 := V_b84.ext E90
      have Z90 : n0 ≤ h90.size := Nat.le_trans Z86 E90.1
      have V_b90 : own_A Z h90 b90 .int 2 (fun _ => defaultValue .int) := own_A.new A90 (by decide)
      refine own_st (U' := (T90.setTop (mkF m 49 #[.val (.int i0), .val (.int i1), .val (.int i2), .val (.int i3), .val (.int i4), .val (.int i5), .val (.ref b84), .val (.int (i5 &&& (3 : Int32))), .unset, .unset, .unset, .unset, .unset, .unset, .unset, .unset, .unset, .unset, .unset, .unset, .unset, .unset, .unset, .unset, .unset, .unset] [(.ref b90)]))) st90 ?_
      refine own_st (U' := (T90.setTop (mkF m 50 #[.val (.int i0), .val (.int i1), .val (.int i2), .val (.int i3), .val (.int i4), .val (.int i5), .val (.ref b84), .val (.int (i5 &&& (3 : Int32))), .unset, .unset, .unset, .unset, .unset, .unset, .unset, .unset, .unset, .unset, .unset, .unset, .unset, .unset, .unset, .unset, .unset, .unset] [(.ref b90), (.ref b90)]))) (fun _ k => XS.dup X90.here hx rfl (hb hby at_49) rfl rfl k) ?_
      refine own_st (U' := (T90.setTop (mkF m 51 #[.val (.int i0), .val (.int i1), .val (.int i2), .val (.int i3), .val (.int i4), .val (.int i5), .val (.ref b84), .val (.int (i5 &&& (3 : Int32))), .unset, .unset, .unset, .unset, .unset, .unset, .unset, .unset, .unset, .unset, .unset, .unset, .unset, .unset, .unset, .unset, .unset, .unset] [(.int (0 : Int32)), (.ref b90), (.ref b90)]))) (fun _ k => XS.iconst X90.here hx rfl (hb hby at_50) k) ?_
      refine own_st (U' := (T90.setTop (mkF m 52 #[.val (.int i0), .val (.int i1), .val (.int i2), .val (.int i3), .val (.int i4), .val (.int i5), .val (.ref b84), .val (.int (i5 &&& (3 : Int32))), .unset, .unset, .unset, .unset, .unset, .unset, .unset, .unset, .unset, .unset, .unset, .unset, .unset, .unset, .unset, .unset, .unset, .unset] [(.int i0), (.int (0 : Int32)), (.ref b90), (.ref b90)]))) (fun _ k => XS.iloadN X90.here hx rfl (hb hby at_51) rfl k) ?_
      refine own_st (U' := (T90.setTop (mkF m 53 #[.val (.int i0), .val (.int i1), .val (.int i2), .val (.int i3), .val (.int i4), .val (.int i5), .val (.ref b84), .val (.int (i5 &&& (3 : Int32))), .unset, .unset, .unset, .unset, .unset, .unset, .unset, .unset, .unset, .unset, .unset, .unset, .unset, .unset, .unset, .unset, .unset, .unset] [(.int (1 : Int32)), (.int i0), (.int (0 : Int32)), (.ref b90), (.ref b90)]))) (fun _ k => XS.iconst X90.here hx rfl (hb hby at_52) k) ?_
      refine own_st (U' := (T90.setTop (mkF m 54 #[.val (.int i0), .val (.int i1), .val (.int i2), .val (.int i3), .val (.int i4), .val (.int i5), .val (.ref b84), .val (.int (i5 &&& (3 : Int32))), .unset, .unset, .unset, .unset, .unset, .unset, .unset, .unset, .unset, .unset, .unset, .unset, .unset, .unset, .unset, .unset, .unset, .unset] [(.int (i0 + (1 : Int32))), (.int (0 : Int32)), (.ref b90), (.ref b90)]))) (fun _ k => XS.iadd X90.here hx rfl (hb hby at_53) rfl k) ?_
      obtain ⟨T91, h91, X91, e91, W91, V91, st91⟩ := own_stI X90 hx hZ e90 V_b90 (j := (0 : Int32)) (i := 0) (by decide) rfl (by decide) (g := (mkF m 54 #[.val (.int i0), .val (.int i1), .val (.int i2), .val (.int i3), .val (.int i4), .val (.int i5), .val (.ref b84), .val (.int (i5 &&& (3 : Int32))), .unset, .unset, .unset, .unset, .unset, .unset, .unset, .unset, .unset, .unset, .unset, .unset, .unset, .unset, .unset, .unset, .unset, .unset] [(.int (i0 + (1 : Int32))), (.int (0 : Int32)), (.ref b90), (.ref b90)])) rfl rfl (hb hby at_54)
      have V_b84 := V_b84.other W91 ne_b84_b90
      have V_b90 := V91
      have N91 := Fr.snoc X91 N86 g_b90
      have Z91 : n0 ≤ h91.size := Nat.le_trans Z90 (Nat.le_of_eq W91.size.symm)
      refine own_st (U' := (T91.setTop (mkF m 55 #[.val (.int i0), .val (.int i1), .val (.int i2), .val (.int i3), .val (.int i4), .val (.int i5), .val (.ref b84), .val (.int (i5 &&& (3 : Int32))), .unset, .unset, .unset, .unset, .unset, .unset, .unset, .unset, .unset, .unset, .unset, .unset, .unset, .unset, .unset, .unset, .unset, .unset] [(.ref b90)]))) st91 ?_
      refine own_st (U' := (T91.setTop (mkF m 56 #[.val (.int i0), .val (.int i1), .val (.int i2), .val (.int i3), .val (.int i4), .val (.int i5), .val (.ref b84), .val (.int (i5 &&& (3 : Int32))), .unset, .unset, .unset, .unset, .unset, .unset, .unset, .unset, .unset, .unset, .unset, .unset, .unset, .unset, .unset, .unset, .unset, .unset] [(.ref b90), (.ref b90)]))) (fun _ k => XS.dup X91.here hx rfl (hb hby at_55) rfl rfl k) ?_
      refine own_st (U' := (T91.setTop (mkF m 57 #[.val (.int i0), .val (.int i1), .val (.int i2), .val (.int i3), .val (.int i4), .val (.int i5), .val (.ref b84), .val (.int (i5 &&& (3 : Int32))), .unset, .unset, .unset, .unset, .unset, .unset, .unset, .unset, .unset, .unset, .unset, .unset, .unset, .unset, .unset, .unset, .unset, .unset] [(.int (1 : Int32)), (.ref b90), (.ref b90)]))) (fun _ k => XS.iconst X91.here hx rfl (hb hby at_56) k) ?_
      refine own_st (U' := (T91.setTop (mkF m 58 #[.val (.int i0), .val (.int i1), .val (.int i2), .val (.int i3), .val (.int i4), .val (.int i5), .val (.ref b84), .val (.int (i5 &&& (3 : Int32))), .unset, .unset, .unset, .unset, .unset, .unset, .unset, .unset, .unset, .unset, .unset, .unset, .unset, .unset, .unset, .unset, .unset, .unset] [(.int i1), (.int (1 : Int32)), (.ref b90), (.ref b90)]))) (fun _ k => XS.iloadN X91.here hx rfl (hb hby at_57) rfl k) ?_
      obtain ⟨T92, h92, X92, e92, W92, V92, st92⟩ := own_stI X91 hx hZ e91 V_b90 (j := (1 : Int32)) (i := 1) (by decide) rfl (by decide) (g := (mkF m 58 #[.val (.int i0), .val (.int i1), .val (.int i2), .val (.int i3), .val (.int i4), .val (.int i5), .val (.ref b84), .val (.int (i5 &&& (3 : Int32))), .unset, .unset, .unset, .unset, .unset, .unset, .unset, .unset, .unset, .unset, .unset, .unset, .unset, .unset, .unset, .unset, .unset, .unset] [(.int i1), (.int (1 : Int32)), (.ref b90), (.ref b90)])) rfl rfl (hb hby at_58)
      have V_b84 := V_b84.other W92 ne_b84_b90
      have V_b90 := V92
      have N92 := Fr.snoc X92 N91 g_b90
      have Z92 : n0 ≤ h92.size := Nat.le_trans Z91 (Nat.le_of_eq W92.size.symm)
      refine own_st (U' := (T92.setTop (mkF m 59 #[.val (.int i0), .val (.int i1), .val (.int i2), .val (.int i3), .val (.int i4), .val (.int i5), .val (.ref b84), .val (.int (i5 &&& (3 : Int32))), .unset, .unset, .unset, .unset, .unset, .unset, .unset, .unset, .unset, .unset, .unset, .unset, .unset, .unset, .unset, .unset, .unset, .unset] [(.ref b90)]))) st92 ?_
      have V_b90 : own_A Z h92 b90 .int 2 (own_L [(i0 + (1 : Int32)), i1]) := V_b90.congr (by intro j hj; rcases j with _ | _ | j <;> first | rfl | omega)
      refine own_st (U' := (T92.setTop (mkF m 61 #[.val (.int i0), .val (.int i1), .val (.int i2), .val (.int i3), .val (.int i4), .val (.int i5), .val (.ref b84), .val (.int (i5 &&& (3 : Int32))), .val (.ref b90), .unset, .unset, .unset, .unset, .unset, .unset, .unset, .unset, .unset, .unset, .unset, .unset, .unset, .unset, .unset, .unset, .unset] []))) (fun _ k => XS.astore X92.here hx rfl (hb hby at_59) rfl rfl (l' := #[.val (.int i0), .val (.int i1), .val (.int i2), .val (.int i3), .val (.int i4), .val (.int i5), .val (.ref b84), .val (.int (i5 &&& (3 : Int32))), .val (.ref b90), .unset, .unset, .unset, .unset, .unset, .unset, .unset, .unset, .unset, .unset, .unset, .unset, .unset, .unset, .unset, .unset, .unset]) rfl k) ?_
      refine own_st (U' := (T92.setTop (mkF m 101 #[.val (.int i0), .val (.int i1), .val (.int i2), .val (.int i3), .val (.int i4), .val (.int i5), .val (.ref b84), .val (.int (i5 &&& (3 : Int32))), .val (.ref b90), .unset, .unset, .unset, .unset, .unset, .unset, .unset, .unset, .unset, .unset, .unset, .unset, .unset, .unset, .unset, .unset, .unset] []))) (fun _ k => XS.goto X92.here hx rfl (pc0 := 61) (pc' := 101) rfl (hb hby at_61) (by decide) (by decide) k) ?_
      exact own_t101 i0 i1 i2 i3 i4 i5 _ _ _ b84 b90 hx hZ hw hby hml hown Bd.returns Bd.notSynchronized X92 e92 N92 Z92 V_b84 V_b90
    · skip
      refine own_st (U' := (T86.setTop (mkF m 64 #[.val (.int i0), .val (.int i1), .val (.int i2), .val (.int i3), .val (.int i4), .val (.int i5), .val (.ref b84), .val (.int (i5 &&& (3 : Int32))), .unset, .unset, .unset, .unset, .unset, .unset, .unset, .unset, .unset, .unset, .unset, .unset, .unset, .unset, .unset, .unset, .unset, .unset] []))) (fun _ k => XS.icmpYes X86.here hx rfl (pc0 := 43) (pc' := 64) rfl (hb hby at_43) rfl (feq c1).2 (by decide) (by decide) k) ?_
      refine own_st (U' := (T86.setTop (mkF m 66 #[.val (.int i0), .val (.int i1), .val (.int i2), .val (.int i3), .val (.int i4), .val (.int i5), .val (.ref b84), .val (.int (i5 &&& (3 : Int32))), .unset, .unset, .unset, .unset, .unset, .unset, .unset, .unset, .unset, .unset, .unset, .unset, .unset, .unset, .unset, .unset, .unset, .unset] [(.int (i5 &&& (3 : Int32)))]))) (fun _ k => XS.iload X86.here hx rfl (hb hby at_64) rfl k) ?_
      refine own_st (U' := (T86.setTop (mkF m 67 #[.val (.int i0), .val (.int i1), .val (.int i2), .val (.int i3), .val (.int i4), .val (.int i5), .val (.ref b84), .val (.int (i5 &&& (3 : Int32))), .unset, .unset, .unset, .unset, .unset, .unset, .unset, .unset, .unset, .unset, .unset, .unset, .unset, .unset, .unset, .unset, .unset, .unset] [(.int (2 : Int32)), (.int (i5 &&& (3 : Int32)))]))) (fun _ k => XS.iconst X86.here hx rfl (hb hby at_66) k) ?_
      by_cases c2 : (i5 &&& (3 : Int32)) = (2 : Int32)
      · skip
        refine own_st (U' := (T86.setTop (mkF m 70 #[.val (.int i0), .val (.int i1), .val (.int i2), .val (.int i3), .val (.int i4), .val (.int i5), .val (.ref b84), .val (.int (i5 &&& (3 : Int32))), .unset, .unset, .unset, .unset, .unset, .unset, .unset, .unset, .unset, .unset, .unset, .unset, .unset, .unset, .unset, .unset, .unset, .unset] []))) (fun _ k => XS.icmpNo X86.here hx rfl (hb hby at_67) rfl (teq c2).2 k) ?_
        refine own_st (U' := (T86.setTop (mkF m 71 #[.val (.int i0), .val (.int i1), .val (.int i2), .val (.int i3), .val (.int i4), .val (.int i5), .val (.ref b84), .val (.int (i5 &&& (3 : Int32))), .unset, .unset, .unset, .unset, .unset, .unset, .unset, .unset, .unset, .unset, .unset, .unset, .unset, .unset, .unset, .unset, .unset, .unset] [(.int (2 : Int32))]))) (fun _ k => XS.iconst X86.here hx rfl (hb hby at_70) k) ?_
        obtain ⟨T93, h93, k93, X93, e93, E93, A93, st93⟩ := newP X86 hx hZ (hw _ (List.mem_of_getElem? (i := 0) rfl)) e86 (g := (mkF m 71 #[.val (.int i0), .val (.int i1), .val (.int i2), .val (.int i3), .val (.int i4), .val (.int i5), .val (.ref b84), .val (.int (i5 &&& (3 : Int32))), .unset, .unset, .unset, .unset, .unset, .unset, .unset, .unset, .unset, .unset, .unset, .unset, .unset, .unset, .unset, .unset, .unset, .unset] [(.int (2 : Int32))])) rfl (hb hby at_71) rfl (by decide) (cap := 2) (by decide) (by decide) (by decide) (by decide)
        obtain ⟨b93, g93⟩ : ∃ z, z = h86.size := ⟨_, rfl⟩
        rw [← g93] at A93 st93
        have ne_b84_b93 : b84 ≠ b93 := Nat.ne_of_lt (Nat.lt_of_lt_of_eq V_b84.lt g93.symm)
        have g_b93 : n0 ≤ b93 := Nat.le_trans Z86 (Nat.le_of_eq g93.symm)
        have V_b84 := V_b84.ext E93
        have Z93 : n0 ≤ h93.size := Nat.le_trans Z86 E93.1
        have V_b93 : own_A Z h93 b93 .int 2 (fun _ => defaultValue .int) := own_A.new A93 (by decide)
        refine own_st (U' := (T93.setTop (mkF m 73 #[.val (.int i0), .val (.int i1), .val (.int i2), .val (.int i3), .val (.int i4), .val (.int i5), .val (.ref b84), .val (.int (i5 &&& (3 : Int32))), .unset, .unset, .unset, .unset, .unset, .unset, .unset, .unset, .unset, .unset, .unset, .unset, .unset, .unset, .unset, .unset, .unset, .unset] [(.ref b93)]))) st93 ?_
        refine own_st (U' := (T93.setTop (mkF m 74 #[.val (.int i0), .val (.int i1), .val (.int i2), .val (.int i3), .val (.int i4), .val (.int i5), .val (.ref b84), .val (.int (i5 &&& (3 : Int32))), .unset, .unset, .unset, .unset, .unset, .unset, .unset, .unset, .unset, .unset, .unset, .unset, .unset, .unset, .unset, .unset, .unset, .unset] [(.ref b93), (.ref b93)]))) (fun _ k => XS.dup X93.here hx rfl (hb hby at_73) rfl rfl k) ?_
        refine own_st (U' := (T93.setTop (mkF m 75 #[.val (.int i0), .val (.int i1), .val (.int i2), .val (.int i3), .val (.int i4), .val (.int i5), .val (.ref b84), .val (.int (i5 &&& (3 : Int32))), .unset, .unset, .unset, .unset, .unset, .unset, .unset, .unset, .unset, .unset, .unset, .unset, .unset, .unset, .unset, .unset, .unset, .unset] [(.int (0 : Int32)), (.ref b93), (.ref b93)]))) (fun _ k => XS.iconst X93.here hx rfl (hb hby at_74) k) ?_
        refine own_st (U' := (T93.setTop (mkF m 76 #[.val (.int i0), .val (.int i1), .val (.int i2), .val (.int i3), .val (.int i4), .val (.int i5), .val (.ref b84), .val (.int (i5 &&& (3 : Int32))), .unset, .unset, .unset, .unset, .unset, .unset, .unset, .unset, .unset, .unset, .unset, .unset, .unset, .unset, .unset, .unset, .unset, .unset] [(.int i0), (.int (0 : Int32)), (.ref b93), (.ref b93)]))) (fun _ k => XS.iloadN X93.here hx rfl (hb hby at_75) rfl k) ?_
        obtain ⟨T94, h94, X94, e94, W94, V94, st94⟩ := own_stI X93 hx hZ e93 V_b93 (j := (0 : Int32)) (i := 0) (by decide) rfl (by decide) (g := (mkF m 76 #[.val (.int i0), .val (.int i1), .val (.int i2), .val (.int i3), .val (.int i4), .val (.int i5), .val (.ref b84), .val (.int (i5 &&& (3 : Int32))), .unset, .unset, .unset, .unset, .unset, .unset, .unset, .unset, .unset, .unset, .unset, .unset, .unset, .unset, .unset, .unset, .unset, .unset] [(.int i0), (.int (0 : Int32)), (.ref b93), (.ref b93)])) rfl rfl (hb hby at_76)
        have V_b84 := V_b84.other W94 ne_b84_b93
        have V_b93 := V94
        have N94 := Fr.snoc X94 N86 g_b93
        have Z94 : n0 ≤ h94.size := Nat.le_trans Z93 (Nat.le_of_eq W94.size.symm)
        refine own_st (U' := (T94.setTop (mkF m 77 #[.val (.int i0), .val (.int i1), .val (.int i2), .val (.int i3), .val (.int i4), .val (.int i5), .val (.ref b84), .val (.int (i5 &&& (3 : Int32))), .unset, .unset, .unset, .unset, .unset, .unset, .unset, .unset, .unset, .unset, .unset, .unset, .unset, .unset, .unset, .unset, .unset, .unset] [(.ref b93)]))) st94 ?_
        refine own_st (U' := (T94.setTop (mkF m 78 #[.val (.int i0), .val (.int i1), .val (.int i2), .val (.int i3), .val (.int i4), .val (.int i5), .val (.ref b84), .val (.int (i5 &&& (3 : Int32))), .unset, .unset, .unset, .unset, .unset, .unset, .unset, .unset, .unset, .unset, .unset, .unset, .unset, .unset, .unset, .unset, .unset, .unset] [(.ref b93), (.ref b93)]))) (fun _ k => XS.dup X94.here hx rfl (hb hby at_77) rfl rfl k) ?_
        refine own_st (U' := (T94.setTop (mkF m 79 #[.val (.int i0), .val (.int i1), .val (.int i2), .val (.int i3), .val (.int i4), .val (.int i5), .val (.ref b84), .val (.int (i5 &&& (3 : Int32))), .unset, .unset, .unset, .unset, .unset, .unset, .unset, .unset, .unset, .unset, .unset, .unset, .unset, .unset, .unset, .unset, .unset, .unset] [(.int (1 : Int32)), (.ref b93), (.ref b93)]))) (fun _ k => XS.iconst X94.here hx rfl (hb hby at_78) k) ?_
        refine own_st (U' := (T94.setTop (mkF m 80 #[.val (.int i0), .val (.int i1), .val (.int i2), .val (.int i3), .val (.int i4), .val (.int i5), .val (.ref b84), .val (.int (i5 &&& (3 : Int32))), .unset, .unset, .unset, .unset, .unset, .unset, .unset, .unset, .unset, .unset, .unset, .unset, .unset, .unset, .unset, .unset, .unset, .unset] [(.int i1), (.int (1 : Int32)), (.ref b93), (.ref b93)]))) (fun _ k => XS.iloadN X94.here hx rfl (hb hby at_79) rfl k) ?_
        refine own_st (U' := (T94.setTop (mkF m 81 #[.val (.int i0), .val (.int i1), .val (.int i2), .val (.int i3), .val (.int i4), .val (.int i5), .val (.ref b84), .val (.int (i5 &&& (3 : Int32))), .unset, .unset, .unset, .unset, .unset, .unset, .unset, .unset, .unset, .unset, .unset, .unset, .unset, .unset, .unset, .unset, .unset, .unset] [(.int (1 : Int32)), (.int i1), (.int (1 : Int32)), (.ref b93), (.ref b93)]))) (fun _ k => XS.iconst X94.here hx rfl (hb hby at_80) k) ?_
        refine own_st (U' := (T94.setTop (mkF m 82 #[.val (.int i0), .val (.int i1), .val (.int i2), .val (.int i3), .val (.int i4), .val (.int i5), .val (.ref b84), .val (.int (i5 &&& (3 : Int32))), .unset, .unset, .unset, .unset, .unset, .unset, .unset, .unset, .unset, .unset, .unset, .unset, .unset, .unset, .unset, .unset, .unset, .unset] [(.int (i1 + (1 : Int32))), (.int (1 : Int32)), (.ref b93), (.ref b93)]))) (fun _ k => XS.iadd X94.here hx rfl (hb hby at_81) rfl k) ?_
        obtain ⟨T95, h95, X95, e95, W95, V95, st95⟩ := own_stI X94 hx hZ e94 V_b93 (j := (1 : Int32)) (i := 1) (by decide) rfl (by decide) (g := (mkF m 82 #[.val (.int i0), .val (.int i1), .val (.int i2), .val (.int i3), .val (.int i4), .val (.int i5), .val (.ref b84), .val (.int (i5 &&& (3 : Int32))), .unset, .unset, .unset, .unset, .unset, .unset, .unset, .unset, .unset, .unset, .unset, .unset, .unset, .unset, .unset, .unset, .unset, .unset] [(.int (i1 + (1 : Int32))), (.int (1 : Int32)), (.ref b93), (.ref b93)])) rfl rfl (hb hby at_82)
        have V_b84 := V_b84.other W95 ne_b84_b93
        have V_b93 := V95
        have N95 := Fr.snoc X95 N94 g_b93
        have Z95 : n0 ≤ h95.size := Nat.le_trans Z94 (Nat.le_of_eq W95.size.symm)
        refine own_st (U' := (T95.setTop (mkF m 83 #[.val (.int i0), .val (.int i1), .val (.int i2), .val (.int i3), .val (.int i4), .val (.int i5), .val (.ref b84), .val (.int (i5 &&& (3 : Int32))), .unset, .unset, .unset, .unset, .unset, .unset, .unset, .unset, .unset, .unset, .unset, .unset, .unset, .unset, .unset, .unset, .unset, .unset] [(.ref b93)]))) st95 ?_
        have V_b93 : own_A Z h95 b93 .int 2 (own_L [i0, (i1 + (1 : Int32))]) := V_b93.congr (by intro j hj; rcases j with _ | _ | j <;> first | rfl | omega)
        refine own_st (U' := (T95.setTop (mkF m 85 #[.val (.int i0), .val (.int i1), .val (.int i2), .val (.int i3), .val (.int i4), .val (.int i5), .val (.ref b84), .val (.int (i5 &&& (3 : Int32))), .val (.ref b93), .unset, .unset, .unset, .unset, .unset, .unset, .unset, .unset, .unset, .unset, .unset, .unset, .unset, .unset, .unset, .unset, .unset] []))) (fun _ k => XS.astore X95.here hx rfl (hb hby at_83) rfl rfl (l' := #[.val (.int i0), .val (.int i1), .val (.int i2), .val (.int i3), .val (.int i4), .val (.int i5), .val (.ref b84), .val (.int (i5 &&& (3 : Int32))), .val (.ref b93), .unset, .unset, .unset, .unset, .unset, .unset, .unset, .unset, .unset, .unset, .unset, .unset, .unset, .unset, .unset, .unset, .unset]) rfl k) ?_
        refine own_st (U' := (T95.setTop (mkF m 101 #[.val (.int i0), .val (.int i1), .val (.int i2), .val (.int i3), .val (.int i4), .val (.int i5), .val (.ref b84), .val (.int (i5 &&& (3 : Int32))), .val (.ref b93), .unset, .unset, .unset, .unset, .unset, .unset, .unset, .unset, .unset, .unset, .unset, .unset, .unset, .unset, .unset, .unset, .unset] []))) (fun _ k => XS.goto X95.here hx rfl (pc0 := 85) (pc' := 101) rfl (hb hby at_85) (by decide) (by decide) k) ?_
        exact own_t101 i0 i1 i2 i3 i4 i5 _ _ _ b84 b93 hx hZ hw hby hml hown Bd.returns Bd.notSynchronized X95 e95 N95 Z95 V_b84 V_b93
      · skip
        refine own_st (U' := (T86.setTop (mkF m 88 #[.val (.int i0), .val (.int i1), .val (.int i2), .val (.int i3), .val (.int i4), .val (.int i5), .val (.ref b84), .val (.int (i5 &&& (3 : Int32))), .unset, .unset, .unset, .unset, .unset, .unset, .unset, .unset, .unset, .unset, .unset, .unset, .unset, .unset, .unset, .unset, .unset, .unset] []))) (fun _ k => XS.icmpYes X86.here hx rfl (pc0 := 67) (pc' := 88) rfl (hb hby at_67) rfl (feq c2).2 (by decide) (by decide) k) ?_
        refine own_st (U' := (T86.setTop (mkF m 89 #[.val (.int i0), .val (.int i1), .val (.int i2), .val (.int i3), .val (.int i4), .val (.int i5), .val (.ref b84), .val (.int (i5 &&& (3 : Int32))), .unset, .unset, .unset, .unset, .unset, .unset, .unset, .unset, .unset, .unset, .unset, .unset, .unset, .unset, .unset, .unset, .unset, .unset] [(.int (2 : Int32))]))) (fun _ k => XS.iconst X86.here hx rfl (hb hby at_88) k) ?_
        obtain ⟨T96, h96, k96, X96, e96, E96, A96, st96⟩ := newP X86 hx hZ (hw _ (List.mem_of_getElem? (i := 0) rfl)) e86 (g := (mkF m 89 #[.val (.int i0), .val (.int i1), .val (.int i2), .val (.int i3), .val (.int i4), .val (.int i5), .val (.ref b84), .val (.int (i5 &&& (3 : Int32))), .unset, .unset, .unset, .unset, .unset, .unset, .unset, .unset, .unset, .unset, .unset, .unset, .unset, .unset, .unset, .unset, .unset, .unset] [(.int (2 : Int32))])) rfl (hb hby at_89) rfl (by decide) (cap := 2) (by decide) (by decide) (by decide) (by decide)
        obtain ⟨b96, g96⟩ : ∃ z, z = h86.size := ⟨_, rfl⟩
        rw [← g96] at A96 st96
        have ne_b84_b96 : b84 ≠ b96 := Nat.ne_of_lt (Nat.lt_of_lt_of_eq V_b84.lt g96.symm)
        have g_b96 : n0 ≤ b96 := Nat.le_trans Z86 (Nat.le_of_eq g96.symm)
        have V_b84 := V_b84.ext E96
        have Z96 : n0 ≤ h96.size := Nat.le_trans Z86 E96.1
        have V_b96 : own_A Z h96 b96 .int 2 (fun _ => defaultValue .int) := own_A.new A96 (by decide)
        refine own_st (U' := (T96.setTop (mkF m 91 #[.val (.int i0), .val (.int i1), .val (.int i2), .val (.int i3), .val (.int i4), .val (.int i5), .val (.ref b84), .val (.int (i5 &&& (3 : Int32))), .unset, .unset, .unset, .unset, .unset, .unset, .unset, .unset, .unset, .unset, .unset, .unset, .unset, .unset, .unset, .unset, .unset, .unset] [(.ref b96)]))) st96 ?_
        refine own_st (U' := (T96.setTop (mkF m 92 #[.val (.int i0), .val (.int i1), .val (.int i2), .val (.int i3), .val (.int i4), .val (.int i5), .val (.ref b84), .val (.int (i5 &&& (3 : Int32))), .unset, .unset, .unset, .unset, .unset, .unset, .unset, .unset, .unset, .unset, .unset, .unset, .unset, .unset, .unset, .unset, .unset, .unset] [(.ref b96), (.ref b96)]))) (fun _ k => XS.dup X96.here hx rfl (hb hby at_91) rfl rfl k) ?_
        refine own_st (U' := (T96.setTop (mkF m 93 #[.val (.int i0), .val (.int i1), .val (.int i2), .val (.int i3), .val (.int i4), .val (.int i5), .val (.ref b84), .val (.int (i5 &&& (3 : Int32))), .unset, .unset, .unset, .unset, .unset, .unset, .unset, .unset, .unset, .unset, .unset, .unset, .unset, .unset, .unset, .unset, .unset, .unset] [(.int (0 : Int32)), (.ref b96), (.ref b96)]))) (fun _ k => XS.iconst X96.here hx rfl (hb hby at_92) k) ?_
        refine own_st (U' := (T96.setTop (mkF m 94 #[.val (.int i0), .val (.int i1), .val (.int i2), .val (.int i3), .val (.int i4), .val (.int i5), .val (.ref b84), .val (.int (i5 &&& (3 : Int32))), .unset, .unset, .unset, .unset, .unset, .unset, .unset, .unset, .unset, .unset, .unset, .unset, .unset, .unset, .unset, .unset, .unset, .unset] [(.int i1), (.int (0 : Int32)), (.ref b96), (.ref b96)]))) (fun _ k => XS.iloadN X96.here hx rfl (hb hby at_93) rfl k) ?_
        obtain ⟨T97, h97, X97, e97, W97, V97, st97⟩ := own_stI X96 hx hZ e96 V_b96 (j := (0 : Int32)) (i := 0) (by decide) rfl (by decide) (g := (mkF m 94 #[.val (.int i0), .val (.int i1), .val (.int i2), .val (.int i3), .val (.int i4), .val (.int i5), .val (.ref b84), .val (.int (i5 &&& (3 : Int32))), .unset, .unset, .unset, .unset, .unset, .unset, .unset, .unset, .unset, .unset, .unset, .unset, .unset, .unset, .unset, .unset, .unset, .unset] [(.int i1), (.int (0 : Int32)), (.ref b96), (.ref b96)])) rfl rfl (hb hby at_94)
        have V_b84 := V_b84.other W97 ne_b84_b96
        have V_b96 := V97
        have N97 := Fr.snoc X97 N86 g_b96
        have Z97 : n0 ≤ h97.size := Nat.le_trans Z96 (Nat.le_of_eq W97.size.symm)
        refine own_st (U' := (T97.setTop (mkF m 95 #[.val (.int i0), .val (.int i1), .val (.int i2), .val (.int i3), .val (.int i4), .val (.int i5), .val (.ref b84), .val (.int (i5 &&& (3 : Int32))), .unset, .unset, .unset, .unset, .unset, .unset, .unset, .unset, .unset, .unset, .unset, .unset, .unset, .unset, .unset, .unset, .unset, .unset] [(.ref b96)]))) st97 ?_
        refine own_st (U' := (T97.setTop (mkF m 96 #[.val (.int i0), .val (.int i1), .val (.int i2), .val (.int i3), .val (.int i4), .val (.int i5), .val (.ref b84), .val (.int (i5 &&& (3 : Int32))), .unset, .unset, .unset, .unset, .unset, .unset, .unset, .unset, .unset, .unset, .unset, .unset, .unset, .unset, .unset, .unset, .unset, .unset] [(.ref b96), (.ref b96)]))) (fun _ k => XS.dup X97.here hx rfl (hb hby at_95) rfl rfl k) ?_
        refine own_st (U' := (T97.setTop (mkF m 97 #[.val (.int i0), .val (.int i1), .val (.int i2), .val (.int i3), .val (.int i4), .val (.int i5), .val (.ref b84), .val (.int (i5 &&& (3 : Int32))), .unset, .unset, .unset, .unset, .unset, .unset, .unset, .unset, .unset, .unset, .unset, .unset, .unset, .unset, .unset, .unset, .unset, .unset] [(.int (1 : Int32)), (.ref b96), (.ref b96)]))) (fun _ k => XS.iconst X97.here hx rfl (hb hby at_96) k) ?_
        refine own_st (U' := (T97.setTop (mkF m 98 #[.val (.int i0), .val (.int i1), .val (.int i2), .val (.int i3), .val (.int i4), .val (.int i5), .val (.ref b84), .val (.int (i5 &&& (3 : Int32))), .unset, .unset, .unset, .unset, .unset, .unset, .unset, .unset, .unset, .unset, .unset, .unset, .unset, .unset, .unset, .unset, .unset, .unset] [(.int i0), (.int (1 : Int32)), (.ref b96), (.ref b96)]))) (fun _ k => XS.iloadN X97.here hx rfl (hb hby at_97) rfl k) ?_
        obtain ⟨T98, h98, X98, e98, W98, V98, st98⟩ := own_stI X97 hx hZ e97 V_b96 (j := (1 : Int32)) (i := 1) (by decide) rfl (by decide) (g := (mkF m 98 #[.val (.int i0), .val (.int i1), .val (.int i2), .val (.int i3), .val (.int i4), .val (.int i5), .val (.ref b84), .val (.int (i5 &&& (3 : Int32))), .unset, .unset, .unset, .unset, .unset, .unset, .unset, .unset, .unset, .unset, .unset, .unset, .unset, .unset, .unset, .unset, .unset, .unset] [(.int i0), (.int (1 : Int32)), (.ref b96), (.ref b96)])) rfl rfl (hb hby at_98)
        have V_b84 := V_b84.other W98 ne_b84_b96
        have V_b96 := V98
        have N98 := Fr.snoc X98 N97 g_b96
        have Z98 : n0 ≤ h98.size := Nat.le_trans Z97 (Nat.le_of_eq W98.size.symm)
        refine own_st (U' := (T98.setTop (mkF m 99 #[.val (.int i0), .val (.int i1), .val (.int i2), .val (.int i3), .val (.int i4), .val (.int i5), .val (.ref b84), .val (.int (i5 &&& (3 : Int32))), .unset, .unset, .unset, .unset, .unset, .unset, .unset, .unset, .unset, .unset, .unset, .unset, .unset, .unset, .unset, .unset, .unset, .unset] [(.ref b96)]))) st98 ?_
        have V_b96 : own_A Z h98 b96 .int 2 (own_L [i1, i0]) := V_b96.congr (by intro j hj; rcases j with _ | _ | j <;> first | rfl | omega)
        refine own_st (U' := (T98.setTop (mkF m 101 #[.val (.int i0), .val (.int i1), .val (.int i2), .val (.int i3), .val (.int i4), .val (.int i5), .val (.ref b84), .val (.int (i5 &&& (3 : Int32))), .val (.ref b96), .unset, .unset, .unset, .unset, .unset, .unset, .unset, .unset, .unset, .unset, .unset, .unset, .unset, .unset, .unset, .unset, .unset] []))) (fun _ k => XS.astore X98.here hx rfl (hb hby at_99) rfl rfl (l' := #[.val (.int i0), .val (.int i1), .val (.int i2), .val (.int i3), .val (.int i4), .val (.int i5), .val (.ref b84), .val (.int (i5 &&& (3 : Int32))), .val (.ref b96), .unset, .unset, .unset, .unset, .unset, .unset, .unset, .unset, .unset, .unset, .unset, .unset, .unset, .unset, .unset, .unset, .unset]) rfl k) ?_
        exact own_t101 i0 i1 i2 i3 i4 i5 _ _ _ b84 b96 hx hZ hw hby hml hown Bd.returns Bd.notSynchronized X98 e98 N98 Z98 V_b84 V_b96
set_option maxRecDepth 65536 in
set_option maxHeartbeats 40000000 in
theorem comes_1 {Post : Tables → Env → Array Value → State → Outcome → State → Prop} (hpost : ∀ tb e args s v u, (limb_1_1.after args s (.returned v) u = true ∧ limb_1_2.after args s (.returned v) u = true ∧ True) → FrameEnd s (.returned v) u (Jvm.fieldLocs frame_1_writes args s ++ Jvm.arrayLocs frame_1_arrays args s ++ Jvm.staticLocs frame_1_statics s) 32 256 → Post tb e args s (.returned v) u) :
    ArmFor flags0 classFile x code maxLocals ret World_1 tables_1 room_1 Calls_1 rest_1 Pre_1 Post := by
  intro l hfl _ _ p e ha hc hk s m args below hf hA hF happ hP
  obtain ⟨hcalls, hrest, hpre⟩ := hP
  obtain ⟨-, -, -, hnamed, -, -, -, hat⟩ := (Spec.applies_iff hf).mp happ
  obtain ⟨hg, hn⟩ := and_e (Cond.before_iff.mp (show (Jvm.Cond.and given_1 narrow_1).before args s = true from hpre))
  obtain ⟨gc, g0⟩ := and_e hg
  obtain ⟨w0, w1, w2, w3, w4, w5, rfl⟩ : ∃ w0 w1 w2 w3 w4 w5 : Value, args = #[w0, w1, w2, w3, w4, w5] := by
    have hs : args.size = 6 := by simpa [Cond.value, given_1] using gc
    obtain ⟨L⟩ := args
    match L, hs with
    | [w0, w1, w2, w3, w4, w5], _ => exact ⟨w0, w1, w2, w3, w4, w5, rfl⟩
  have hw := fun d (hd : d ∈ tables_1) => atoms_spec (ws := Jvm.Cond.code x code maxLocals ret :: tables_1) hat d (List.mem_cons_of_mem _ hd)
  obtain ⟨f0, g1⟩ := and_e g0
  obtain ⟨i0, ei0⟩ := is_v f0
  obtain rfl : w0 = (.int i0) := Option.some.inj ei0
  obtain ⟨f1, g2⟩ := and_e g1
  obtain ⟨i1, ei1⟩ := is_v f1
  obtain rfl : w1 = (.int i1) := Option.some.inj ei1
  obtain ⟨f2, g3⟩ := and_e g2
  obtain ⟨i2, ei2⟩ := is_v f2
  obtain rfl : w2 = (.int i2) := Option.some.inj ei2
  obtain ⟨f3, g4⟩ := and_e g3
  obtain ⟨i3, ei3⟩ := is_v f3
  obtain rfl : w3 = (.int i3) := Option.some.inj ei3
  obtain ⟨f4, g5⟩ := and_e g4
  obtain ⟨i4, ei4⟩ := is_v f4
  obtain rfl : w4 = (.int i4) := Option.some.inj ei4
  obtain ⟨i5, ei5⟩ := is_v g5
  obtain rfl : w5 = (.int i5) := Option.some.inj ei5
  obtain ⟨n, o, h1, h2, h3, _, L, rfl, ⟨rfl, N⟩, hq⟩ := rm0 l s _ hw tables_1 i0 i1 i2 i3 i4 i5 s.heap s.heap.size (Nat.le_refl _)  p e ha hc hk s m _ below hf ((Spec.applies_iff_loose hf).mp happ).1 ⟨rfl, State.Warmed39.refl s, rfl⟩ trivial
  refine ⟨n, _, h1, h2, h3, hpost _ _ _ _ _ _ ⟨Cond.after_iff.mpr rfl, Cond.after_iff.mpr (eq_i res_at (Term.int_eval (1)) rfl), trivial⟩ ⟨hq.1, hq.2.1, (hq.2.2.sift fun y hy => Or.inr (N y hy)).mono (by decide) (by decide)⟩⟩
theorem main_1_1 : Claimed_1_1 := comes_1 fun _ _ _ _ _ _ h hF => ⟨h.1, hF⟩
theorem main_1_2 : Claimed_1_2 := comes_1 fun _ _ _ _ _ _ h hF => ⟨h.2.1, hF⟩
end Jvm.Pilot.@@N@@
namespace Jvm.Pilot.@@N@@
open Jvm Jvm.ClassFile Sem Op Lib Jvm.Free Jvm.Stand Jvm.Pilot.@@N@@.Jvm.D
/-! MADE BY PROGRAM (witnessworld.py) out of the Statement's table words and the real class files: 12 classes; the members and pool entries that the words name. The judged class is class 1, her method 5. -/
namespace start1
open Jvm.ClassFile
def u (s : String) : CpInfo := .utf8 (stringToUtf16 s)
/-- a pool by its gaps: so many unusable entries, then the entry; so many at the end -/
def gap : Nat → List CpInfo → List CpInfo
  | 0, r => r
  | n + 1, r => .unusable :: gap n r
def poolList (es : List (Nat × CpInfo)) (last : Nat) : List CpInfo := es.foldr (fun e r => gap e.1 (e.2 :: r)) (gap last [])
def pool (es : List (Nat × CpInfo)) (last : Nat) : Array CpInfo := ⟨poolList es last⟩
def fileOf (pool : Array CpInfo) (this : Nat) (attrs : Array Attribute := #[]) (ms : Array MethodInfo := #[]) (fl : Nat := 33) (sup : Nat := 0) (ifs : Array Nat := #[]) (fds : Array FieldInfo := #[]) : ClassFile where
  minorVersion := 0
  majorVersion := 65
  constantPool := pool
  accessFlags := fl
  thisClass := this
  superClass := sup
  interfaces := ifs
  fields := fds
  methods := ms
  attributes := attrs
def plain (name : String) (sup : Option ClassId) : Class where
  name := name
  kind := .ordinary
  loader := none
  accessFlags := 33
  super := sup
  interfaces := #[]
  cf := none
  fields := #[]
  methods := #[]
  instanceTypes := #[]
  staticTypes := #[]
  resolved := #[]
  callSites := []
  init := .initialized
  statics := none
  mirror := none

def pool0 : Array CpInfo := pool [(5, u "<init>"), (0, u "()V"), (1, .class_ 10), (1, u "java/lang/Object")] 113

def k0c0 : Code := { maxStack := 0, maxLocals := 1, code := object_method_1_code, exceptionTable := #[], attributes := #[] }
def k0m0 : Method := { name := "<init>", desc := "()V", sig := { parameters := [], returnType := none }, accessFlags := 1, code := some k0c0 }
/-- java/lang/Object -/
def k0 : Class := { plain "java/lang/Object" none with
  accessFlags := 33
  interfaces := #[]
  cf := some (fileOf pool0 8 #[] #[{ accessFlags := 1, nameIndex := 5, descriptorIndex := 6, attributes := #[] }] 33 0 #[] #[])
  fields := #[]
  methods := #[k0m0]
  instanceTypes := #[]
  staticTypes := #[]
  resolved := Array.replicate 124 none
  statics := none }

def pool1 : Array CpInfo := pool [(2, .class_ 4), (1, u "java/lang/Object"), (0, u "<init>"), (0, u "()V"), (0, .integer 2147483647), (0, .methodref 9 10), (0, .class_ 11), (0, .nameAndType 12 13), (0, u "com/example/quorum/quorum/FailedStatesContainsPinLaw"), (0, u "eq"), (0, u "([I[I)Z"), (0, .methodref 9 15), (0, .nameAndType 16 17), (0, u "pickKey"), (0, u "(I[I[II)[I"), (0, .methodref 9 19), (0, .nameAndType 20 21), (0, u "pickPos"), (0, u "(IIII)I"), (0, .methodref 9 23), (0, .nameAndType 24 25), (0, u "expect"), (0, u "([II[IIZ[IIZ)Z"), (0, .class_ 27), (0, u "com/example/quorum/quorum/FailedStates"), (0, .methodref 26 29), (0, .nameAndType 5 30), (0, u "(I)V"), (0, .methodref 26 32), (0, .nameAndType 33 34), (0, u "add"), (0, u "([II)V"), (0, .methodref 26 36), (0, .nameAndType 37 38), (0, u "contains"), (0, u "([II)Z"), (3, u "law"), (0, u "(IIIIII)Z")] 4

def k1m0 : Method := { name := "<init>", desc := "()V", sig := { parameters := [], returnType := none }, accessFlags := 1, code := none }
def k1c1 : Code := { maxStack := 5, maxLocals := 4, code := method_2_code, exceptionTable := #[], attributes := #[] }
def k1m1 : Method := { name := "pickKey", desc := "(I[I[II)[I", sig := { parameters := [.int, (.array .int), (.array .int), .int], returnType := some (.array .int) }, accessFlags := 10, code := some k1c1 }
def k1c2 : Code := { maxStack := 2, maxLocals := 4, code := method_3_code, exceptionTable := #[], attributes := #[] }
def k1m2 : Method := { name := "pickPos", desc := "(IIII)I", sig := { parameters := [.int, .int, .int, .int], returnType := some .int }, accessFlags := 10, code := some k1c2 }
def k1c3 : Code := { maxStack := 3, maxLocals := 2, code := method_4_code, exceptionTable := #[], attributes := #[] }
def k1m3 : Method := { name := "eq", desc := "([I[I)Z", sig := { parameters := [(.array .int), (.array .int)], returnType := some .boolean }, accessFlags := 10, code := some k1c3 }
def k1c4 : Code := { maxStack := 2, maxLocals := 8, code := method_5_code, exceptionTable := #[], attributes := #[] }
def k1m4 : Method := { name := "expect", desc := "([II[IIZ[IIZ)Z", sig := { parameters := [(.array .int), .int, (.array .int), .int, .boolean, (.array .int), .int, .boolean], returnType := some .boolean }, accessFlags := 10, code := some k1c4 }
def k1c5 : Code := { maxStack := 8, maxLocals := 26, code := code, exceptionTable := #[], attributes := #[] }
def k1m5 : Method := { name := "law", desc := "(IIIIII)Z", sig := { parameters := [.int, .int, .int, .int, .int, .int], returnType := some .boolean }, accessFlags := 9, code := some k1c5 }
/-- com/example/quorum/quorum/FailedStatesContainsPinLaw -/
def k1 : Class := { plain "com/example/quorum/quorum/FailedStatesContainsPinLaw" (some 0) with
  accessFlags := 49
  interfaces := #[]
  cf := some (fileOf pool1 9 #[] #[{ accessFlags := 1, nameIndex := 5, descriptorIndex := 6, attributes := #[] }, { accessFlags := 10, nameIndex := 16, descriptorIndex := 17, attributes := #[] }, { accessFlags := 10, nameIndex := 20, descriptorIndex := 21, attributes := #[] }, { accessFlags := 10, nameIndex := 12, descriptorIndex := 13, attributes := #[] }, { accessFlags := 10, nameIndex := 24, descriptorIndex := 25, attributes := #[] }, { accessFlags := 9, nameIndex := 42, descriptorIndex := 43, attributes := #[] }] 49 2 #[] #[])
  fields := #[]
  methods := #[k1m0, k1m1, k1m2, k1m3, k1m4, k1m5]
  instanceTypes := #[]
  staticTypes := #[]
  resolved := Array.replicate 48 none
  statics := none }

def pool2 : Array CpInfo := pool [(1, .methodref 2 3), (0, .class_ 4), (0, .nameAndType 5 6), (0, u "java/lang/Object"), (0, u "<init>"), (0, u "()V"), (0, .fieldref 8 9), (0, .class_ 10), (0, .nameAndType 11 12), (0, u "com/example/quorum/quorum/FailedStates"), (0, u "lastSlot"), (0, u "I"), (0, .fieldref 8 14), (0, .nameAndType 15 12), (0, u "width"), (0, .fieldref 8 17), (0, .nameAndType 18 19), (0, u "entries"), (0, u "[I"), (0, .fieldref 8 21), (0, .nameAndType 22 23), (0, u "words"), (0, u "[J"), (0, .methodref 8 25), (0, .nameAndType 26 27), (0, u "find"), (0, u "([II)I"), (0, .methodref 8 29), (0, .nameAndType 30 31), (0, u "bit"), (0, u "(I)J"), (0, .methodref 33 34), (0, .class_ 35), (0, .nameAndType 36 37), (0, u "java/lang/System"), (0, u "arraycopy"), (0, u "(Ljava/lang/Object;ILjava/lang/Object;II)V"), (0, .fieldref 8 39), (0, .nameAndType 40 12), (0, u "used"), (3, .methodref 8 45), (0, .nameAndType 46 47), (0, u "holds"), (0, u "([II[II)Z"), (0, .methodref 8 49), (0, .nameAndType 50 51), (0, u "slot"), (0, u "([II[I[J)I"), (0, .integer 2654435769), (0, u "POSITIONS_PER_WORD"), (2, u "(I)V"), (2, u "contains"), (0, u "([II)Z"), (1, u "add"), (0, u "([II)V")] 4

def k2c0 : Code := { maxStack := 3, maxLocals := 2, code := prog_45_method_1_code, exceptionTable := #[], attributes := #[] }
def k2m0 : Method := { name := "<init>", desc := "(I)V", sig := { parameters := [.int], returnType := none }, accessFlags := 0, code := some k2c0 }
def k2c1 : Code := { maxStack := 4, maxLocals := 4, code := prog_45_method_2_code, exceptionTable := #[], attributes := #[] }
def k2m1 : Method := { name := "contains", desc := "([II)Z", sig := { parameters := [(.array .int), .int], returnType := some .boolean }, accessFlags := 0, code := some k2c1 }
def k2c2 : Code := { maxStack := 6, maxLocals := 5, code := prog_45_method_3_code, exceptionTable := #[], attributes := #[] }
def k2m2 : Method := { name := "add", desc := "([II)V", sig := { parameters := [(.array .int), .int], returnType := none }, accessFlags := 0, code := some k2c2 }
def k2c3 : Code := { maxStack := 5, maxLocals := 4, code := prog_45_method_4_code, exceptionTable := #[], attributes := #[] }
def k2m3 : Method := { name := "find", desc := "([II)I", sig := { parameters := [(.array .int), .int], returnType := some .int }, accessFlags := 2, code := some k2c3 }
def k2c4 : Code := { maxStack := 5, maxLocals := 10, code := prog_45_method_6_code, exceptionTable := #[], attributes := #[] }
def k2m4 : Method := { name := "slot", desc := "([II[I[J)I", sig := { parameters := [(.array .int), .int, (.array .int), (.array .long)], returnType := some .int }, accessFlags := 2, code := some k2c4 }
def k2c5 : Code := { maxStack := 3, maxLocals := 7, code := prog_45_method_7_code, exceptionTable := #[], attributes := #[] }
def k2m5 : Method := { name := "holds", desc := "([II[II)Z", sig := { parameters := [(.array .int), .int, (.array .int), .int], returnType := some .boolean }, accessFlags := 2, code := some k2c5 }
def k2c6 : Code := { maxStack := 4, maxLocals := 1, code := prog_45_method_8_code, exceptionTable := #[], attributes := #[] }
def k2m6 : Method := { name := "bit", desc := "(I)J", sig := { parameters := [.int], returnType := some .long }, accessFlags := 10, code := some k2c6 }
/-- com/example/quorum/quorum/FailedStates -/
def k2 : Class := { plain "com/example/quorum/quorum/FailedStates" (some 0) with
  accessFlags := 48
  interfaces := #[]
  cf := some (fileOf pool2 8 #[] #[{ accessFlags := 0, nameIndex := 5, descriptorIndex := 56, attributes := #[] }, { accessFlags := 0, nameIndex := 59, descriptorIndex := 60, attributes := #[] }, { accessFlags := 0, nameIndex := 62, descriptorIndex := 63, attributes := #[] }, { accessFlags := 2, nameIndex := 26, descriptorIndex := 27, attributes := #[] }, { accessFlags := 2, nameIndex := 50, descriptorIndex := 51, attributes := #[] }, { accessFlags := 2, nameIndex := 46, descriptorIndex := 47, attributes := #[] }, { accessFlags := 10, nameIndex := 30, descriptorIndex := 31, attributes := #[] }] 48 2 #[] #[{ accessFlags := 26, nameIndex := 53, descriptorIndex := 12, attributes := #[] }, { accessFlags := 18, nameIndex := 15, descriptorIndex := 12, attributes := #[] }, { accessFlags := 2, nameIndex := 18, descriptorIndex := 19, attributes := #[] }, { accessFlags := 2, nameIndex := 22, descriptorIndex := 23, attributes := #[] }, { accessFlags := 2, nameIndex := 40, descriptorIndex := 12, attributes := #[] }, { accessFlags := 2, nameIndex := 11, descriptorIndex := 12, attributes := #[] }])
  fields := #[{ name := "POSITIONS_PER_WORD", type := .int, accessFlags := 26, slot := 0, constantValue := 0 }, { name := "width", type := .int, accessFlags := 18, slot := 0, constantValue := 0 }, { name := "entries", type := (.array .int), accessFlags := 2, slot := 1, constantValue := 0 }, { name := "words", type := (.array .long), accessFlags := 2, slot := 2, constantValue := 0 }, { name := "used", type := .int, accessFlags := 2, slot := 3, constantValue := 0 }, { name := "lastSlot", type := .int, accessFlags := 2, slot := 4, constantValue := 0 }]
  methods := #[k2m0, k2m1, k2m2, k2m3, k2m4, k2m5, k2m6]
  instanceTypes := #[.int, (.array .int), (.array .long), .int, .int]
  staticTypes := #[.int]
  resolved := Array.replicate 68 none
  statics := none }

def pool3 : Array CpInfo := pool [(2, .class_ 4), (1, u "java/lang/Object"), (0, u "<init>"), (0, u "()V"), (1, .class_ 10), (1, u "java/lang/System"), (0, u "allowSecurityManager"), (0, u "I"), (16, u "cons"), (0, u "Ljava/io/Console;"), (77, .class_ 110), (1, u "java/lang/System$CallersHolder"), (43, u "initialErrStream"), (0, u "Ljava/io/PrintStream;"), (19, u "security"), (0, u "Ljava/lang/SecurityManager;"), (31, .class_ 209), (0, u "java/lang/System$1"), (7, u "props"), (0, u "Ljava/util/Properties;"), (2, u "lineSeparator"), (0, u "Ljava/lang/String;"), (96, .class_ 321), (1, u "java/lang/System$LoggerFinder"), (5, .class_ 328), (0, u "java/lang/System$Logger"), (67, u "err"), (2, u "out"), (91, u "notSupportedJnuEncoding"), (15, u "in"), (17, u "initialIn"), (0, u "Ljava/io/InputStream;"), (35, u "bootLayer"), (0, u "Ljava/lang/ModuleLayer;"), (99, .class_ 664), (0, u "java/lang/System$2"), (9, u "NEVER"), (2, u "MAYBE"), (49, u "arraycopy"), (0, u "(Ljava/lang/Object;ILjava/lang/Object;II)V"), (72, .class_ 802), (0, u "java/lang/System$Logger$Level")] 31

def k3m0 : Method := { name := "<init>", desc := "()V", sig := { parameters := [], returnType := none }, accessFlags := 2, code := none }
def k3m1 : Method := { name := "arraycopy", desc := "(Ljava/lang/Object;ILjava/lang/Object;II)V", sig := { parameters := [(.object "java/lang/Object"), .int, (.object "java/lang/Object"), .int, .int], returnType := none }, accessFlags := 265, code := none }
/-- java/lang/System -/
def k3 : Class := { plain "java/lang/System" (some 0) with
  accessFlags := 49
  interfaces := #[]
  cf := some (fileOf pool3 8 #[.nestMembers #[319, 327, 801, 108, 663, 208]] #[{ accessFlags := 2, nameIndex := 5, descriptorIndex := 6, attributes := #[] }, { accessFlags := 265, nameIndex := 727, descriptorIndex := 728, attributes := #[] }] 49 2 #[] #[{ accessFlags := 25, nameIndex := 507, descriptorIndex := 526, attributes := #[] }, { accessFlags := 25, nameIndex := 399, descriptorIndex := 155, attributes := #[] }, { accessFlags := 25, nameIndex := 396, descriptorIndex := 155, attributes := #[] }, { accessFlags := 10, nameIndex := 525, descriptorIndex := 526, attributes := #[] }, { accessFlags := 26, nameIndex := 674, descriptorIndex := 12, attributes := #[] }, { accessFlags := 26, nameIndex := 677, descriptorIndex := 12, attributes := #[] }, { accessFlags := 10, nameIndex := 11, descriptorIndex := 12, attributes := #[] }, { accessFlags := 74, nameIndex := 175, descriptorIndex := 176, attributes := #[] }, { accessFlags := 10, nameIndex := 491, descriptorIndex := 222, attributes := #[] }, { accessFlags := 74, nameIndex := 29, descriptorIndex := 30, attributes := #[] }, { accessFlags := 74, nameIndex := 154, descriptorIndex := 155, attributes := #[] }, { accessFlags := 10, nameIndex := 217, descriptorIndex := 218, attributes := #[] }, { accessFlags := 10, nameIndex := 221, descriptorIndex := 222, attributes := #[] }, { accessFlags := 8, nameIndex := 562, descriptorIndex := 563, attributes := #[] }])
  fields := #[{ name := "in", type := (.object "java/io/InputStream"), accessFlags := 25, slot := 0, constantValue := 0 }, { name := "out", type := (.object "java/io/PrintStream"), accessFlags := 25, slot := 1, constantValue := 0 }, { name := "err", type := (.object "java/io/PrintStream"), accessFlags := 25, slot := 2, constantValue := 0 }, { name := "initialIn", type := (.object "java/io/InputStream"), accessFlags := 10, slot := 3, constantValue := 0 }, { name := "NEVER", type := .int, accessFlags := 26, slot := 4, constantValue := 0 }, { name := "MAYBE", type := .int, accessFlags := 26, slot := 5, constantValue := 0 }, { name := "allowSecurityManager", type := .int, accessFlags := 10, slot := 6, constantValue := 0 }, { name := "security", type := (.object "java/lang/SecurityManager"), accessFlags := 74, slot := 7, constantValue := 0 }, { name := "notSupportedJnuEncoding", type := (.object "java/lang/String"), accessFlags := 10, slot := 8, constantValue := 0 }, { name := "cons", type := (.object "java/io/Console"), accessFlags := 74, slot := 9, constantValue := 0 }, { name := "initialErrStream", type := (.object "java/io/PrintStream"), accessFlags := 74, slot := 10, constantValue := 0 }, { name := "props", type := (.object "java/util/Properties"), accessFlags := 10, slot := 11, constantValue := 0 }, { name := "lineSeparator", type := (.object "java/lang/String"), accessFlags := 10, slot := 12, constantValue := 0 }, { name := "bootLayer", type := (.object "java/lang/ModuleLayer"), accessFlags := 8, slot := 13, constantValue := 0 }]
  methods := #[k3m0, k3m1]
  instanceTypes := #[]
  staticTypes := #[(.object "java/io/InputStream"), (.object "java/io/PrintStream"), (.object "java/io/PrintStream"), (.object "java/io/InputStream"), .int, .int, .int, (.object "java/lang/SecurityManager"), (.object "java/lang/String"), (.object "java/io/Console"), (.object "java/io/PrintStream"), (.object "java/util/Properties"), (.object "java/lang/String"), (.object "java/lang/ModuleLayer")]
  resolved := Array.replicate 834 none
  statics := none }

def pool4 : Array CpInfo := pool [(1, u "java/lang/Cloneable"), (0, .class_ 1), (0, u "java/lang/Object"), (0, .class_ 3)] 3

/-- java/lang/Cloneable -/
def k4 : Class := { plain "java/lang/Cloneable" (some 0) with
  accessFlags := 1537
  interfaces := #[]
  cf := some (fileOf pool4 2 #[] #[] 1537 4 #[] #[])
  fields := #[]
  methods := #[]
  instanceTypes := #[]
  staticTypes := #[]
  resolved := Array.replicate 8 none
  statics := none }

def pool5 : Array CpInfo := pool [(1, u "java/io/Serializable"), (0, .class_ 1), (0, u "java/lang/Object"), (0, .class_ 3)] 3

/-- java/io/Serializable -/
def k5 : Class := { plain "java/io/Serializable" (some 0) with
  accessFlags := 1537
  interfaces := #[]
  cf := some (fileOf pool5 2 #[] #[] 1537 4 #[] #[])
  fields := #[]
  methods := #[]
  instanceTypes := #[]
  staticTypes := #[]
  resolved := Array.replicate 8 none
  statics := none }

/-- the primitive byte -/
def k6 : Class := { plain "byte" none with kind := .primitive 'B', accessFlags := 0x411 }
/-- [B -/
def k7 : Class := { plain "[B" (some 0) with kind := .array 6 .byte, interfaces := #[4, 5], accessFlags := 1041 }

/-- the primitive int -/
def k8 : Class := { plain "int" none with kind := .primitive 'I', accessFlags := 0x411 }
/-- [I -/
def k9 : Class := { plain "[I" (some 0) with kind := .array 8 .int, interfaces := #[4, 5], accessFlags := 1041 }

/-- the primitive long -/
def k10 : Class := { plain "long" none with kind := .primitive 'J', accessFlags := 0x411 }
/-- [J -/
def k11 : Class := { plain "[J" (some 0) with kind := .array 10 .long, interfaces := #[4, 5], accessFlags := 1041 }

def heap : Heap := #[]
def classes : Array Class := #[k0, k1, k2, k3, k4, k5, k6, k7, k8, k9, k10, k11]
def interned : List (Array UInt16 × Addr) := []
def slotsUsed : Nat := 0
def theMethod : MethodId := ⟨1, 5⟩
def args0 : Array Value := #[.int 5, .int 7, .int 100, .int 9, .int 11, .int 48]
def aboutOver (below : List Frame) : State where
  vm := { classes := classes, interned := interned.toArray }
  heap := heap
  slotsUsed := slotsUsed
  threads := #[{ frames := .invoking theMethod args0 :: below }]
def below0 : List Frame := [.native { method := ⟨0, 0⟩, args := #[] }]
def about1 : State := aboutOver below0
def p0 : Program := .bare "" "" ""
def e0 : Env := launch0.env 0 0 0
theorem w_frames : about1.frames = Frame.invoking theMethod args0 :: below0 := rfl
set_option maxRecDepth 65536 in
theorem w_args : argsFit about1.vm theMethod args0 = true := by decide +kernel
set_option maxRecDepth 65536 in
theorem w_heap : heapFits about1 = true := by decide +kernel
set_option maxRecDepth 65536 in
theorem w_runnable : about1.curStatus? = some .runnable := by decide +kernel
set_option maxRecDepth 65536 in
theorem w_alone : about1.alone = true := by decide +kernel
set_option maxRecDepth 65536 in
theorem w_named : about1.methodNamed? x = some theMethod := by decide +kernel
set_option maxRecDepth 65536 in
theorem w_hears : about1.hears theMethod below0 = true := by decide +kernel
set_option maxRecDepth 65536 in
theorem w_ripe : about1.ripe theMethod args0 below0 = true := by decide +kernel
theorem w_running : about1.status = .running := rfl
set_option maxRecDepth 65536 in
theorem w_room : about1.hasRoom e0.platform room_1 = true :=
  launch0.hasRoom_least _ room_1 (by decide +kernel) (by decide +kernel) (by decide +kernel) (by decide +kernel) (by decide +kernel) (by decide +kernel)
theorem allAtoms_all (ts : List Jvm.Cond) (a : Array Jvm.Value) (st : Jvm.State) : (allAtoms ts).before a st = ts.all (fun c => c.before a st) := by
  induction ts with
  | nil => rfl
  | cons c t ih =>
    show (Jvm.Cond.and c (allAtoms t)).before a st = _
    rw [Jvm.Cond.before_and, ih, List.all_cons]
def words1 : List Jvm.Cond := Jvm.Cond.code x code maxLocals ret :: tables_1
/-- a 'code' word, met by the world's own term for the bytes: nothing is compared byte by byte -/
theorem code_word {y : MethodName} {bytes : ByteArray} {mx : Nat} {rt : Option FieldType} {a : Array Value} {s : State} {m : MethodId} {meth : Method} {c : Code} (h1 : s.methodNamed? y = some m) (h2 : s.vm.method? m = some meth) (h3 : meth.code = some c) (h4 : c.code = bytes)
    (h5 : (c.maxLocals == mx && c.exceptionTable.isEmpty && decide (c.maxStack ≤ mostOperands) && decide (meth.sig.returnType = rt) && !meth.locks && decide (parseMethodDescriptor y.desc = some meth.sig)) = true) : (Jvm.Cond.code y bytes mx rt).before a s = true := by
  simp only [Bool.and_eq_true, beq_iff_eq, Bool.not_eq_true', decide_eq_true_eq] at h5
  obtain ⟨⟨⟨⟨⟨g1, g2⟩, g3⟩, g4⟩, g5⟩, g6⟩ := h5
  simp [Cond.before, Cond.holds, Cond.value, h1, h2, h3, h4, g1, g2, g3, g4, g5, g6]
def isCode : Jvm.Cond → Bool
  | .code _ _ _ _ => true
  | _ => false
theorem all_split {L : List Jvm.Cond} {P : Jvm.Cond → Bool} (h1 : L.all (fun c => isCode c || P c) = true) (h2 : ∀ c ∈ L.filter isCode, P c = true) : L.all P = true := by
  refine List.all_eq_true.mpr fun c hc => ?_
  have h := List.all_eq_true.mp h1 c hc
  rcases Bool.eq_false_or_eq_true (isCode c) with hi | hi
  · exact h2 c (List.mem_filter.mpr ⟨hc, hi⟩)
  · simpa [hi] using h
set_option maxRecDepth 65536 in
theorem w_c0 : (Jvm.Cond.code x code maxLocals ret).before args0 about1 = true := code_word (m := ⟨1, 5⟩) (meth := k1m5) (c := k1c5) (by decide +kernel) rfl rfl rfl (by decide +kernel)
set_option maxRecDepth 65536 in
theorem w_c1 : (Jvm.Cond.code ({ cls := "com/example/quorum/quorum/FailedStatesContainsPinLaw", name := "pickKey", desc := "(I[I[II)[I" } : Jvm.MethodName) method_2_code (4 : Nat) (Option.some (Jvm.ClassFile.FieldType.array Jvm.ClassFile.FieldType.int))).before args0 about1 = true := code_word (m := ⟨1, 1⟩) (meth := k1m1) (c := k1c1) (by decide +kernel) rfl rfl rfl (by decide +kernel)
set_option maxRecDepth 65536 in
theorem w_c2 : (Jvm.Cond.code ({ cls := "com/example/quorum/quorum/FailedStatesContainsPinLaw", name := "pickPos", desc := "(IIII)I" } : Jvm.MethodName) method_3_code (4 : Nat) (Option.some Jvm.ClassFile.FieldType.int)).before args0 about1 = true := code_word (m := ⟨1, 2⟩) (meth := k1m2) (c := k1c2) (by decide +kernel) rfl rfl rfl (by decide +kernel)
set_option maxRecDepth 65536 in
theorem w_c3 : (Jvm.Cond.code ({ cls := "com/example/quorum/quorum/FailedStatesContainsPinLaw", name := "expect", desc := "([II[IIZ[IIZ)Z" } : Jvm.MethodName) method_5_code (8 : Nat) (Option.some Jvm.ClassFile.FieldType.boolean)).before args0 about1 = true := code_word (m := ⟨1, 4⟩) (meth := k1m4) (c := k1c4) (by decide +kernel) rfl rfl rfl (by decide +kernel)
set_option maxRecDepth 65536 in
theorem w_c4 : (Jvm.Cond.code ({ cls := "com/example/quorum/quorum/FailedStatesContainsPinLaw", name := "eq", desc := "([I[I)Z" } : Jvm.MethodName) method_4_code (2 : Nat) (Option.some Jvm.ClassFile.FieldType.boolean)).before args0 about1 = true := code_word (m := ⟨1, 3⟩) (meth := k1m3) (c := k1c3) (by decide +kernel) rfl rfl rfl (by decide +kernel)
set_option maxRecDepth 65536 in
theorem w_c5 : (Jvm.Cond.code ({ cls := "com/example/quorum/quorum/FailedStates", name := "<init>", desc := "(I)V" } : Jvm.MethodName) prog_45_method_1_code (2 : Nat) (Option.none : Option Jvm.ClassFile.FieldType)).before args0 about1 = true := code_word (m := ⟨2, 0⟩) (meth := k2m0) (c := k2c0) (by decide +kernel) rfl rfl rfl (by decide +kernel)
set_option maxRecDepth 65536 in
theorem w_c6 : (Jvm.Cond.code ({ cls := "java/lang/Object", name := "<init>", desc := "()V" } : Jvm.MethodName) object_method_1_code (1 : Nat) (Option.none : Option Jvm.ClassFile.FieldType)).before args0 about1 = true := code_word (m := ⟨0, 0⟩) (meth := k0m0) (c := k0c0) (by decide +kernel) rfl rfl rfl (by decide +kernel)
set_option maxRecDepth 65536 in
theorem w_c7 : (Jvm.Cond.code ({ cls := "com/example/quorum/quorum/FailedStates", name := "add", desc := "([II)V" } : Jvm.MethodName) prog_45_method_3_code (5 : Nat) (Option.none : Option Jvm.ClassFile.FieldType)).before args0 about1 = true := code_word (m := ⟨2, 2⟩) (meth := k2m2) (c := k2c2) (by decide +kernel) rfl rfl rfl (by decide +kernel)
set_option maxRecDepth 65536 in
theorem w_c8 : (Jvm.Cond.code ({ cls := "com/example/quorum/quorum/FailedStates", name := "find", desc := "([II)I" } : Jvm.MethodName) prog_45_method_4_code (4 : Nat) (Option.some Jvm.ClassFile.FieldType.int)).before args0 about1 = true := code_word (m := ⟨2, 3⟩) (meth := k2m3) (c := k2c3) (by decide +kernel) rfl rfl rfl (by decide +kernel)
set_option maxRecDepth 65536 in
theorem w_c9 : (Jvm.Cond.code ({ cls := "com/example/quorum/quorum/FailedStates", name := "slot", desc := "([II[I[J)I" } : Jvm.MethodName) prog_45_method_6_code (10 : Nat) (Option.some Jvm.ClassFile.FieldType.int)).before args0 about1 = true := code_word (m := ⟨2, 4⟩) (meth := k2m4) (c := k2c4) (by decide +kernel) rfl rfl rfl (by decide +kernel)
set_option maxRecDepth 65536 in
theorem w_c10 : (Jvm.Cond.code ({ cls := "com/example/quorum/quorum/FailedStates", name := "bit", desc := "(I)J" } : Jvm.MethodName) prog_45_method_8_code (1 : Nat) (Option.some Jvm.ClassFile.FieldType.long)).before args0 about1 = true := code_word (m := ⟨2, 6⟩) (meth := k2m6) (c := k2c6) (by decide +kernel) rfl rfl rfl (by decide +kernel)
set_option maxRecDepth 65536 in
theorem w_c11 : (Jvm.Cond.code ({ cls := "com/example/quorum/quorum/FailedStates", name := "contains", desc := "([II)Z" } : Jvm.MethodName) prog_45_method_2_code (4 : Nat) (Option.some Jvm.ClassFile.FieldType.boolean)).before args0 about1 = true := code_word (m := ⟨2, 1⟩) (meth := k2m1) (c := k2c1) (by decide +kernel) rfl rfl rfl (by decide +kernel)
set_option maxRecDepth 65536 in
theorem w_c12 : (Jvm.Cond.code ({ cls := "com/example/quorum/quorum/FailedStates", name := "holds", desc := "([II[II)Z" } : Jvm.MethodName) prog_45_method_7_code (7 : Nat) (Option.some Jvm.ClassFile.FieldType.boolean)).before args0 about1 = true := code_word (m := ⟨2, 5⟩) (meth := k2m5) (c := k2c5) (by decide +kernel) rfl rfl rfl (by decide +kernel)
def codes1 : List Jvm.Cond := [Jvm.Cond.code x code maxLocals ret, Jvm.Cond.code ({ cls := "com/example/quorum/quorum/FailedStatesContainsPinLaw", name := "pickKey", desc := "(I[I[II)[I" } : Jvm.MethodName) method_2_code (4 : Nat) (Option.some (Jvm.ClassFile.FieldType.array Jvm.ClassFile.FieldType.int)), Jvm.Cond.code ({ cls := "com/example/quorum/quorum/FailedStatesContainsPinLaw", name := "pickPos", desc := "(IIII)I" } : Jvm.MethodName) method_3_code (4 : Nat) (Option.some Jvm.ClassFile.FieldType.int), Jvm.Cond.code ({ cls := "com/example/quorum/quorum/FailedStatesContainsPinLaw", name := "expect", desc := "([II[IIZ[IIZ)Z" } : Jvm.MethodName) method_5_code (8 : Nat) (Option.some Jvm.ClassFile.FieldType.boolean), Jvm.Cond.code ({ cls := "com/example/quorum/quorum/FailedStatesContainsPinLaw", name := "eq", desc := "([I[I)Z" } : Jvm.MethodName) method_4_code (2 : Nat) (Option.some Jvm.ClassFile.FieldType.boolean), Jvm.Cond.code ({ cls := "com/example/quorum/quorum/FailedStates", name := "<init>", desc := "(I)V" } : Jvm.MethodName) prog_45_method_1_code (2 : Nat) (Option.none : Option Jvm.ClassFile.FieldType), Jvm.Cond.code ({ cls := "java/lang/Object", name := "<init>", desc := "()V" } : Jvm.MethodName) object_method_1_code (1 : Nat) (Option.none : Option Jvm.ClassFile.FieldType), Jvm.Cond.code ({ cls := "com/example/quorum/quorum/FailedStates", name := "add", desc := "([II)V" } : Jvm.MethodName) prog_45_method_3_code (5 : Nat) (Option.none : Option Jvm.ClassFile.FieldType), Jvm.Cond.code ({ cls := "com/example/quorum/quorum/FailedStates", name := "find", desc := "([II)I" } : Jvm.MethodName) prog_45_method_4_code (4 : Nat) (Option.some Jvm.ClassFile.FieldType.int), Jvm.Cond.code ({ cls := "com/example/quorum/quorum/FailedStates", name := "slot", desc := "([II[I[J)I" } : Jvm.MethodName) prog_45_method_6_code (10 : Nat) (Option.some Jvm.ClassFile.FieldType.int), Jvm.Cond.code ({ cls := "com/example/quorum/quorum/FailedStates", name := "bit", desc := "(I)J" } : Jvm.MethodName) prog_45_method_8_code (1 : Nat) (Option.some Jvm.ClassFile.FieldType.long), Jvm.Cond.code ({ cls := "com/example/quorum/quorum/FailedStates", name := "contains", desc := "([II)Z" } : Jvm.MethodName) prog_45_method_2_code (4 : Nat) (Option.some Jvm.ClassFile.FieldType.boolean), Jvm.Cond.code ({ cls := "com/example/quorum/quorum/FailedStates", name := "holds", desc := "([II[II)Z" } : Jvm.MethodName) prog_45_method_7_code (7 : Nat) (Option.some Jvm.ClassFile.FieldType.boolean)]
set_option maxRecDepth 65536 in
theorem codes_eq : words1.filter isCode = codes1 := rfl
theorem w_codes : ∀ c ∈ words1.filter isCode, c.before args0 about1 = true := by
  rw [codes_eq]
  intro c hc
  simp only [codes1, List.mem_cons, List.not_mem_nil, or_false] at hc
  rcases hc with rfl | rfl | rfl | rfl | rfl | rfl | rfl | rfl | rfl | rfl | rfl | rfl | rfl
  · exact w_c0
  · exact w_c1
  · exact w_c2
  · exact w_c3
  · exact w_c4
  · exact w_c5
  · exact w_c6
  · exact w_c7
  · exact w_c8
  · exact w_c9
  · exact w_c10
  · exact w_c11
  · exact w_c12
set_option maxRecDepth 65536 in
theorem w_t1 : (words1.take 24).all (fun c => isCode c || c.before args0 about1) = true := by decide +kernel
set_option maxRecDepth 65536 in
theorem w_t2 : ((words1.drop 24).take 24).all (fun c => isCode c || c.before args0 about1) = true := by decide +kernel
set_option maxRecDepth 65536 in
theorem w_t3 : ((words1.drop 24).drop 24).all (fun c => isCode c || c.before args0 about1) = true := by decide +kernel
theorem w_tables : (allAtoms (Jvm.Cond.code x code maxLocals ret :: tables_1)).before args0 about1 = true := by
  rw [allAtoms_all]
  show words1.all (fun c => c.before args0 about1) = true
  refine all_split ?_ w_codes
  rw [← List.take_append_drop 24 words1, List.all_append, w_t1, ← List.take_append_drop 24 (words1.drop 24), List.all_append, w_t2, w_t3]
  rfl
set_option maxRecDepth 65536 in
theorem w_case : (Jvm.Cond.and given_1 narrow_1).before args0 about1 = true := by decide +kernel
theorem w_applies : (headSpec (Jvm.Cond.code x code maxLocals ret :: tables_1) room_1).applies x e0.platform about1 = true :=
  (Spec.applies_iff w_frames).mpr ⟨w_running, w_runnable, w_alone, w_named, w_hears, w_ripe, w_room, w_tables⟩
theorem atStart : AtStart classFile x code maxLocals ret World_1 tables_1 room_1 Calls_1 rest_1 Pre_1 launch0 p0 e0 about1 theMethod args0 below0 :=
  ⟨lists_1, trivial, launch0.admits_env _ _ _, launch0.least_env, fairChoices_fair.cas, fairChoices_fair.clock, w_frames, w_args, w_heap, w_applies, trivial, trivial, w_case⟩
end start1
theorem witness_1 : WitnessClaimed_1 := ⟨start1.p0, start1.e0, start1.about1, start1.theMethod, start1.args0, start1.below0, start1.atStart⟩
end Jvm.Pilot.@@N@@
